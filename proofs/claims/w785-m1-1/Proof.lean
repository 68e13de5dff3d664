import JvmDerived
import JvmDerived.Pilot.@@N@@Statement
import JvmDerived.Pilot.@@N@@Code
set_option linter.unusedVariables false
set_option linter.unusedSimpArgs false

namespace Jvm.Own
open Jvm Jvm.ClassFile Sem Op Lib Jvm.Free Jvm.Stand Jvm.LawKit Jvm.RoadKit
/-! the heap as a law knows it: its own objects (address, class, fields) and arrays (address, kind, values) -/
abbrev OFld := String × String × String × Value
abbrev OObj := Addr × String × List OFld
abbrev OArr := Addr × FieldType × List Value
abbrev HD := List OObj × List OArr
def FldOk (Z : State) (a0 : Array Value) (h : Heap) (a : Addr) (C : String) (x : OFld) : Prop := Fld Z h a x.1 x.2.1 x.2.2.1 x.2.2.2 ∧ Laid Z a0 C x.1 x.2.1 x.2.2.1 ∧ ∃ t, parseFieldDescriptor x.2.2.1 = some t
def ObjOk (Z : State) (a0 : Array Value) (n0 : Nat) (h : Heap) (o : OObj) : Prop := n0 ≤ o.1 ∧ Exa Z h o.1 o.2.1 ∧ (∀ x ∈ o.2.2, FldOk Z a0 h o.1 o.2.1 x) ∧ (o.2.2.map fun x => x.2.1).Nodup
def ArrOk (Z : State) (n0 : Nat) (h : Heap) (r : OArr) : Prop := n0 ≤ r.1 ∧ ∃ c : Cell, Arr Z h r.1 c r.2.1 ∧ c.slots = r.2.2.toArray ∧ r.2.2.length < 2 ^ 31 ∧ ∀ v ∈ r.2.2, fits r.2.1 v = true
def adrs (D : HD) : List Addr := D.1.map (fun o => o.1) ++ D.2.map (fun r => r.1)
def Heaped (Z : State) (a0 : Array Value) (n0 : Nat) (h : Heap) (D : HD) : Prop := Old Z n0 h ∧ (∀ o ∈ D.1, ObjOk Z a0 n0 h o) ∧ (∀ r ∈ D.2, ArrOk Z n0 h r) ∧ (adrs D).Nodup
section HeapFacts
variable {Z : State} {a0 : Array Value} {n0 : Nat} {h h' : Heap} {D : HD}
theorem FldOk.ext {a : Addr} {C : String} {x : OFld} (F : FldOk Z a0 h a C x) (E : Ext h h') : FldOk Z a0 h' a C x := ⟨F.1.ext E, F.2⟩
theorem ObjOk.ext {o : OObj} (F : ObjOk Z a0 n0 h o) (E : Ext h h') : ObjOk Z a0 n0 h' o := ⟨F.1, F.2.1.ext E, fun x hx => (F.2.2.1 x hx).ext E, F.2.2.2⟩
theorem ArrOk.ext {r : OArr} (F : ArrOk Z n0 h r) (E : Ext h h') : ArrOk Z n0 h' r := by
  obtain ⟨g, c, A, q⟩ := F
  exact ⟨g, c, A.ext E, q⟩
theorem ObjOk.lt {o : OObj} (F : ObjOk Z a0 n0 h o) : o.1 < h.size := F.2.1.lt
theorem ArrOk.lt {r : OArr} (F : ArrOk Z n0 h r) : r.1 < h.size := by
  obtain ⟨g, c, A, q⟩ := F
  exact A.lt
theorem Heaped.lt (H : Heaped Z a0 n0 h D) : ∀ a ∈ adrs D, a < h.size := by
  intro a ha
  rcases List.mem_append.mp ha with q | q
  · obtain ⟨o, ho, rfl⟩ := List.mem_map.mp q
    exact (H.2.1 o ho).lt
  · obtain ⟨o, ho, rfl⟩ := List.mem_map.mp q
    exact (H.2.2.1 o ho).lt
theorem Heaped.fresh (H : Heaped Z a0 n0 h D) : h.size ∉ adrs D := fun q => Nat.lt_irrefl _ (H.lt _ q)
theorem Heaped.base (H : Heaped Z a0 n0 h D) : n0 ≤ h.size := by
  have := H.1.1
  have := H.1.2.1
  omega
theorem ObjOk.other {o : OObj} {a : Addr} {sl : Nat} {v : Value} (F : ObjOk Z a0 n0 h o) (W : Wr h h' a sl v) (q : o.1 ≠ a) : ObjOk Z a0 n0 h' o := ⟨F.1, F.2.1.wr W, fun x hx => ⟨(F.2.2.1 x hx).1.other W (Or.inl q), (F.2.2.1 x hx).2⟩, F.2.2.2⟩
theorem ArrOk.other {r : OArr} {a : Addr} {sl : Nat} {v : Value} (F : ArrOk Z n0 h r) (W : Wr h h' a sl v) (q : r.1 ≠ a) : ArrOk Z n0 h' r := by
  obtain ⟨g, c, A, z⟩ := F
  exact ⟨g, c, A.other W q, z⟩
theorem nodup_of {β γ : Type} {L : List β} {f : β → γ} (N : (L.map f).Nodup) {i j : Nat} {x z : β} (hi : L[i]? = some x) (hj : L[j]? = some z) (e : f x = f z) : i = j := by
  have P := List.pairwise_iff_getElem.mp N
  obtain ⟨li, ei⟩ := List.getElem?_eq_some_iff.mp hi
  obtain ⟨lj, ej⟩ := List.getElem?_eq_some_iff.mp hj
  rcases Nat.lt_trichotomy i j with q | q | q
  · exact absurd (by rw [List.getElem_map, List.getElem_map, ei, ej]; exact e) (P i j (by simpa using li) (by simpa using lj) q)
  · exact q
  · exact absurd (by rw [List.getElem_map, List.getElem_map, ei, ej]; exact e.symm) (P j i (by simpa using lj) (by simpa using li) q)
theorem map_set_same {β γ : Type} (L : List β) (f : β → γ) {i : Nat} {x z : β} (hi : L[i]? = some x) (e : f z = f x) : (L.set i z).map f = L.map f := by
  rw [List.map_set, e]
  obtain ⟨li, rfl⟩ := List.getElem?_eq_some_iff.mp hi
  apply List.ext_getElem?
  intro j
  by_cases q : i = j
  · subst q; simp [li]
  · simp [List.getElem?_set, q]
theorem mem_set_cases {β : Type} {L : List β} {i : Nat} {z w : β} (hw : w ∈ L.set i z) : w = z ∨ ∃ j, j ≠ i ∧ L[j]? = some w := by
  obtain ⟨j, hj⟩ := List.mem_iff_getElem?.mp hw
  rw [List.getElem?_set] at hj
  by_cases q : i = j
  · subst q
    by_cases lt : i < L.length
    · simp [lt] at hj; exact Or.inl hj.symm
    · simp [lt] at hj
  · rw [if_neg q] at hj
    exact Or.inr ⟨j, fun e => q e.symm, hj⟩
theorem Heaped.put {i j : Nat} {a : Addr} {C O n d : String} {fs : List OFld} {v w : Value} (H : Heaped Z a0 n0 h D) (hi : D.1[i]? = some (a, C, fs)) (hj : fs[j]? = some (O, n, d, w)) (W : Wr h h' a (RoadKit.slotOf Z O n d) v) :
    Heaped Z a0 n0 h' (D.1.set i (a, C, fs.set j (O, n, d, v)), D.2) := by
  have HO := H.2.1 _ (List.mem_of_getElem? hi)
  have ND := H.2.2.2
  refine ⟨H.1.wr W HO.1, fun o ho => ?_, fun r hr => ?_, ?_⟩
  · rcases mem_set_cases ho with rfl | ⟨k, hk, ek⟩
    · refine ⟨HO.1, HO.2.1.wr W, fun x hx => ?_, ?_⟩
      · rcases mem_set_cases hx with rfl | ⟨q, hq, eq⟩
        · have F := HO.2.2.1 _ (List.mem_of_getElem? hj)
          exact ⟨F.1.same W, F.2⟩
        · have F := HO.2.2.1 _ (List.mem_of_getElem? eq)
          have G := HO.2.2.1 _ (List.mem_of_getElem? hj)
          refine ⟨F.1.other W (Or.inr ?_), F.2⟩
          obtain ⟨t1, e1⟩ := F.2.2
          obtain ⟨t2, e2⟩ := G.2.2
          exact slot_ne F.2.1 G.2.1 (fun e => hq (nodup_of HO.2.2.2 eq hj e)) e1 e2
      · show ((fs.set j (O, n, d, v)).map fun x => x.2.1).Nodup
        rw [map_set_same fs (fun x => x.2.1) (z := (O, n, d, v)) hj rfl]; exact HO.2.2.2
    · refine (H.2.1 o (List.mem_of_getElem? ek)).other W fun e => hk ?_
      exact nodup_of (List.nodup_append.mp ND).1 ek hi e
  · refine (H.2.2.1 r hr).other W fun e => ?_
    exact (List.nodup_append.mp ND).2.2 a (List.mem_map.mpr ⟨_, List.mem_of_getElem? hi, rfl⟩) r.1 (List.mem_map.mpr ⟨_, hr, rfl⟩) e.symm
  · show (adrs (D.1.set i (a, C, fs.set j (O, n, d, v)), D.2)).Nodup
    have q : adrs (D.1.set i (a, C, fs.set j (O, n, d, v)), D.2) = adrs D := congrArg (fun q => q ++ D.2.map (fun r => r.1)) (map_set_same D.1 (fun o => o.1) (z := (a, C, fs.set j (O, n, d, v))) hi rfl)
    rw [q]; exact ND
theorem Heaped.store {i k : Nat} {a : Addr} {ty : FieldType} {vs : List Value} {v : Value} (H : Heaped Z a0 n0 h D) (hi : D.2[i]? = some (a, ty, vs)) (hv : fits ty v = true) (W : Wr h h' a k v) :
    Heaped Z a0 n0 h' (D.1, D.2.set i (a, ty, vs.set k v)) := by
  have HA := H.2.2.1 _ (List.mem_of_getElem? hi)
  have ND := H.2.2.2
  refine ⟨H.1.wr W HA.1, fun o ho => ?_, fun r hr => ?_, ?_⟩
  · refine (H.2.1 o ho).other W fun e => ?_
    exact (List.nodup_append.mp ND).2.2 o.1 (List.mem_map.mpr ⟨_, ho, rfl⟩) a (List.mem_map.mpr ⟨_, List.mem_of_getElem? hi, rfl⟩) e
  · rcases mem_set_cases hr with rfl | ⟨q, hq, eq⟩
    · obtain ⟨g, c, A, e1, e2, e3⟩ := HA
      refine ⟨g, _, A.same W, ?_, ?_, fun w hw => ?_⟩
      · show c.slots.setIfInBounds k v = _
        rw [e1]; simp
      · show (vs.set k v).length < _
        rw [List.length_set]; exact e2
      · rcases List.mem_or_eq_of_mem_set hw with q | q
        · exact e3 w q
        · rw [q]; exact hv
    · refine (H.2.2.1 r (List.mem_of_getElem? eq)).other W fun e => hq ?_
      exact nodup_of (List.nodup_append.mp ND).2.1 eq hi e
  · show (adrs (D.1, D.2.set i (a, ty, vs.set k v))).Nodup
    have q : adrs (D.1, D.2.set i (a, ty, vs.set k v)) = adrs D := congrArg (fun q => D.1.map (fun r => r.1) ++ q) (map_set_same D.2 (fun o => o.1) (z := (a, ty, vs.set k v)) hi rfl)
    rw [q]; exact ND
theorem Old.ext' {n0 : Nat} (X : Old Z n0 h) (E : Ext h h') : Old Z n0 h' := X.ext E
def FieldsOk (Z : State) (a0 : Array Value) (C : String) (fs : List OFld) : Prop := (∀ x ∈ fs, Laid Z a0 C x.1 x.2.1 x.2.2.1 ∧ ∃ ty, parseFieldDescriptor x.2.2.1 = some ty ∧ x.2.2.2 = defaultValue ty) ∧ (fs.map fun x => x.2.1).Nodup
theorem FieldsOk.nil (C : String) : FieldsOk Z a0 C [] := ⟨fun _ h => (nomatch h), List.nodup_nil⟩
theorem FieldsOk.cons {C O n d : String} {v : Value} {fs : List OFld} {ty : FieldType} (L : Laid Z a0 C O n d) (hty : parseFieldDescriptor d = some ty) (hv : v = defaultValue ty) (hn : n ∉ fs.map fun x => x.2.1) (F : FieldsOk Z a0 C fs) : FieldsOk Z a0 C ((O, n, d, v) :: fs) := by
  refine ⟨fun x hx => ?_, ?_⟩
  · rcases List.mem_cons.mp hx with rfl | hx
    · exact ⟨L, ty, hty, hv⟩
    · exact F.1 x hx
  · rw [List.map_cons]; exact List.nodup_cons.mpr ⟨hn, F.2⟩
theorem Heaped.new {C : String} {fs : List OFld} (H : Heaped Z a0 n0 h D) (E : Ext h h') (A : Exa Z h' h.size C) (F : FieldsOk Z a0 C fs)
    (Dv : ∀ {O nm d : String} {ty : FieldType}, Laid Z a0 C O nm d → parseFieldDescriptor d = some ty → Fld Z h' h.size O nm d (defaultValue ty)) : Heaped Z a0 n0 h' ((h.size, C, fs) :: D.1, D.2) := by
  refine ⟨H.1.ext E, fun o ho => ?_, fun r hr => (H.2.2.1 r hr).ext E, ?_⟩
  · rcases List.mem_cons.mp ho with rfl | ho
    · refine ⟨H.base, A, fun x hx => ?_, F.2⟩
      obtain ⟨L, ty, h1, h2⟩ := F.1 x hx
      exact ⟨by rw [h2]; exact Dv L h1, L, ty, h1⟩
    · exact (H.2.1 o ho).ext E
  · exact List.nodup_cons.mpr ⟨H.fresh, H.2.2.2⟩
theorem Heaped.newArr {ty : FieldType} {c : Cell} {vs : List Value} (H : Heaped Z a0 n0 h D) (E : Ext h h') (A : Arr Z h' h.size c ty) (e1 : c.slots = vs.toArray) (e2 : vs.length < 2 ^ 31) (e3 : ∀ v ∈ vs, fits ty v = true) : Heaped Z a0 n0 h' (D.1, (h.size, ty, vs) :: D.2) := by
  refine ⟨H.1.ext E, fun o ho => (H.2.1 o ho).ext E, fun r hr => ?_, ?_⟩
  · rcases List.mem_cons.mp hr with rfl | hr
    · exact ⟨H.base, c, A, e1, e2, e3⟩
    · exact (H.2.2.1 r hr).ext E
  · have q : (adrs (D.1, (h.size, ty, vs) :: D.2)).Perm (h.size :: adrs D) := by
      unfold adrs; simp only [List.map_cons]; exact List.perm_middle
    exact q.nodup_iff.mpr (List.nodup_cons.mpr ⟨H.fresh, H.2.2.2⟩)
theorem Heaped.perm {D' : HD} (H : Heaped Z a0 n0 h D) (q1 : D'.1.Perm D.1) (q2 : D'.2.Perm D.2) : Heaped Z a0 n0 h D' := by
  refine ⟨H.1, fun o ho => H.2.1 o (q1.mem_iff.mp ho), fun o ho => H.2.2.1 o (q2.mem_iff.mp ho), ?_⟩
  exact ((q1.map _).append (q2.map _)).nodup_iff.mpr H.2.2.2
def bringL {β : Type} (i : Nat) (L : List β) : List β := match L[i]? with
  | some x => x :: (L.take i ++ L.drop (i + 1))
  | none => L
theorem bringL_perm {β : Type} (i : Nat) (L : List β) : (bringL i L).Perm L := by
  unfold bringL
  split
  · rename_i x hx
    obtain ⟨li, rfl⟩ := List.getElem?_eq_some_iff.mp hx
    have q : L = L.take i ++ L[i] :: L.drop (i + 1) := by rw [← List.drop_eq_getElem_cons li, List.take_append_drop]
    have p := (List.perm_middle (a := L[i]) (l₁ := L.take i) (l₂ := L.drop (i + 1))).symm
    rw [← q] at p
    exact p
  · exact List.Perm.refl _
end HeapFacts
/-! a contract, and a run from a point of a body to its end -/
def Con (l : Launch) (Z : State) (a0 : Array Value) (n0 : Nat) (ws : List Jvm.Cond) (y : MethodName) (bytes : ByteArray) (maxL : Nat) (ret : Option FieldType) (rm : Room) (as' : Array Value) (D : HD) (Ψ : Option Value → HD → Prop) : Prop :=
  ∀ h, Heaped Z a0 n0 h D → MetFree l y (head1 (Jvm.Cond.code y bytes maxL ret :: ws) rm) (fun a U => a = as' ∧ Z.Warmed39 U.vm ∧ U.heap = h) (fun _ _ _ _ _ => True) (fun _ U o U' => ∃ v L, o = .returned v ∧ (Fr n0 L ∧ ∃ D', Ψ v D' ∧ Heaped Z a0 n0 U'.heap D') ∧ FrameEnd U o U' L rm.cells rm.slots)
def Run (Z : State) (a0 : Array Value) (n0 : Nat) (p : Program) (l : Launch) (e : Env) (R : Room) (s : State) (m : MethodId) (args : Array Value) (below : List Frame) (meth : Method) (c : Code) (Ψ : Option Value → HD → Prop) (D : HD) (cells slots pc : Nat) (L : Array Slot) (S : List Value) : Prop :=
  ∀ (T : State) (locs : List Loc), Stand p l e R s m args below meth c T locs cells slots → Fr n0 locs → Heaped Z a0 n0 T.heap D →
    ∃ t o, Steps p.tables e below (T.setTop (mkF m pc L S)) t ∧ t.status = .running ∧ Ended t below o ∧ ∃ v L', o = .returned v ∧ (Fr n0 L' ∧ ∃ D', Ψ v D' ∧ Heaped Z a0 n0 t.heap D') ∧ FrameEnd s o t L' R.cells R.slots
def Ctx (Z : State) (y : MethodName) (bytes : ByteArray) (maxL : Nat) (ret : Option FieldType) (p : Program) (s : State) (m : MethodId) (meth : Method) (c : Code) : Prop :=
  p.tables.exec = Jvm.exec ∧ Z.Warmed39 s.vm ∧ c.code = bytes ∧ c.maxLocals = maxL ∧ s.vm.findClass y.cls = some m.cls ∧ meth.name = y.name ∧ meth.sig.returnType = ret ∧ meth.locks = false
def Ret (v : Option Value) (D : HD) (w : Option Value) (E : HD) : Prop := w = v ∧ E = D
theorem Con.of_run {l : Launch} {Z : State} {a0 : Array Value} {n0 : Nat} {ws : List Jvm.Cond} {y : MethodName} {bytes : ByteArray} {maxL : Nat} {ret : Option FieldType} {rm : Room} {as' : Array Value} {D : HD} {Ψ : Option Value → HD → Prop} (hp : plainFor y = true) {L0 : Array Slot} (hL : ∀ m, entryFrame m as' maxL = mkF m 0 L0 [])
    (B : ∀ p e s m below meth c, Ctx Z y bytes maxL ret p s m meth c → Run Z a0 n0 p l e rm s m as' below meth c Ψ D 0 0 0 L0 []) : Con l Z a0 n0 ws y bytes maxL ret rm as' D Ψ := by
  intro h H
  refine MetFree.of_bodySF hp hisR ?_
  intro p e s m args below meth c s₁ Bd hml0 hP hK
  obtain ⟨rfl, hZ, hh⟩ := hP
  have e0 : s₁.heap = h := by rw [← hh, Bd.state]; rfl
  have X0 : Stand p l e rm s m args below meth c s₁ [] 0 0 := Stand.of_body Bd
  obtain ⟨t, o, st, r⟩ := B p e s m below meth c ⟨Bd.exec, hZ, Bd.bytes, hml0, findClass_of_methodNamed Bd.named, (name_of_methodNamed Bd.named Bd.method).1, Bd.returns, Bd.notSynchronized⟩ s₁ [] X0 (Fr.nil n0) (by rw [e0]; exact H)
  exact ⟨t, o, castTop (hL m) st, r⟩
def rel (cd : ClassFile.Cond) (x y : Int32) : Prop := match cd with
  | .eq => x = y
  | .ne => x ≠ y
  | .lt => x < y
  | .ge => y ≤ x
  | .gt => y < x
  | .le => x ≤ y
def relL (cd : ClassFile.Cond) (x y : Int64) : Prop := match cd with
  | .eq => x = y
  | .ne => x ≠ y
  | .lt => x < y
  | .ge => y ≤ x
  | .gt => y < x
  | .le => x ≤ y
theorem rel_iff (cd : ClassFile.Cond) (x y : Int32) : if_icmp.holds cd x y = true ↔ rel cd x y := by
  cases cd
  · show _ ↔ x = y
    by_cases q : x = y
    · rw [(teq q).1]; exact ⟨fun _ => q, fun _ => rfl⟩
    · rw [(feq q).1]; exact ⟨fun h => (Bool.noConfusion h), fun h => absurd h q⟩
  · show _ ↔ x ≠ y
    by_cases q : x = y
    · rw [(teq q).2]; exact ⟨fun h => (Bool.noConfusion h), fun h => absurd q h⟩
    · rw [(feq q).2]; exact ⟨fun _ => q, fun _ => rfl⟩
  · show _ ↔ x < y
    by_cases q : x < y
    · rw [(tlt q).1]; exact ⟨fun _ => q, fun _ => rfl⟩
    · rw [(flt q).1]; exact ⟨fun h => (Bool.noConfusion h), fun h => absurd h q⟩
  · show _ ↔ y ≤ x
    by_cases q : x < y
    · rw [(tlt q).2.1]; exact ⟨fun h => (Bool.noConfusion h), fun h => absurd q (Int32.not_lt.mpr h)⟩
    · rw [(flt q).2.1]; exact ⟨fun _ => Int32.not_lt.mp q, fun _ => rfl⟩
  · show _ ↔ y < x
    by_cases q : y < x
    · rw [(tlt q).2.2.1]; exact ⟨fun _ => q, fun _ => rfl⟩
    · rw [(flt q).2.2.1]; exact ⟨fun h => (Bool.noConfusion h), fun h => absurd h q⟩
  · show _ ↔ x ≤ y
    by_cases q : y < x
    · rw [(tlt q).2.2.2]; exact ⟨fun h => (Bool.noConfusion h), fun h => absurd q (Int32.not_lt.mpr h)⟩
    · rw [(flt q).2.2.2]; exact ⟨fun _ => Int32.not_lt.mp q, fun _ => rfl⟩
theorem relL_iff (cd : ClassFile.Cond) (x y : Int64) : if_icmp.holds cd (lcmpW x y) 0 = true ↔ relL cd x y := by
  rw [rel_iff, lcW]
  cases cd
  · exact lc_eq x y
  · exact not_congr (lc_eq x y)
  · exact lc_lt x y
  · exact lc_ge x y
  · exact lc_gt x y
  · exact lc_le x y
section Runs
variable {Z : State} {a0 : Array Value} {n0 : Nat} {p : Program} {l : Launch} {e : Env} {R : Room} {s : State} {m : MethodId} {args : Array Value} {below : List Frame} {meth : Method} {c : Code} {Ψ : Option Value → HD → Prop} {D : HD} {cells slots pc : Nat} {L : Array Slot} {S : List Value} {y : MethodName} {bytes : ByteArray} {maxL : Nat} {ret : Option FieldType}

theorem Run.iconst (K : Ctx Z y bytes maxL ret p s m meth c) {i : Int} {v : Int32} {pc' : Nat} (hd : decode bytes pc = .ok (.iconst i, 1)) (hp : pc + 1 = pc') (hv : Int32.ofInt i = v) (k : Run Z a0 n0 p l e R s m args below meth c Ψ D cells slots pc' L (.int v :: S)) : Run Z a0 n0 p l e R s m args below meth c Ψ D cells slots pc L S := by
  subst hp hv
  intro T locs X N H
  obtain ⟨t, o, st, r⟩ := k T locs X N H
  exact ⟨t, o, XS.iconst X.here K.1 rfl (hb K.2.2.1 hd) st, r⟩
theorem Run.bipush (K : Ctx Z y bytes maxL ret p s m meth c) {i : Int} {v : Int32} {pc' : Nat} (hd : decode bytes pc = .ok (.bipush i, 2)) (hp : pc + 2 = pc') (hv : (Int8.ofInt i).toInt32 = v) (k : Run Z a0 n0 p l e R s m args below meth c Ψ D cells slots pc' L (.int v :: S)) : Run Z a0 n0 p l e R s m args below meth c Ψ D cells slots pc L S := by
  subst hp hv
  intro T locs X N H
  obtain ⟨t, o, st, r⟩ := k T locs X N H
  exact ⟨t, o, XS.bipush X.here K.1 rfl (hb K.2.2.1 hd) st, r⟩
theorem Run.sipush (K : Ctx Z y bytes maxL ret p s m meth c) {i : Int} {v : Int32} {pc' : Nat} (hd : decode bytes pc = .ok (.sipush i, 3)) (hp : pc + 3 = pc') (hv : (Int16.ofInt i).toInt32 = v) (k : Run Z a0 n0 p l e R s m args below meth c Ψ D cells slots pc' L (.int v :: S)) : Run Z a0 n0 p l e R s m args below meth c Ψ D cells slots pc L S := by
  subst hp hv
  intro T locs X N H
  obtain ⟨t, o, st, r⟩ := k T locs X N H
  exact ⟨t, o, XS.sipush X.here K.1 rfl (hb K.2.2.1 hd) st, r⟩
theorem Run.lconst (K : Ctx Z y bytes maxL ret p s m meth c) {i : Fin 2} {v : Int64} {pc' : Nat} (hd : decode bytes pc = .ok (.lconst i, 1)) (hp : pc + 1 = pc') (hv : Int64.ofNat i = v) (k : Run Z a0 n0 p l e R s m args below meth c Ψ D cells slots pc' L (.long v :: S)) : Run Z a0 n0 p l e R s m args below meth c Ψ D cells slots pc L S := by
  subst hp hv
  intro T locs X N H
  obtain ⟨t, o, st, r⟩ := k T locs X N H
  exact ⟨t, o, XS.lconst X.here K.1 rfl (hb K.2.2.1 hd) st, r⟩
theorem Run.aconstNull (K : Ctx Z y bytes maxL ret p s m meth c) {pc' : Nat} (hd : decode bytes pc = .ok (.aconst_null, 1)) (hp : pc + 1 = pc') (k : Run Z a0 n0 p l e R s m args below meth c Ψ D cells slots pc' L (.null :: S)) : Run Z a0 n0 p l e R s m args below meth c Ψ D cells slots pc L S := by
  subst hp
  intro T locs X N H
  obtain ⟨t, o, st, r⟩ := k T locs X N H
  exact ⟨t, o, XS.aconstNull X.here K.1 rfl (hb K.2.2.1 hd) st, r⟩
theorem Run.iadd (K : Ctx Z y bytes maxL ret p s m meth c) {x z : Int32} {pc' : Nat} (hd : decode bytes pc = .ok (.iadd, 1)) (hp : pc + 1 = pc') (k : Run Z a0 n0 p l e R s m args below meth c Ψ D cells slots pc' L (.int (x + z) :: S)) : Run Z a0 n0 p l e R s m args below meth c Ψ D cells slots pc L (.int z :: .int x :: S) := by
  subst hp
  intro T locs X N H
  obtain ⟨t, o, st, r⟩ := k T locs X N H
  exact ⟨t, o, XS.iadd X.here K.1 rfl (hb K.2.2.1 hd) rfl st, r⟩
theorem Run.isub (K : Ctx Z y bytes maxL ret p s m meth c) {x z : Int32} {pc' : Nat} (hd : decode bytes pc = .ok (.isub, 1)) (hp : pc + 1 = pc') (k : Run Z a0 n0 p l e R s m args below meth c Ψ D cells slots pc' L (.int (x - z) :: S)) : Run Z a0 n0 p l e R s m args below meth c Ψ D cells slots pc L (.int z :: .int x :: S) := by
  subst hp
  intro T locs X N H
  obtain ⟨t, o, st, r⟩ := k T locs X N H
  exact ⟨t, o, XS.isub X.here K.1 rfl (hb K.2.2.1 hd) rfl st, r⟩
theorem Run.imul (K : Ctx Z y bytes maxL ret p s m meth c) {x z : Int32} {pc' : Nat} (hd : decode bytes pc = .ok (.imul, 1)) (hp : pc + 1 = pc') (k : Run Z a0 n0 p l e R s m args below meth c Ψ D cells slots pc' L (.int (x * z) :: S)) : Run Z a0 n0 p l e R s m args below meth c Ψ D cells slots pc L (.int z :: .int x :: S) := by
  subst hp
  intro T locs X N H
  obtain ⟨t, o, st, r⟩ := k T locs X N H
  exact ⟨t, o, XS.imul X.here K.1 rfl (hb K.2.2.1 hd) rfl st, r⟩
theorem Run.iand (K : Ctx Z y bytes maxL ret p s m meth c) {x z : Int32} {pc' : Nat} (hd : decode bytes pc = .ok (.iand, 1)) (hp : pc + 1 = pc') (k : Run Z a0 n0 p l e R s m args below meth c Ψ D cells slots pc' L (.int (x &&& z) :: S)) : Run Z a0 n0 p l e R s m args below meth c Ψ D cells slots pc L (.int z :: .int x :: S) := by
  subst hp
  intro T locs X N H
  obtain ⟨t, o, st, r⟩ := k T locs X N H
  exact ⟨t, o, XS.iand X.here K.1 rfl (hb K.2.2.1 hd) rfl st, r⟩
theorem Run.ior (K : Ctx Z y bytes maxL ret p s m meth c) {x z : Int32} {pc' : Nat} (hd : decode bytes pc = .ok (.ior, 1)) (hp : pc + 1 = pc') (k : Run Z a0 n0 p l e R s m args below meth c Ψ D cells slots pc' L (.int (x ||| z) :: S)) : Run Z a0 n0 p l e R s m args below meth c Ψ D cells slots pc L (.int z :: .int x :: S) := by
  subst hp
  intro T locs X N H
  obtain ⟨t, o, st, r⟩ := k T locs X N H
  exact ⟨t, o, XS.ior X.here K.1 rfl (hb K.2.2.1 hd) rfl st, r⟩
theorem Run.ixor (K : Ctx Z y bytes maxL ret p s m meth c) {x z : Int32} {pc' : Nat} (hd : decode bytes pc = .ok (.ixor, 1)) (hp : pc + 1 = pc') (k : Run Z a0 n0 p l e R s m args below meth c Ψ D cells slots pc' L (.int (x ^^^ z) :: S)) : Run Z a0 n0 p l e R s m args below meth c Ψ D cells slots pc L (.int z :: .int x :: S) := by
  subst hp
  intro T locs X N H
  obtain ⟨t, o, st, r⟩ := k T locs X N H
  exact ⟨t, o, XS.ixor X.here K.1 rfl (hb K.2.2.1 hd) rfl st, r⟩
theorem Run.ishl (K : Ctx Z y bytes maxL ret p s m meth c) {x z : Int32} {pc' : Nat} (hd : decode bytes pc = .ok (.ishl, 1)) (hp : pc + 1 = pc') (k : Run Z a0 n0 p l e R s m args below meth c Ψ D cells slots pc' L (.int (x <<< (z &&& 31)) :: S)) : Run Z a0 n0 p l e R s m args below meth c Ψ D cells slots pc L (.int z :: .int x :: S) := by
  subst hp
  intro T locs X N H
  obtain ⟨t, o, st, r⟩ := k T locs X N H
  exact ⟨t, o, XS.ishl X.here K.1 rfl (hb K.2.2.1 hd) rfl st, r⟩
theorem Run.ishr (K : Ctx Z y bytes maxL ret p s m meth c) {x z : Int32} {pc' : Nat} (hd : decode bytes pc = .ok (.ishr, 1)) (hp : pc + 1 = pc') (k : Run Z a0 n0 p l e R s m args below meth c Ψ D cells slots pc' L (.int (x >>> (z &&& 31)) :: S)) : Run Z a0 n0 p l e R s m args below meth c Ψ D cells slots pc L (.int z :: .int x :: S) := by
  subst hp
  intro T locs X N H
  obtain ⟨t, o, st, r⟩ := k T locs X N H
  exact ⟨t, o, XS.ishr X.here K.1 rfl (hb K.2.2.1 hd) rfl st, r⟩
theorem Run.iushr (K : Ctx Z y bytes maxL ret p s m meth c) {x z : Int32} {pc' : Nat} (hd : decode bytes pc = .ok (.iushr, 1)) (hp : pc + 1 = pc') (k : Run Z a0 n0 p l e R s m args below meth c Ψ D cells slots pc' L (.int ((x.toUInt32 >>> (z &&& 31).toUInt32).toInt32) :: S)) : Run Z a0 n0 p l e R s m args below meth c Ψ D cells slots pc L (.int z :: .int x :: S) := by
  subst hp
  intro T locs X N H
  obtain ⟨t, o, st, r⟩ := k T locs X N H
  exact ⟨t, o, XS.iushr X.here K.1 rfl (hb K.2.2.1 hd) rfl st, r⟩
theorem Run.idiv (K : Ctx Z y bytes maxL ret p s m meth c) {x z : Int32} {pc' : Nat} (hd : decode bytes pc = .ok (.idiv, 1)) (hp : pc + 1 = pc') (hz : z ≠ 0) (k : Run Z a0 n0 p l e R s m args below meth c Ψ D cells slots pc' L (.int (x / z) :: S)) : Run Z a0 n0 p l e R s m args below meth c Ψ D cells slots pc L (.int z :: .int x :: S) := by
  subst hp
  intro T locs X N H
  obtain ⟨t, o, st, r⟩ := k T locs X N H
  exact ⟨t, o, XS.idiv X.here K.1 rfl (hb K.2.2.1 hd) rfl hz st, r⟩
theorem Run.irem (K : Ctx Z y bytes maxL ret p s m meth c) {x z : Int32} {pc' : Nat} (hd : decode bytes pc = .ok (.irem, 1)) (hp : pc + 1 = pc') (hz : z ≠ 0) (k : Run Z a0 n0 p l e R s m args below meth c Ψ D cells slots pc' L (.int (x % z) :: S)) : Run Z a0 n0 p l e R s m args below meth c Ψ D cells slots pc L (.int z :: .int x :: S) := by
  subst hp
  intro T locs X N H
  obtain ⟨t, o, st, r⟩ := k T locs X N H
  exact ⟨t, o, iremM X K.1 rfl (hb K.2.2.1 hd) rfl hz st, r⟩
theorem Run.ineg (K : Ctx Z y bytes maxL ret p s m meth c) {x : Int32} {pc' : Nat} (hd : decode bytes pc = .ok (.ineg, 1)) (hp : pc + 1 = pc') (k : Run Z a0 n0 p l e R s m args below meth c Ψ D cells slots pc' L (.int (-x) :: S)) : Run Z a0 n0 p l e R s m args below meth c Ψ D cells slots pc L (.int x :: S) := by
  subst hp
  intro T locs X N H
  obtain ⟨t, o, st, r⟩ := k T locs X N H
  exact ⟨t, o, XS.ineg X.here K.1 rfl (hb K.2.2.1 hd) rfl st, r⟩
theorem Run.ladd (K : Ctx Z y bytes maxL ret p s m meth c) {x z : Int64} {pc' : Nat} (hd : decode bytes pc = .ok (.ladd, 1)) (hp : pc + 1 = pc') (k : Run Z a0 n0 p l e R s m args below meth c Ψ D cells slots pc' L (.long (x + z) :: S)) : Run Z a0 n0 p l e R s m args below meth c Ψ D cells slots pc L (.long z :: .long x :: S) := by
  subst hp
  intro T locs X N H
  obtain ⟨t, o, st, r⟩ := k T locs X N H
  exact ⟨t, o, XS.ladd X.here K.1 rfl (hb K.2.2.1 hd) rfl st, r⟩
theorem Run.lsub (K : Ctx Z y bytes maxL ret p s m meth c) {x z : Int64} {pc' : Nat} (hd : decode bytes pc = .ok (.lsub, 1)) (hp : pc + 1 = pc') (k : Run Z a0 n0 p l e R s m args below meth c Ψ D cells slots pc' L (.long (x - z) :: S)) : Run Z a0 n0 p l e R s m args below meth c Ψ D cells slots pc L (.long z :: .long x :: S) := by
  subst hp
  intro T locs X N H
  obtain ⟨t, o, st, r⟩ := k T locs X N H
  exact ⟨t, o, XS.lsub X.here K.1 rfl (hb K.2.2.1 hd) rfl st, r⟩
theorem Run.lmul (K : Ctx Z y bytes maxL ret p s m meth c) {x z : Int64} {pc' : Nat} (hd : decode bytes pc = .ok (.lmul, 1)) (hp : pc + 1 = pc') (k : Run Z a0 n0 p l e R s m args below meth c Ψ D cells slots pc' L (.long (x * z) :: S)) : Run Z a0 n0 p l e R s m args below meth c Ψ D cells slots pc L (.long z :: .long x :: S) := by
  subst hp
  intro T locs X N H
  obtain ⟨t, o, st, r⟩ := k T locs X N H
  exact ⟨t, o, XS.lmul X.here K.1 rfl (hb K.2.2.1 hd) rfl st, r⟩
theorem Run.land (K : Ctx Z y bytes maxL ret p s m meth c) {x z : Int64} {pc' : Nat} (hd : decode bytes pc = .ok (.land, 1)) (hp : pc + 1 = pc') (k : Run Z a0 n0 p l e R s m args below meth c Ψ D cells slots pc' L (.long (x &&& z) :: S)) : Run Z a0 n0 p l e R s m args below meth c Ψ D cells slots pc L (.long z :: .long x :: S) := by
  subst hp
  intro T locs X N H
  obtain ⟨t, o, st, r⟩ := k T locs X N H
  exact ⟨t, o, XS.land X.here K.1 rfl (hb K.2.2.1 hd) rfl st, r⟩
theorem Run.lor (K : Ctx Z y bytes maxL ret p s m meth c) {x z : Int64} {pc' : Nat} (hd : decode bytes pc = .ok (.lor, 1)) (hp : pc + 1 = pc') (k : Run Z a0 n0 p l e R s m args below meth c Ψ D cells slots pc' L (.long (x ||| z) :: S)) : Run Z a0 n0 p l e R s m args below meth c Ψ D cells slots pc L (.long z :: .long x :: S) := by
  subst hp
  intro T locs X N H
  obtain ⟨t, o, st, r⟩ := k T locs X N H
  exact ⟨t, o, XS.lor X.here K.1 rfl (hb K.2.2.1 hd) rfl st, r⟩
theorem Run.lxor (K : Ctx Z y bytes maxL ret p s m meth c) {x z : Int64} {pc' : Nat} (hd : decode bytes pc = .ok (.lxor, 1)) (hp : pc + 1 = pc') (k : Run Z a0 n0 p l e R s m args below meth c Ψ D cells slots pc' L (.long (x ^^^ z) :: S)) : Run Z a0 n0 p l e R s m args below meth c Ψ D cells slots pc L (.long z :: .long x :: S) := by
  subst hp
  intro T locs X N H
  obtain ⟨t, o, st, r⟩ := k T locs X N H
  exact ⟨t, o, XS.lxor X.here K.1 rfl (hb K.2.2.1 hd) rfl st, r⟩
theorem Run.ldiv (K : Ctx Z y bytes maxL ret p s m meth c) {x z : Int64} {pc' : Nat} (hd : decode bytes pc = .ok (.ldiv, 1)) (hp : pc + 1 = pc') (hz : z ≠ 0) (k : Run Z a0 n0 p l e R s m args below meth c Ψ D cells slots pc' L (.long (x / z) :: S)) : Run Z a0 n0 p l e R s m args below meth c Ψ D cells slots pc L (.long z :: .long x :: S) := by
  subst hp
  intro T locs X N H
  obtain ⟨t, o, st, r⟩ := k T locs X N H
  exact ⟨t, o, XS.ldiv X.here K.1 rfl (hb K.2.2.1 hd) rfl hz st, r⟩
theorem Run.lrem (K : Ctx Z y bytes maxL ret p s m meth c) {x z : Int64} {pc' : Nat} (hd : decode bytes pc = .ok (.lrem, 1)) (hp : pc + 1 = pc') (hz : z ≠ 0) (k : Run Z a0 n0 p l e R s m args below meth c Ψ D cells slots pc' L (.long (x % z) :: S)) : Run Z a0 n0 p l e R s m args below meth c Ψ D cells slots pc L (.long z :: .long x :: S) := by
  subst hp
  rw [← lrem_mod] at k
  intro T locs X N H
  obtain ⟨t, o, st, r⟩ := k T locs X N H
  exact ⟨t, o, XS.lrem X.here K.1 rfl (hb K.2.2.1 hd) rfl hz st, r⟩
theorem Run.lneg (K : Ctx Z y bytes maxL ret p s m meth c) {x : Int64} {pc' : Nat} (hd : decode bytes pc = .ok (.lneg, 1)) (hp : pc + 1 = pc') (k : Run Z a0 n0 p l e R s m args below meth c Ψ D cells slots pc' L (.long (-x) :: S)) : Run Z a0 n0 p l e R s m args below meth c Ψ D cells slots pc L (.long x :: S) := by
  subst hp
  intro T locs X N H
  obtain ⟨t, o, st, r⟩ := k T locs X N H
  exact ⟨t, o, XS.lneg X.here K.1 rfl (hb K.2.2.1 hd) rfl st, r⟩
theorem Run.lshl (K : Ctx Z y bytes maxL ret p s m meth c) {x : Int64} {z : Int32} {pc' : Nat} (hd : decode bytes pc = .ok (.lshl, 1)) (hp : pc + 1 = pc') (k : Run Z a0 n0 p l e R s m args below meth c Ψ D cells slots pc' L (.long (x <<< (z &&& 0x3f).toInt64) :: S)) : Run Z a0 n0 p l e R s m args below meth c Ψ D cells slots pc L (.int z :: .long x :: S) := by
  subst hp
  intro T locs X N H
  obtain ⟨t, o, st, r⟩ := k T locs X N H
  exact ⟨t, o, XS.lshl X.here K.1 rfl (hb K.2.2.1 hd) rfl st, r⟩
theorem Run.lshr (K : Ctx Z y bytes maxL ret p s m meth c) {x : Int64} {z : Int32} {pc' : Nat} (hd : decode bytes pc = .ok (.lshr, 1)) (hp : pc + 1 = pc') (k : Run Z a0 n0 p l e R s m args below meth c Ψ D cells slots pc' L (.long (x >>> (z &&& 0x3f).toInt64) :: S)) : Run Z a0 n0 p l e R s m args below meth c Ψ D cells slots pc L (.int z :: .long x :: S) := by
  subst hp
  intro T locs X N H
  obtain ⟨t, o, st, r⟩ := k T locs X N H
  exact ⟨t, o, XS.lshr X.here K.1 rfl (hb K.2.2.1 hd) rfl st, r⟩
theorem Run.lushr (K : Ctx Z y bytes maxL ret p s m meth c) {x : Int64} {z : Int32} {pc' : Nat} (hd : decode bytes pc = .ok (.lushr, 1)) (hp : pc + 1 = pc') (k : Run Z a0 n0 p l e R s m args below meth c Ψ D cells slots pc' L (.long ((x.toUInt64 >>> (z &&& 0x3f).toInt64.toUInt64).toInt64) :: S)) : Run Z a0 n0 p l e R s m args below meth c Ψ D cells slots pc L (.int z :: .long x :: S) := by
  subst hp
  intro T locs X N H
  obtain ⟨t, o, st, r⟩ := k T locs X N H
  exact ⟨t, o, XS.lushr X.here K.1 rfl (hb K.2.2.1 hd) rfl st, r⟩
theorem Run.i2l (K : Ctx Z y bytes maxL ret p s m meth c) {x : Int32} {pc' : Nat} (hd : decode bytes pc = .ok (.i2l, 1)) (hp : pc + 1 = pc') (k : Run Z a0 n0 p l e R s m args below meth c Ψ D cells slots pc' L (.long (x.toInt64) :: S)) : Run Z a0 n0 p l e R s m args below meth c Ψ D cells slots pc L (.int x :: S) := by
  subst hp
  intro T locs X N H
  obtain ⟨t, o, st, r⟩ := k T locs X N H
  exact ⟨t, o, XS.i2l X.here K.1 rfl (hb K.2.2.1 hd) rfl st, r⟩
theorem Run.l2i (K : Ctx Z y bytes maxL ret p s m meth c) {x : Int64} {pc' : Nat} (hd : decode bytes pc = .ok (.l2i, 1)) (hp : pc + 1 = pc') (k : Run Z a0 n0 p l e R s m args below meth c Ψ D cells slots pc' L (.int (x.toInt32) :: S)) : Run Z a0 n0 p l e R s m args below meth c Ψ D cells slots pc L (.long x :: S) := by
  subst hp
  intro T locs X N H
  obtain ⟨t, o, st, r⟩ := k T locs X N H
  exact ⟨t, o, XS.l2i X.here K.1 rfl (hb K.2.2.1 hd) rfl st, r⟩
theorem Run.i2b (K : Ctx Z y bytes maxL ret p s m meth c) {x : Int32} {pc' : Nat} (hd : decode bytes pc = .ok (.i2b, 1)) (hp : pc + 1 = pc') (k : Run Z a0 n0 p l e R s m args below meth c Ψ D cells slots pc' L (.int (x.toInt8.toInt32) :: S)) : Run Z a0 n0 p l e R s m args below meth c Ψ D cells slots pc L (.int x :: S) := by
  subst hp
  intro T locs X N H
  obtain ⟨t, o, st, r⟩ := k T locs X N H
  exact ⟨t, o, XS.i2b X.here K.1 rfl (hb K.2.2.1 hd) rfl st, r⟩
theorem Run.i2c (K : Ctx Z y bytes maxL ret p s m meth c) {x : Int32} {pc' : Nat} (hd : decode bytes pc = .ok (.i2c, 1)) (hp : pc + 1 = pc') (k : Run Z a0 n0 p l e R s m args below meth c Ψ D cells slots pc' L (.int (x.toUInt32.toUInt16.toUInt32.toInt32) :: S)) : Run Z a0 n0 p l e R s m args below meth c Ψ D cells slots pc L (.int x :: S) := by
  subst hp
  intro T locs X N H
  obtain ⟨t, o, st, r⟩ := k T locs X N H
  exact ⟨t, o, XS.i2c X.here K.1 rfl (hb K.2.2.1 hd) rfl st, r⟩
theorem Run.i2s (K : Ctx Z y bytes maxL ret p s m meth c) {x : Int32} {pc' : Nat} (hd : decode bytes pc = .ok (.i2s, 1)) (hp : pc + 1 = pc') (k : Run Z a0 n0 p l e R s m args below meth c Ψ D cells slots pc' L (.int (x.toInt16.toInt32) :: S)) : Run Z a0 n0 p l e R s m args below meth c Ψ D cells slots pc L (.int x :: S) := by
  subst hp
  intro T locs X N H
  obtain ⟨t, o, st, r⟩ := k T locs X N H
  exact ⟨t, o, XS.i2s X.here K.1 rfl (hb K.2.2.1 hd) rfl st, r⟩
theorem Run.lcmp (K : Ctx Z y bytes maxL ret p s m meth c) {x z : Int64} {pc' : Nat} (hd : decode bytes pc = .ok (.lcmp, 1)) (hp : pc + 1 = pc') (k : Run Z a0 n0 p l e R s m args below meth c Ψ D cells slots pc' L (.int (lcmpW x z) :: S)) : Run Z a0 n0 p l e R s m args below meth c Ψ D cells slots pc L (.long z :: .long x :: S) := by
  subst hp
  intro T locs X N H
  obtain ⟨t, o, st, r⟩ := k T locs X N H
  exact ⟨t, o, XS.lcmp X.here K.1 rfl (hb K.2.2.1 hd) rfl st, r⟩
theorem Run.dup (K : Ctx Z y bytes maxL ret p s m meth c) {v : Value} {pc' : Nat} (hd : decode bytes pc = .ok (.dup, 1)) (hp : pc + 1 = pc') (hc : v.category = 1) (k : Run Z a0 n0 p l e R s m args below meth c Ψ D cells slots pc' L (v :: v :: S)) : Run Z a0 n0 p l e R s m args below meth c Ψ D cells slots pc L (v :: S) := by
  subst hp
  intro T locs X N H
  obtain ⟨t, o, st, r⟩ := k T locs X N H
  exact ⟨t, o, XS.dup X.here K.1 rfl (hb K.2.2.1 hd) rfl hc st, r⟩
theorem Run.pop (K : Ctx Z y bytes maxL ret p s m meth c) {v : Value} {pc' : Nat} (hd : decode bytes pc = .ok (.pop, 1)) (hp : pc + 1 = pc') (hc : v.category = 1) (k : Run Z a0 n0 p l e R s m args below meth c Ψ D cells slots pc' L S) : Run Z a0 n0 p l e R s m args below meth c Ψ D cells slots pc L (v :: S) := by
  subst hp
  intro T locs X N H
  obtain ⟨t, o, st, r⟩ := k T locs X N H
  exact ⟨t, o, XS.pop X.here K.1 rfl (hb K.2.2.1 hd) rfl hc st, r⟩
theorem Run.dupX1 (K : Ctx Z y bytes maxL ret p s m meth c) {v w : Value} {pc' : Nat} (hd : decode bytes pc = .ok (.dup_x1, 1)) (hp : pc + 1 = pc') (hc : v.category = 1) (hc2 : w.category = 1) (k : Run Z a0 n0 p l e R s m args below meth c Ψ D cells slots pc' L (v :: w :: v :: S)) : Run Z a0 n0 p l e R s m args below meth c Ψ D cells slots pc L (v :: w :: S) := by
  subst hp
  intro T locs X N H
  obtain ⟨t, o, st, r⟩ := k T locs X N H
  exact ⟨t, o, XS.dupX1 X.here K.1 rfl (hb K.2.2.1 hd) rfl hc hc2 st, r⟩
theorem Run.iload (K : Ctx Z y bytes maxL ret p s m meth c) {j : Nat} {v : Int32} {pc' : Nat} (hd : decode bytes pc = .ok (.iload j, 2)) (hp : pc + 2 = pc') (hl : L[j]? = some (.val (.int v))) (k : Run Z a0 n0 p l e R s m args below meth c Ψ D cells slots pc' L (.int v :: S)) : Run Z a0 n0 p l e R s m args below meth c Ψ D cells slots pc L S := by
  subst hp
  intro T locs X N H
  obtain ⟨t, o, st, r⟩ := k T locs X N H
  exact ⟨t, o, XS.iload X.here K.1 rfl (hb K.2.2.1 hd) hl st, r⟩
theorem Run.iloadN (K : Ctx Z y bytes maxL ret p s m meth c) {j : Fin 4} {v : Int32} {pc' : Nat} (hd : decode bytes pc = .ok (.iload_n j, 1)) (hp : pc + 1 = pc') (hl : L[j.val]? = some (.val (.int v))) (k : Run Z a0 n0 p l e R s m args below meth c Ψ D cells slots pc' L (.int v :: S)) : Run Z a0 n0 p l e R s m args below meth c Ψ D cells slots pc L S := by
  subst hp
  intro T locs X N H
  obtain ⟨t, o, st, r⟩ := k T locs X N H
  exact ⟨t, o, XS.iloadN X.here K.1 rfl (hb K.2.2.1 hd) hl st, r⟩
theorem Run.istore (K : Ctx Z y bytes maxL ret p s m meth c) {j : Nat} {v : Int32} {L' : Array Slot} {pc' : Nat} (hd : decode bytes pc = .ok (.istore j, 2)) (hp : pc + 2 = pc') (hl : storeLocals L j (.int v) = some L') (k : Run Z a0 n0 p l e R s m args below meth c Ψ D cells slots pc' L' S) : Run Z a0 n0 p l e R s m args below meth c Ψ D cells slots pc L (.int v :: S) := by
  subst hp
  intro T locs X N H
  obtain ⟨t, o, st, r⟩ := k T locs X N H
  exact ⟨t, o, XS.istore X.here K.1 rfl (hb K.2.2.1 hd) rfl hl st, r⟩
theorem Run.istoreN (K : Ctx Z y bytes maxL ret p s m meth c) {j : Fin 4} {v : Int32} {L' : Array Slot} {pc' : Nat} (hd : decode bytes pc = .ok (.istore_n j, 1)) (hp : pc + 1 = pc') (hl : storeLocals L j.val (.int v) = some L') (k : Run Z a0 n0 p l e R s m args below meth c Ψ D cells slots pc' L' S) : Run Z a0 n0 p l e R s m args below meth c Ψ D cells slots pc L (.int v :: S) := by
  subst hp
  intro T locs X N H
  obtain ⟨t, o, st, r⟩ := k T locs X N H
  exact ⟨t, o, XS.istoreN X.here K.1 rfl (hb K.2.2.1 hd) rfl hl st, r⟩
theorem Run.lload (K : Ctx Z y bytes maxL ret p s m meth c) {j : Nat} {v : Int64} {pc' : Nat} (hd : decode bytes pc = .ok (.lload j, 2)) (hp : pc + 2 = pc') (hl : L[j]? = some (.val (.long v))) (k : Run Z a0 n0 p l e R s m args below meth c Ψ D cells slots pc' L (.long v :: S)) : Run Z a0 n0 p l e R s m args below meth c Ψ D cells slots pc L S := by
  subst hp
  intro T locs X N H
  obtain ⟨t, o, st, r⟩ := k T locs X N H
  exact ⟨t, o, XS.lload X.here K.1 rfl (hb K.2.2.1 hd) hl st, r⟩
theorem Run.lloadN (K : Ctx Z y bytes maxL ret p s m meth c) {j : Fin 4} {v : Int64} {pc' : Nat} (hd : decode bytes pc = .ok (.lload_n j, 1)) (hp : pc + 1 = pc') (hl : L[j.val]? = some (.val (.long v))) (k : Run Z a0 n0 p l e R s m args below meth c Ψ D cells slots pc' L (.long v :: S)) : Run Z a0 n0 p l e R s m args below meth c Ψ D cells slots pc L S := by
  subst hp
  intro T locs X N H
  obtain ⟨t, o, st, r⟩ := k T locs X N H
  exact ⟨t, o, XS.lloadN X.here K.1 rfl (hb K.2.2.1 hd) hl st, r⟩
theorem Run.lstore (K : Ctx Z y bytes maxL ret p s m meth c) {j : Nat} {v : Int64} {L' : Array Slot} {pc' : Nat} (hd : decode bytes pc = .ok (.lstore j, 2)) (hp : pc + 2 = pc') (hl : storeLocals L j (.long v) = some L') (k : Run Z a0 n0 p l e R s m args below meth c Ψ D cells slots pc' L' S) : Run Z a0 n0 p l e R s m args below meth c Ψ D cells slots pc L (.long v :: S) := by
  subst hp
  intro T locs X N H
  obtain ⟨t, o, st, r⟩ := k T locs X N H
  exact ⟨t, o, XS.lstore X.here K.1 rfl (hb K.2.2.1 hd) rfl hl st, r⟩
theorem Run.lstoreN (K : Ctx Z y bytes maxL ret p s m meth c) {j : Fin 4} {v : Int64} {L' : Array Slot} {pc' : Nat} (hd : decode bytes pc = .ok (.lstore_n j, 1)) (hp : pc + 1 = pc') (hl : storeLocals L j.val (.long v) = some L') (k : Run Z a0 n0 p l e R s m args below meth c Ψ D cells slots pc' L' S) : Run Z a0 n0 p l e R s m args below meth c Ψ D cells slots pc L (.long v :: S) := by
  subst hp
  intro T locs X N H
  obtain ⟨t, o, st, r⟩ := k T locs X N H
  exact ⟨t, o, XS.lstoreN X.here K.1 rfl (hb K.2.2.1 hd) rfl hl st, r⟩
theorem Run.aload (K : Ctx Z y bytes maxL ret p s m meth c) {j : Nat} {v : Value} {pc' : Nat} (hd : decode bytes pc = .ok (.aload j, 2)) (hp : pc + 2 = pc') (hl : L[j]? = some (.val v)) (hv : v.isRef = true) (k : Run Z a0 n0 p l e R s m args below meth c Ψ D cells slots pc' L (v :: S)) : Run Z a0 n0 p l e R s m args below meth c Ψ D cells slots pc L S := by
  subst hp
  intro T locs X N H
  obtain ⟨t, o, st, r⟩ := k T locs X N H
  exact ⟨t, o, XS.aload X.here K.1 rfl (hb K.2.2.1 hd) hl hv st, r⟩
theorem Run.aloadN (K : Ctx Z y bytes maxL ret p s m meth c) {j : Fin 4} {v : Value} {pc' : Nat} (hd : decode bytes pc = .ok (.aload_n j, 1)) (hp : pc + 1 = pc') (hl : L[j.val]? = some (.val v)) (hv : v.isRef = true) (k : Run Z a0 n0 p l e R s m args below meth c Ψ D cells slots pc' L (v :: S)) : Run Z a0 n0 p l e R s m args below meth c Ψ D cells slots pc L S := by
  subst hp
  intro T locs X N H
  obtain ⟨t, o, st, r⟩ := k T locs X N H
  exact ⟨t, o, XS.aloadN X.here K.1 rfl (hb K.2.2.1 hd) hl hv st, r⟩
theorem Run.astore (K : Ctx Z y bytes maxL ret p s m meth c) {j : Nat} {v : Value} {L' : Array Slot} {pc' : Nat} (hd : decode bytes pc = .ok (.astore j, 2)) (hp : pc + 2 = pc') (hv : v.isRef = true) (hl : storeLocals L j v = some L') (k : Run Z a0 n0 p l e R s m args below meth c Ψ D cells slots pc' L' S) : Run Z a0 n0 p l e R s m args below meth c Ψ D cells slots pc L (v :: S) := by
  subst hp
  intro T locs X N H
  obtain ⟨t, o, st, r⟩ := k T locs X N H
  exact ⟨t, o, XS.astore X.here K.1 rfl (hb K.2.2.1 hd) rfl hv hl st, r⟩
theorem Run.astoreN (K : Ctx Z y bytes maxL ret p s m meth c) {j : Fin 4} {v : Value} {L' : Array Slot} {pc' : Nat} (hd : decode bytes pc = .ok (.astore_n j, 1)) (hp : pc + 1 = pc') (hv : v.isRef = true) (hl : storeLocals L j.val v = some L') (k : Run Z a0 n0 p l e R s m args below meth c Ψ D cells slots pc' L' S) : Run Z a0 n0 p l e R s m args below meth c Ψ D cells slots pc L (v :: S) := by
  subst hp
  intro T locs X N H
  obtain ⟨t, o, st, r⟩ := k T locs X N H
  exact ⟨t, o, XS.astoreN X.here K.1 rfl (hb K.2.2.1 hd) rfl hv hl st, r⟩
theorem Run.dup2 (K : Ctx Z y bytes maxL ret p s m meth c) {v w : Value} {pc' : Nat} (hd : decode bytes pc = .ok (.dup2, 1)) (hp : pc + 1 = pc') (hc : v.category = 1) (hc2 : w.category = 1) (k : Run Z a0 n0 p l e R s m args below meth c Ψ D cells slots pc' L (v :: w :: v :: w :: S)) : Run Z a0 n0 p l e R s m args below meth c Ψ D cells slots pc L (v :: w :: S) := by
  subst hp
  intro T locs X N H
  obtain ⟨t, o, st, r⟩ := k T locs X N H
  exact ⟨t, o, Jvm.Free.XT.dup2 X.here K.1 rfl (hb K.2.2.1 hd) rfl hc hc2 st, r⟩
theorem Run.dup2L (K : Ctx Z y bytes maxL ret p s m meth c) {x : Int64} {pc' : Nat} (hd : decode bytes pc = .ok (.dup2, 1)) (hp : pc + 1 = pc') (k : Run Z a0 n0 p l e R s m args below meth c Ψ D cells slots pc' L (.long x :: .long x :: S)) : Run Z a0 n0 p l e R s m args below meth c Ψ D cells slots pc L (.long x :: S) := by
  subst hp
  intro T locs X N H
  obtain ⟨t, o, st, r⟩ := k T locs X N H
  exact ⟨t, o, Jvm.Free.XT.dup2L X.here K.1 rfl (hb K.2.2.1 hd) rfl st, r⟩
theorem Run.iinc (K : Ctx Z y bytes maxL ret p s m meth c) {j : Nat} {i : Int} {v : Int32} {L' : Array Slot} {pc' : Nat} (hd : decode bytes pc = .ok (.iinc j i, 3)) (hp : pc + 3 = pc') (hl : L[j]? = some (.val (.int v))) (hl' : storeLocals L j (.int (v + Int32.ofInt i)) = some L') (k : Run Z a0 n0 p l e R s m args below meth c Ψ D cells slots pc' L' S) : Run Z a0 n0 p l e R s m args below meth c Ψ D cells slots pc L S := by
  subst hp
  intro T locs X N H
  obtain ⟨t, o, st, r⟩ := k T locs X N H
  exact ⟨t, o, XS.iinc X.here K.1 rfl (hb K.2.2.1 hd) hl hl' st, r⟩
theorem Run.idivV (K : Ctx Z y bytes maxL ret p s m meth c) {x z v : Int32} {pc' : Nat} (hd : decode bytes pc = .ok (.idiv, 1)) (hp : pc + 1 = pc') (hz : z ≠ 0) (hv : x / z = v) (k : Run Z a0 n0 p l e R s m args below meth c Ψ D cells slots pc' L (.int v :: S)) : Run Z a0 n0 p l e R s m args below meth c Ψ D cells slots pc L (.int z :: .int x :: S) := Run.idiv K hd hp hz (by rw [hv]; exact k)
theorem Run.iremV (K : Ctx Z y bytes maxL ret p s m meth c) {x z v : Int32} {pc' : Nat} (hd : decode bytes pc = .ok (.irem, 1)) (hp : pc + 1 = pc') (hz : z ≠ 0) (hv : x % z = v) (k : Run Z a0 n0 p l e R s m args below meth c Ψ D cells slots pc' L (.int v :: S)) : Run Z a0 n0 p l e R s m args below meth c Ψ D cells slots pc L (.int z :: .int x :: S) := Run.irem K hd hp hz (by rw [hv]; exact k)
theorem Run.ldivV (K : Ctx Z y bytes maxL ret p s m meth c) {x z v : Int64} {pc' : Nat} (hd : decode bytes pc = .ok (.ldiv, 1)) (hp : pc + 1 = pc') (hz : z ≠ 0) (hv : x / z = v) (k : Run Z a0 n0 p l e R s m args below meth c Ψ D cells slots pc' L (.long v :: S)) : Run Z a0 n0 p l e R s m args below meth c Ψ D cells slots pc L (.long z :: .long x :: S) := Run.ldiv K hd hp hz (by rw [hv]; exact k)
theorem Run.lremV (K : Ctx Z y bytes maxL ret p s m meth c) {x z v : Int64} {pc' : Nat} (hd : decode bytes pc = .ok (.lrem, 1)) (hp : pc + 1 = pc') (hz : z ≠ 0) (hv : x % z = v) (k : Run Z a0 n0 p l e R s m args below meth c Ψ D cells slots pc' L (.long v :: S)) : Run Z a0 n0 p l e R s m args below meth c Ψ D cells slots pc L (.long z :: .long x :: S) := Run.lrem K hd hp hz (by rw [hv]; exact k)
theorem Run.iaddV (K : Ctx Z y bytes maxL ret p s m meth c) {x z : Int32} {v : Int32} {pc' : Nat} (hd : decode bytes pc = .ok (.iadd, 1)) (hp : pc + 1 = pc') (hv : x + z = v) (k : Run Z a0 n0 p l e R s m args below meth c Ψ D cells slots pc' L (.int v :: S)) : Run Z a0 n0 p l e R s m args below meth c Ψ D cells slots pc L (.int z :: .int x :: S) := Run.iadd K hd hp (by rw [hv]; exact k)
theorem Run.isubV (K : Ctx Z y bytes maxL ret p s m meth c) {x z : Int32} {v : Int32} {pc' : Nat} (hd : decode bytes pc = .ok (.isub, 1)) (hp : pc + 1 = pc') (hv : x - z = v) (k : Run Z a0 n0 p l e R s m args below meth c Ψ D cells slots pc' L (.int v :: S)) : Run Z a0 n0 p l e R s m args below meth c Ψ D cells slots pc L (.int z :: .int x :: S) := Run.isub K hd hp (by rw [hv]; exact k)
theorem Run.imulV (K : Ctx Z y bytes maxL ret p s m meth c) {x z : Int32} {v : Int32} {pc' : Nat} (hd : decode bytes pc = .ok (.imul, 1)) (hp : pc + 1 = pc') (hv : x * z = v) (k : Run Z a0 n0 p l e R s m args below meth c Ψ D cells slots pc' L (.int v :: S)) : Run Z a0 n0 p l e R s m args below meth c Ψ D cells slots pc L (.int z :: .int x :: S) := Run.imul K hd hp (by rw [hv]; exact k)
theorem Run.iandV (K : Ctx Z y bytes maxL ret p s m meth c) {x z : Int32} {v : Int32} {pc' : Nat} (hd : decode bytes pc = .ok (.iand, 1)) (hp : pc + 1 = pc') (hv : x &&& z = v) (k : Run Z a0 n0 p l e R s m args below meth c Ψ D cells slots pc' L (.int v :: S)) : Run Z a0 n0 p l e R s m args below meth c Ψ D cells slots pc L (.int z :: .int x :: S) := Run.iand K hd hp (by rw [hv]; exact k)
theorem Run.iorV (K : Ctx Z y bytes maxL ret p s m meth c) {x z : Int32} {v : Int32} {pc' : Nat} (hd : decode bytes pc = .ok (.ior, 1)) (hp : pc + 1 = pc') (hv : x ||| z = v) (k : Run Z a0 n0 p l e R s m args below meth c Ψ D cells slots pc' L (.int v :: S)) : Run Z a0 n0 p l e R s m args below meth c Ψ D cells slots pc L (.int z :: .int x :: S) := Run.ior K hd hp (by rw [hv]; exact k)
theorem Run.ixorV (K : Ctx Z y bytes maxL ret p s m meth c) {x z : Int32} {v : Int32} {pc' : Nat} (hd : decode bytes pc = .ok (.ixor, 1)) (hp : pc + 1 = pc') (hv : x ^^^ z = v) (k : Run Z a0 n0 p l e R s m args below meth c Ψ D cells slots pc' L (.int v :: S)) : Run Z a0 n0 p l e R s m args below meth c Ψ D cells slots pc L (.int z :: .int x :: S) := Run.ixor K hd hp (by rw [hv]; exact k)
theorem Run.ishlV (K : Ctx Z y bytes maxL ret p s m meth c) {x z : Int32} {v : Int32} {pc' : Nat} (hd : decode bytes pc = .ok (.ishl, 1)) (hp : pc + 1 = pc') (hv : x <<< (z &&& 31) = v) (k : Run Z a0 n0 p l e R s m args below meth c Ψ D cells slots pc' L (.int v :: S)) : Run Z a0 n0 p l e R s m args below meth c Ψ D cells slots pc L (.int z :: .int x :: S) := Run.ishl K hd hp (by rw [hv]; exact k)
theorem Run.ishrV (K : Ctx Z y bytes maxL ret p s m meth c) {x z : Int32} {v : Int32} {pc' : Nat} (hd : decode bytes pc = .ok (.ishr, 1)) (hp : pc + 1 = pc') (hv : x >>> (z &&& 31) = v) (k : Run Z a0 n0 p l e R s m args below meth c Ψ D cells slots pc' L (.int v :: S)) : Run Z a0 n0 p l e R s m args below meth c Ψ D cells slots pc L (.int z :: .int x :: S) := Run.ishr K hd hp (by rw [hv]; exact k)
theorem Run.iushrV (K : Ctx Z y bytes maxL ret p s m meth c) {x z : Int32} {v : Int32} {pc' : Nat} (hd : decode bytes pc = .ok (.iushr, 1)) (hp : pc + 1 = pc') (hv : (x.toUInt32 >>> (z &&& 31).toUInt32).toInt32 = v) (k : Run Z a0 n0 p l e R s m args below meth c Ψ D cells slots pc' L (.int v :: S)) : Run Z a0 n0 p l e R s m args below meth c Ψ D cells slots pc L (.int z :: .int x :: S) := Run.iushr K hd hp (by rw [hv]; exact k)
theorem Run.inegV (K : Ctx Z y bytes maxL ret p s m meth c) {x : Int32} {v : Int32} {pc' : Nat} (hd : decode bytes pc = .ok (.ineg, 1)) (hp : pc + 1 = pc') (hv : -x = v) (k : Run Z a0 n0 p l e R s m args below meth c Ψ D cells slots pc' L (.int v :: S)) : Run Z a0 n0 p l e R s m args below meth c Ψ D cells slots pc L (.int x :: S) := Run.ineg K hd hp (by rw [hv]; exact k)
theorem Run.laddV (K : Ctx Z y bytes maxL ret p s m meth c) {x z : Int64} {v : Int64} {pc' : Nat} (hd : decode bytes pc = .ok (.ladd, 1)) (hp : pc + 1 = pc') (hv : x + z = v) (k : Run Z a0 n0 p l e R s m args below meth c Ψ D cells slots pc' L (.long v :: S)) : Run Z a0 n0 p l e R s m args below meth c Ψ D cells slots pc L (.long z :: .long x :: S) := Run.ladd K hd hp (by rw [hv]; exact k)
theorem Run.lsubV (K : Ctx Z y bytes maxL ret p s m meth c) {x z : Int64} {v : Int64} {pc' : Nat} (hd : decode bytes pc = .ok (.lsub, 1)) (hp : pc + 1 = pc') (hv : x - z = v) (k : Run Z a0 n0 p l e R s m args below meth c Ψ D cells slots pc' L (.long v :: S)) : Run Z a0 n0 p l e R s m args below meth c Ψ D cells slots pc L (.long z :: .long x :: S) := Run.lsub K hd hp (by rw [hv]; exact k)
theorem Run.lmulV (K : Ctx Z y bytes maxL ret p s m meth c) {x z : Int64} {v : Int64} {pc' : Nat} (hd : decode bytes pc = .ok (.lmul, 1)) (hp : pc + 1 = pc') (hv : x * z = v) (k : Run Z a0 n0 p l e R s m args below meth c Ψ D cells slots pc' L (.long v :: S)) : Run Z a0 n0 p l e R s m args below meth c Ψ D cells slots pc L (.long z :: .long x :: S) := Run.lmul K hd hp (by rw [hv]; exact k)
theorem Run.landV (K : Ctx Z y bytes maxL ret p s m meth c) {x z : Int64} {v : Int64} {pc' : Nat} (hd : decode bytes pc = .ok (.land, 1)) (hp : pc + 1 = pc') (hv : x &&& z = v) (k : Run Z a0 n0 p l e R s m args below meth c Ψ D cells slots pc' L (.long v :: S)) : Run Z a0 n0 p l e R s m args below meth c Ψ D cells slots pc L (.long z :: .long x :: S) := Run.land K hd hp (by rw [hv]; exact k)
theorem Run.lorV (K : Ctx Z y bytes maxL ret p s m meth c) {x z : Int64} {v : Int64} {pc' : Nat} (hd : decode bytes pc = .ok (.lor, 1)) (hp : pc + 1 = pc') (hv : x ||| z = v) (k : Run Z a0 n0 p l e R s m args below meth c Ψ D cells slots pc' L (.long v :: S)) : Run Z a0 n0 p l e R s m args below meth c Ψ D cells slots pc L (.long z :: .long x :: S) := Run.lor K hd hp (by rw [hv]; exact k)
theorem Run.lxorV (K : Ctx Z y bytes maxL ret p s m meth c) {x z : Int64} {v : Int64} {pc' : Nat} (hd : decode bytes pc = .ok (.lxor, 1)) (hp : pc + 1 = pc') (hv : x ^^^ z = v) (k : Run Z a0 n0 p l e R s m args below meth c Ψ D cells slots pc' L (.long v :: S)) : Run Z a0 n0 p l e R s m args below meth c Ψ D cells slots pc L (.long z :: .long x :: S) := Run.lxor K hd hp (by rw [hv]; exact k)
theorem Run.lnegV (K : Ctx Z y bytes maxL ret p s m meth c) {x : Int64} {v : Int64} {pc' : Nat} (hd : decode bytes pc = .ok (.lneg, 1)) (hp : pc + 1 = pc') (hv : -x = v) (k : Run Z a0 n0 p l e R s m args below meth c Ψ D cells slots pc' L (.long v :: S)) : Run Z a0 n0 p l e R s m args below meth c Ψ D cells slots pc L (.long x :: S) := Run.lneg K hd hp (by rw [hv]; exact k)
theorem Run.lshlV (K : Ctx Z y bytes maxL ret p s m meth c) {x : Int64} {z : Int32} {v : Int64} {pc' : Nat} (hd : decode bytes pc = .ok (.lshl, 1)) (hp : pc + 1 = pc') (hv : x <<< (z &&& 0x3f).toInt64 = v) (k : Run Z a0 n0 p l e R s m args below meth c Ψ D cells slots pc' L (.long v :: S)) : Run Z a0 n0 p l e R s m args below meth c Ψ D cells slots pc L (.int z :: .long x :: S) := Run.lshl K hd hp (by rw [hv]; exact k)
theorem Run.lshrV (K : Ctx Z y bytes maxL ret p s m meth c) {x : Int64} {z : Int32} {v : Int64} {pc' : Nat} (hd : decode bytes pc = .ok (.lshr, 1)) (hp : pc + 1 = pc') (hv : x >>> (z &&& 0x3f).toInt64 = v) (k : Run Z a0 n0 p l e R s m args below meth c Ψ D cells slots pc' L (.long v :: S)) : Run Z a0 n0 p l e R s m args below meth c Ψ D cells slots pc L (.int z :: .long x :: S) := Run.lshr K hd hp (by rw [hv]; exact k)
theorem Run.lushrV (K : Ctx Z y bytes maxL ret p s m meth c) {x : Int64} {z : Int32} {v : Int64} {pc' : Nat} (hd : decode bytes pc = .ok (.lushr, 1)) (hp : pc + 1 = pc') (hv : (x.toUInt64 >>> (z &&& 0x3f).toInt64.toUInt64).toInt64 = v) (k : Run Z a0 n0 p l e R s m args below meth c Ψ D cells slots pc' L (.long v :: S)) : Run Z a0 n0 p l e R s m args below meth c Ψ D cells slots pc L (.int z :: .long x :: S) := Run.lushr K hd hp (by rw [hv]; exact k)
theorem Run.i2lV (K : Ctx Z y bytes maxL ret p s m meth c) {x : Int32} {v : Int64} {pc' : Nat} (hd : decode bytes pc = .ok (.i2l, 1)) (hp : pc + 1 = pc') (hv : x.toInt64 = v) (k : Run Z a0 n0 p l e R s m args below meth c Ψ D cells slots pc' L (.long v :: S)) : Run Z a0 n0 p l e R s m args below meth c Ψ D cells slots pc L (.int x :: S) := Run.i2l K hd hp (by rw [hv]; exact k)
theorem Run.l2iV (K : Ctx Z y bytes maxL ret p s m meth c) {x : Int64} {v : Int32} {pc' : Nat} (hd : decode bytes pc = .ok (.l2i, 1)) (hp : pc + 1 = pc') (hv : x.toInt32 = v) (k : Run Z a0 n0 p l e R s m args below meth c Ψ D cells slots pc' L (.int v :: S)) : Run Z a0 n0 p l e R s m args below meth c Ψ D cells slots pc L (.long x :: S) := Run.l2i K hd hp (by rw [hv]; exact k)
theorem Run.i2bV (K : Ctx Z y bytes maxL ret p s m meth c) {x : Int32} {v : Int32} {pc' : Nat} (hd : decode bytes pc = .ok (.i2b, 1)) (hp : pc + 1 = pc') (hv : x.toInt8.toInt32 = v) (k : Run Z a0 n0 p l e R s m args below meth c Ψ D cells slots pc' L (.int v :: S)) : Run Z a0 n0 p l e R s m args below meth c Ψ D cells slots pc L (.int x :: S) := Run.i2b K hd hp (by rw [hv]; exact k)
theorem Run.i2cV (K : Ctx Z y bytes maxL ret p s m meth c) {x : Int32} {v : Int32} {pc' : Nat} (hd : decode bytes pc = .ok (.i2c, 1)) (hp : pc + 1 = pc') (hv : x.toUInt32.toUInt16.toUInt32.toInt32 = v) (k : Run Z a0 n0 p l e R s m args below meth c Ψ D cells slots pc' L (.int v :: S)) : Run Z a0 n0 p l e R s m args below meth c Ψ D cells slots pc L (.int x :: S) := Run.i2c K hd hp (by rw [hv]; exact k)
theorem Run.i2sV (K : Ctx Z y bytes maxL ret p s m meth c) {x : Int32} {v : Int32} {pc' : Nat} (hd : decode bytes pc = .ok (.i2s, 1)) (hp : pc + 1 = pc') (hv : x.toInt16.toInt32 = v) (k : Run Z a0 n0 p l e R s m args below meth c Ψ D cells slots pc' L (.int v :: S)) : Run Z a0 n0 p l e R s m args below meth c Ψ D cells slots pc L (.int x :: S) := Run.i2s K hd hp (by rw [hv]; exact k)
theorem Run.lcmpV (K : Ctx Z y bytes maxL ret p s m meth c) {x z : Int64} {v : Int32} {pc' : Nat} (hd : decode bytes pc = .ok (.lcmp, 1)) (hp : pc + 1 = pc') (hv : lcmpW x z = v) (k : Run Z a0 n0 p l e R s m args below meth c Ψ D cells slots pc' L (.int v :: S)) : Run Z a0 n0 p l e R s m args below meth c Ψ D cells slots pc L (.long z :: .long x :: S) := Run.lcmp K hd hp (by rw [hv]; exact k)
theorem Run.pop2L (K : Ctx Z y bytes maxL ret p s m meth c) {x : Int64} {pc' : Nat} (hd : decode bytes pc = .ok (.pop2, 1)) (hp : pc + 1 = pc') (k : Run Z a0 n0 p l e R s m args below meth c Ψ D cells slots pc' L S) : Run Z a0 n0 p l e R s m args below meth c Ψ D cells slots pc L (.long x :: S) := by
  subst hp
  intro T locs X N H
  obtain ⟨t, o, st, r⟩ := k T locs X N H
  have hx := K.1
  have hd' := hb K.2.2.1 hd
  refine ⟨t, o, ?_, r⟩
  jvm_step X.here [X.here.top, hx, hd', Op.pop2.wp_sem, Value.category]
  exact st
theorem Run.goto (K : Ctx Z y bytes maxL ret p s m meth c) {i : Int} {pc' : Nat} (hd : decode bytes pc = .ok (.goto i, 3)) (ho : 0 ≤ (pc : Int) + i) (hp : ((pc : Int) + i).toNat = pc') (k : Run Z a0 n0 p l e R s m args below meth c Ψ D cells slots pc' L S) : Run Z a0 n0 p l e R s m args below meth c Ψ D cells slots pc L S := by
  intro T locs X N H
  obtain ⟨t, o, st, r⟩ := k T locs X N H
  exact ⟨t, o, XS.goto X.here K.1 rfl rfl (hb K.2.2.1 hd) ho hp st, r⟩
theorem Run.icmp (K : Ctx Z y bytes maxL ret p s m meth c) {x z : Int32} {cd : ClassFile.Cond} {i : Int} {pT pF : Nat} (hd : decode bytes pc = .ok (.if_icmp cd i, 3)) (ho : 0 ≤ (pc : Int) + i) (hT : ((pc : Int) + i).toNat = pT) (hF : pc + 3 = pF) (kT : rel cd x z → Run Z a0 n0 p l e R s m args below meth c Ψ D cells slots pT L S) (kF : ¬ rel cd x z → Run Z a0 n0 p l e R s m args below meth c Ψ D cells slots pF L S) : Run Z a0 n0 p l e R s m args below meth c Ψ D cells slots pc L (.int z :: .int x :: S) := by
  subst hF
  intro T locs X N H
  by_cases q : rel cd x z
  · obtain ⟨t, o, st, r⟩ := kT q T locs X N H
    exact ⟨t, o, XS.icmpYes X.here K.1 rfl rfl (hb K.2.2.1 hd) rfl ((rel_iff cd x z).mpr q) ho hT st, r⟩
  · obtain ⟨t, o, st, r⟩ := kF q T locs X N H
    exact ⟨t, o, XS.icmpNo X.here K.1 rfl (hb K.2.2.1 hd) rfl (Bool.eq_false_iff.mpr fun h => q ((rel_iff cd x z).mp h)) st, r⟩
theorem Run.ifc (K : Ctx Z y bytes maxL ret p s m meth c) {x : Int32} {cd : ClassFile.Cond} {i : Int} {pT pF : Nat} (hd : decode bytes pc = .ok (.ifCond cd i, 3)) (ho : 0 ≤ (pc : Int) + i) (hT : ((pc : Int) + i).toNat = pT) (hF : pc + 3 = pF) (kT : rel cd x 0 → Run Z a0 n0 p l e R s m args below meth c Ψ D cells slots pT L S) (kF : ¬ rel cd x 0 → Run Z a0 n0 p l e R s m args below meth c Ψ D cells slots pF L S) : Run Z a0 n0 p l e R s m args below meth c Ψ D cells slots pc L (.int x :: S) := by
  subst hF
  intro T locs X N H
  by_cases q : rel cd x 0
  · obtain ⟨t, o, st, r⟩ := kT q T locs X N H
    exact ⟨t, o, XS.ifYes X.here K.1 rfl rfl (hb K.2.2.1 hd) rfl ((if0 cd x).trans ((rel_iff cd x 0).mpr q)) ho hT st, r⟩
  · obtain ⟨t, o, st, r⟩ := kF q T locs X N H
    exact ⟨t, o, XS.ifNo X.here K.1 rfl (hb K.2.2.1 hd) rfl (Bool.eq_false_iff.mpr fun h => q ((rel_iff cd x 0).mp ((if0 cd x).symm.trans h))) st, r⟩
theorem Run.ifL (K : Ctx Z y bytes maxL ret p s m meth c) {x z : Int64} {cd : ClassFile.Cond} {i : Int} {pT pF : Nat} (hd : decode bytes pc = .ok (.ifCond cd i, 3)) (ho : 0 ≤ (pc : Int) + i) (hT : ((pc : Int) + i).toNat = pT) (hF : pc + 3 = pF) (kT : relL cd x z → Run Z a0 n0 p l e R s m args below meth c Ψ D cells slots pT L S) (kF : ¬ relL cd x z → Run Z a0 n0 p l e R s m args below meth c Ψ D cells slots pF L S) : Run Z a0 n0 p l e R s m args below meth c Ψ D cells slots pc L (.int (lcmpW x z) :: S) := by
  subst hF
  intro T locs X N H
  by_cases q : relL cd x z
  · obtain ⟨t, o, st, r⟩ := kT q T locs X N H
    exact ⟨t, o, XS.ifYes X.here K.1 rfl rfl (hb K.2.2.1 hd) rfl ((if0 cd _).trans ((relL_iff cd x z).mpr q)) ho hT st, r⟩
  · obtain ⟨t, o, st, r⟩ := kF q T locs X N H
    exact ⟨t, o, XS.ifNo X.here K.1 rfl (hb K.2.2.1 hd) rfl (Bool.eq_false_iff.mpr fun h => q ((relL_iff cd x z).mp ((if0 cd _).symm.trans h))) st, r⟩
theorem Run.icmpT (K : Ctx Z y bytes maxL ret p s m meth c) {x z : Int32} {cd : ClassFile.Cond} {i : Int} {pT pF : Nat} (hd : decode bytes pc = .ok (.if_icmp cd i, 3)) (ho : 0 ≤ (pc : Int) + i) (hT : ((pc : Int) + i).toNat = pT) (hF : pc + 3 = pF) (q : rel cd x z) (kT : Run Z a0 n0 p l e R s m args below meth c Ψ D cells slots pT L S) : Run Z a0 n0 p l e R s m args below meth c Ψ D cells slots pc L (.int z :: .int x :: S) := Run.icmp K hd ho hT hF (fun _ => kT) (fun h => absurd q h)
theorem Run.icmpF (K : Ctx Z y bytes maxL ret p s m meth c) {x z : Int32} {cd : ClassFile.Cond} {i : Int} {pT pF : Nat} (hd : decode bytes pc = .ok (.if_icmp cd i, 3)) (ho : 0 ≤ (pc : Int) + i) (hT : ((pc : Int) + i).toNat = pT) (hF : pc + 3 = pF) (q : ¬ rel cd x z) (kF : Run Z a0 n0 p l e R s m args below meth c Ψ D cells slots pF L S) : Run Z a0 n0 p l e R s m args below meth c Ψ D cells slots pc L (.int z :: .int x :: S) := Run.icmp K hd ho hT hF (fun h => absurd h q) (fun _ => kF)
theorem Run.ifcT (K : Ctx Z y bytes maxL ret p s m meth c) {x : Int32} {cd : ClassFile.Cond} {i : Int} {pT pF : Nat} (hd : decode bytes pc = .ok (.ifCond cd i, 3)) (ho : 0 ≤ (pc : Int) + i) (hT : ((pc : Int) + i).toNat = pT) (hF : pc + 3 = pF) (q : rel cd x 0) (kT : Run Z a0 n0 p l e R s m args below meth c Ψ D cells slots pT L S) : Run Z a0 n0 p l e R s m args below meth c Ψ D cells slots pc L (.int x :: S) := Run.ifc K hd ho hT hF (fun _ => kT) (fun h => absurd q h)
theorem Run.ifcF (K : Ctx Z y bytes maxL ret p s m meth c) {x : Int32} {cd : ClassFile.Cond} {i : Int} {pT pF : Nat} (hd : decode bytes pc = .ok (.ifCond cd i, 3)) (ho : 0 ≤ (pc : Int) + i) (hT : ((pc : Int) + i).toNat = pT) (hF : pc + 3 = pF) (q : ¬ rel cd x 0) (kF : Run Z a0 n0 p l e R s m args below meth c Ψ D cells slots pF L S) : Run Z a0 n0 p l e R s m args below meth c Ψ D cells slots pc L (.int x :: S) := Run.ifc K hd ho hT hF (fun h => absurd h q) (fun _ => kF)
theorem Run.ifLT (K : Ctx Z y bytes maxL ret p s m meth c) {x z : Int64} {cd : ClassFile.Cond} {i : Int} {pT pF : Nat} (hd : decode bytes pc = .ok (.ifCond cd i, 3)) (ho : 0 ≤ (pc : Int) + i) (hT : ((pc : Int) + i).toNat = pT) (hF : pc + 3 = pF) (q : relL cd x z) (kT : Run Z a0 n0 p l e R s m args below meth c Ψ D cells slots pT L S) : Run Z a0 n0 p l e R s m args below meth c Ψ D cells slots pc L (.int (lcmpW x z) :: S) := Run.ifL K hd ho hT hF (fun _ => kT) (fun h => absurd q h)
theorem Run.ifLF (K : Ctx Z y bytes maxL ret p s m meth c) {x z : Int64} {cd : ClassFile.Cond} {i : Int} {pT pF : Nat} (hd : decode bytes pc = .ok (.ifCond cd i, 3)) (ho : 0 ≤ (pc : Int) + i) (hT : ((pc : Int) + i).toNat = pT) (hF : pc + 3 = pF) (q : ¬ relL cd x z) (kF : Run Z a0 n0 p l e R s m args below meth c Ψ D cells slots pF L S) : Run Z a0 n0 p l e R s m args below meth c Ψ D cells slots pc L (.int (lcmpW x z) :: S) := Run.ifL K hd ho hT hF (fun h => absurd h q) (fun _ => kF)
theorem Run.ifnonnullT (K : Ctx Z y bytes maxL ret p s m meth c) {a : Addr} {i : Int} {pT : Nat} (hd : decode bytes pc = .ok (.ifnonnull i, 3)) (ho : 0 ≤ (pc : Int) + i) (hT : ((pc : Int) + i).toNat = pT) (k : Run Z a0 n0 p l e R s m args below meth c Ψ D cells slots pT L S) : Run Z a0 n0 p l e R s m args below meth c Ψ D cells slots pc L (.ref a :: S) := by
  intro T locs X N H
  obtain ⟨t, o, st, r⟩ := k T locs X N H
  exact ⟨t, o, XS.ifnonnullYes X.here K.1 rfl rfl (hb K.2.2.1 hd) rfl ho hT st, r⟩
theorem Run.as {D' : HD} (hD : D' = D) (k : Run Z a0 n0 p l e R s m args below meth c Ψ D' cells slots pc L S) : Run Z a0 n0 p l e R s m args below meth c Ψ D cells slots pc L S := by subst hD; exact k
theorem Run.asL {L' : Array Slot} (hL : L = L') (k : Run Z a0 n0 p l e R s m args below meth c Ψ D cells slots pc L' S) : Run Z a0 n0 p l e R s m args below meth c Ψ D cells slots pc L S := by subst hL; exact k
theorem Run.as2 {D' : HD} {S' : List Value} (hD : D' = D) (hS : S' = S) (k : Run Z a0 n0 p l e R s m args below meth c Ψ D' cells slots pc L S') : Run Z a0 n0 p l e R s m args below meth c Ψ D cells slots pc L S := by subst hD hS; exact k
theorem Ret.k {v : Option Value} {D1 : HD} {S' rest : List Value} {cells' slots' pc' : Nat} (hS : S' = v.toList ++ rest) (k : Run Z a0 n0 p l e R s m args below meth c Ψ D1 cells' slots' pc' L S') : ∀ (w : Option Value) (D' : HD), Ret v D1 w D' → Run Z a0 n0 p l e R s m args below meth c Ψ D' cells' slots' pc' L (w.toList ++ rest) := by rintro w D' ⟨rfl, rfl⟩; subst hS; exact k
theorem Run.join0 {D' : HD} {cells' slots' pc' : Nat} {L' : Array Slot} {S' : List Value} (k : Run Z a0 n0 p l e R s m args below meth c Ψ D' cells' slots' pc' L' S') (b : Run Z a0 n0 p l e R s m args below meth c Ψ D' cells' slots' pc' L' S' → Run Z a0 n0 p l e R s m args below meth c Ψ D cells slots pc L S) : Run Z a0 n0 p l e R s m args below meth c Ψ D cells slots pc L S := b k
theorem Run.join1 {α0 : Type} {F : α0 → Prop} {D' : α0 → HD} {cells' slots' pc' : Nat} {L' : α0 → Array Slot} {S' : α0 → List Value} (k : (∀ w0, F w0 → Run Z a0 n0 p l e R s m args below meth c Ψ (D' w0) cells' slots' pc' (L' w0) (S' w0))) (b : (∀ w0, F w0 → Run Z a0 n0 p l e R s m args below meth c Ψ (D' w0) cells' slots' pc' (L' w0) (S' w0)) → Run Z a0 n0 p l e R s m args below meth c Ψ D cells slots pc L S) : Run Z a0 n0 p l e R s m args below meth c Ψ D cells slots pc L S := b k
theorem Run.join2 {α0 : Type} {α1 : Type} {F : α0 → α1 → Prop} {D' : α0 → α1 → HD} {cells' slots' pc' : Nat} {L' : α0 → α1 → Array Slot} {S' : α0 → α1 → List Value} (k : (∀ w0 w1, F w0 w1 → Run Z a0 n0 p l e R s m args below meth c Ψ (D' w0 w1) cells' slots' pc' (L' w0 w1) (S' w0 w1))) (b : (∀ w0 w1, F w0 w1 → Run Z a0 n0 p l e R s m args below meth c Ψ (D' w0 w1) cells' slots' pc' (L' w0 w1) (S' w0 w1)) → Run Z a0 n0 p l e R s m args below meth c Ψ D cells slots pc L S) : Run Z a0 n0 p l e R s m args below meth c Ψ D cells slots pc L S := b k
theorem Run.join3 {α0 : Type} {α1 : Type} {α2 : Type} {F : α0 → α1 → α2 → Prop} {D' : α0 → α1 → α2 → HD} {cells' slots' pc' : Nat} {L' : α0 → α1 → α2 → Array Slot} {S' : α0 → α1 → α2 → List Value} (k : (∀ w0 w1 w2, F w0 w1 w2 → Run Z a0 n0 p l e R s m args below meth c Ψ (D' w0 w1 w2) cells' slots' pc' (L' w0 w1 w2) (S' w0 w1 w2))) (b : (∀ w0 w1 w2, F w0 w1 w2 → Run Z a0 n0 p l e R s m args below meth c Ψ (D' w0 w1 w2) cells' slots' pc' (L' w0 w1 w2) (S' w0 w1 w2)) → Run Z a0 n0 p l e R s m args below meth c Ψ D cells slots pc L S) : Run Z a0 n0 p l e R s m args below meth c Ψ D cells slots pc L S := b k
theorem Run.join4 {α0 : Type} {α1 : Type} {α2 : Type} {α3 : Type} {F : α0 → α1 → α2 → α3 → Prop} {D' : α0 → α1 → α2 → α3 → HD} {cells' slots' pc' : Nat} {L' : α0 → α1 → α2 → α3 → Array Slot} {S' : α0 → α1 → α2 → α3 → List Value} (k : (∀ w0 w1 w2 w3, F w0 w1 w2 w3 → Run Z a0 n0 p l e R s m args below meth c Ψ (D' w0 w1 w2 w3) cells' slots' pc' (L' w0 w1 w2 w3) (S' w0 w1 w2 w3))) (b : (∀ w0 w1 w2 w3, F w0 w1 w2 w3 → Run Z a0 n0 p l e R s m args below meth c Ψ (D' w0 w1 w2 w3) cells' slots' pc' (L' w0 w1 w2 w3) (S' w0 w1 w2 w3)) → Run Z a0 n0 p l e R s m args below meth c Ψ D cells slots pc L S) : Run Z a0 n0 p l e R s m args below meth c Ψ D cells slots pc L S := b k
theorem Run.join5 {α0 : Type} {α1 : Type} {α2 : Type} {α3 : Type} {α4 : Type} {F : α0 → α1 → α2 → α3 → α4 → Prop} {D' : α0 → α1 → α2 → α3 → α4 → HD} {cells' slots' pc' : Nat} {L' : α0 → α1 → α2 → α3 → α4 → Array Slot} {S' : α0 → α1 → α2 → α3 → α4 → List Value} (k : (∀ w0 w1 w2 w3 w4, F w0 w1 w2 w3 w4 → Run Z a0 n0 p l e R s m args below meth c Ψ (D' w0 w1 w2 w3 w4) cells' slots' pc' (L' w0 w1 w2 w3 w4) (S' w0 w1 w2 w3 w4))) (b : (∀ w0 w1 w2 w3 w4, F w0 w1 w2 w3 w4 → Run Z a0 n0 p l e R s m args below meth c Ψ (D' w0 w1 w2 w3 w4) cells' slots' pc' (L' w0 w1 w2 w3 w4) (S' w0 w1 w2 w3 w4)) → Run Z a0 n0 p l e R s m args below meth c Ψ D cells slots pc L S) : Run Z a0 n0 p l e R s m args below meth c Ψ D cells slots pc L S := b k
theorem Run.join6 {α0 : Type} {α1 : Type} {α2 : Type} {α3 : Type} {α4 : Type} {α5 : Type} {F : α0 → α1 → α2 → α3 → α4 → α5 → Prop} {D' : α0 → α1 → α2 → α3 → α4 → α5 → HD} {cells' slots' pc' : Nat} {L' : α0 → α1 → α2 → α3 → α4 → α5 → Array Slot} {S' : α0 → α1 → α2 → α3 → α4 → α5 → List Value} (k : (∀ w0 w1 w2 w3 w4 w5, F w0 w1 w2 w3 w4 w5 → Run Z a0 n0 p l e R s m args below meth c Ψ (D' w0 w1 w2 w3 w4 w5) cells' slots' pc' (L' w0 w1 w2 w3 w4 w5) (S' w0 w1 w2 w3 w4 w5))) (b : (∀ w0 w1 w2 w3 w4 w5, F w0 w1 w2 w3 w4 w5 → Run Z a0 n0 p l e R s m args below meth c Ψ (D' w0 w1 w2 w3 w4 w5) cells' slots' pc' (L' w0 w1 w2 w3 w4 w5) (S' w0 w1 w2 w3 w4 w5)) → Run Z a0 n0 p l e R s m args below meth c Ψ D cells slots pc L S) : Run Z a0 n0 p l e R s m args below meth c Ψ D cells slots pc L S := b k
theorem Run.ldcI (K : Ctx Z y bytes maxL ret p s m meth c) {idx : Nat} {v : Int32} {pc' : Nat} (hd : decode bytes pc = .ok (.ldc idx, 2)) (hp : pc + 2 = pc') (w : (Jvm.Cond.constant y.cls idx v).before a0 Z = true) (k : Run Z a0 n0 p l e R s m args below meth c Ψ D cells slots pc' L (.int v :: S)) : Run Z a0 n0 p l e R s m args below meth c Ψ D cells slots pc L S := by
  subst hp
  intro T locs X N H
  obtain ⟨t, o, st, r⟩ := k T locs X N H
  exact ⟨t, o, X.ldcInt K.1 K.2.2.2.2.1 (mvT K.2.1 w) (g := mkF m pc L S) rfl (hb K.2.2.1 hd) _ st, r⟩
theorem Run.ldcJ (K : Ctx Z y bytes maxL ret p s m meth c) {idx : Nat} {v : Int64} {pc' : Nat} (hd : decode bytes pc = .ok (.ldc2_w idx, 3)) (hp : pc + 3 = pc') (w : (Jvm.Cond.constantLong y.cls idx v).before a0 Z = true) (k : Run Z a0 n0 p l e R s m args below meth c Ψ D cells slots pc' L (.long v :: S)) : Run Z a0 n0 p l e R s m args below meth c Ψ D cells slots pc L S := by
  subst hp
  intro T locs X N H
  obtain ⟨t, o, st, r⟩ := k T locs X N H
  exact ⟨t, o, X.ldc2Long K.1 K.2.2.2.2.1 (mvT K.2.1 w) (g := mkF m pc L S) rfl (hb K.2.2.1 hd) _ st, r⟩
theorem Run.getF (K : Ctx Z y bytes maxL ret p s m meth c) {idx i j : Nat} {O n d C : String} {a : Addr} {fs : List OFld} {v : Value} {pc' : Nat} (hd : decode bytes pc = .ok (.getfield idx, 3)) (hp : pc + 3 = pc') (w : (Jvm.Cond.fieldLink y.cls idx O n d).before a0 Z = true) (hi : D.1[i]? = some (a, C, fs)) (hj : fs[j]? = some (O, n, d, v)) (k : Run Z a0 n0 p l e R s m args below meth c Ψ D cells slots pc' L (v :: S)) : Run Z a0 n0 p l e R s m args below meth c Ψ D cells slots pc L (.ref a :: S) := by
  subst hp
  intro T locs X N H
  have F := ((H.2.1 _ (List.mem_of_getElem? hi)).2.2.1 _ (List.mem_of_getElem? hj)).1
  obtain ⟨T', X', e', st'⟩ := RoadKit.getF X K.1 K.2.1 K.2.2.2.2.1 (host := "") (Or.inl w) Via.refl rfl F (g := mkF m pc L (.ref a :: S)) rfl rfl (hb K.2.2.1 hd)
  obtain ⟨t, o, st, r⟩ := k T' locs X' N (by rw [e']; exact H)
  exact ⟨t, o, st' _ st, r⟩
theorem Run.putF (K : Ctx Z y bytes maxL ret p s m meth c) {idx i j kk : Nat} {O n d C : String} {a : Addr} {fs : List OFld} {v old : Value} {ty : FieldType} {pc' : Nat} {D' : HD} (hd : decode bytes pc = .ok (.putfield idx, 3)) (hp : pc + 3 = pc') (w : (Jvm.Cond.fieldLink y.cls idx O n d).before a0 Z = true) (wl : (Jvm.Cond.lays C O n d).before a0 Z = true ∨ ((Jvm.Cond.laysFinal C O n d).before a0 Z = true ∧ y.cls = O ∧ y.name = "<init>")) (wi : (Jvm.Cond.instantiable C kk).before a0 Z = true) (hty : parseFieldDescriptor d = some ty) (hn : narrow ty v = v) (hf : fits ty v = true) (hi : D.1[i]? = some (a, C, fs)) (hj : fs[j]? = some (O, n, d, old)) (hD : D' = (D.1.set i (a, C, fs.set j (O, n, d, v)), D.2)) (k : Run Z a0 n0 p l e R s m args below meth c Ψ D' cells slots pc' L S) : Run Z a0 n0 p l e R s m args below meth c Ψ D cells slots pc L (v :: .ref a :: S) := by
  subst hp hD
  intro T locs X N H
  have HO := H.2.1 _ (List.mem_of_getElem? hi)
  have F := (HO.2.2.1 _ (List.mem_of_getElem? hj)).1
  obtain ⟨T', h', X', e', W, st'⟩ := RoadKit.putF X K.1 K.2.1 K.2.2.2.2.1 (host := "") (Or.inl w) Via.refl rfl F HO.2.1 (wl.imp id fun q => ⟨q.1, q.2.1, K.2.2.2.2.2.1.trans q.2.2⟩) wi hty hn hf (g := mkF m pc L (v :: .ref a :: S)) rfl rfl (hb K.2.2.1 hd)
  obtain ⟨t, o, st, r⟩ := k T' _ X' (Fr.snoc X' N HO.1) (by rw [e']; exact H.put hi hj W)
  exact ⟨t, o, st' _ st, r⟩
theorem Run.newO (K : Ctx Z y bytes maxL ret p s m meth c) {idx n : Nat} {C : String} {fs : List OFld} {pc' cells' slots' : Nat} (hd : decode bytes pc = .ok (.new idx, 3)) (hp : pc + 3 = pc') (w : (Jvm.Cond.classLink y.cls idx C).before a0 Z = true) (wi : (Jvm.Cond.instantiable C n).before a0 Z = true) (wz : (Jvm.Cond.initialized C).before a0 Z = true) (F : FieldsOk Z a0 C fs) (e1 : cells + 1 = cells') (e2 : slots + n = slots') (hc : cells' ≤ R.cells) (hs : slots' ≤ R.slots) (k : ∀ a : Addr, Run Z a0 n0 p l e R s m args below meth c Ψ ((a, C, fs) :: D.1, D.2) cells' slots' pc' L (.ref a :: S)) : Run Z a0 n0 p l e R s m args below meth c Ψ D cells slots pc L S := by
  subst hp e1 e2
  intro T locs X N H
  obtain ⟨T', h', X', e', E, A, Dv, -, st'⟩ := RoadKit.newO X K.1 K.2.1 K.2.2.2.2.1 w wi wz rfl (g := mkF m pc L S) rfl (hb K.2.2.1 hd) hc hs
  obtain ⟨t, o, st, r⟩ := k T.heap.size T' locs X' N (by rw [e']; exact H.new E A F Dv)
  exact ⟨t, o, st' _ st, r⟩
theorem Run.newA (K : Ctx Z y bytes maxL ret p s m meth c) {aty : ArrayType} {ty : FieldType} {n : Int32} {vs : List Value} {cap : Nat} {pc' cells' slots' : Nat} (hd : decode bytes pc = .ok (.newarray aty, 2)) (hp : pc + 2 = pc') (hty : newarray.typeOf aty = ty) (w : (Jvm.Cond.arrayClass ty).before a0 Z = true) (hn : ¬ n < 0) (hvs : vs = List.replicate n.toNatClampNeg (defaultValue ty)) (hcap : n.toNatClampNeg ≤ cap) (hb8 : cap * 8 ≤ 536870912) (e1 : cells + 1 = cells') (e2 : slots + cap = slots') (hc : cells' ≤ R.cells) (hs : slots' ≤ R.slots) (hfd : fits ty (defaultValue ty) = true) (k : ∀ a : Addr, Run Z a0 n0 p l e R s m args below meth c Ψ (D.1, (a, ty, vs) :: D.2) cells' slots' pc' L (.ref a :: S)) : Run Z a0 n0 p l e R s m args below meth c Ψ D cells slots pc L (.int n :: S) := by
  subst hp e1 e2 hty hvs
  intro T locs X N H
  obtain ⟨T', h', cA, X', e', E, A, st'⟩ := RoadKit.newP X K.1 K.2.1 w rfl (g := mkF m pc L (.int n :: S)) rfl (hb K.2.2.1 hd) rfl hn hcap hb8 hc hs
  obtain ⟨t, o, st, r⟩ := k T.heap.size T' locs X' N (by
    rw [e']
    refine H.newArr E A ?_ ?_ ?_
    · simp [RoadKit.newA]
    · rw [List.length_replicate]; exact (back32 hn).2
    · intro v hv; rw [List.eq_of_mem_replicate hv]; exact hfd)
  exact ⟨t, o, st' _ st, r⟩
theorem Run.alen (K : Ctx Z y bytes maxL ret p s m meth c) {i : Nat} {a : Addr} {ty : FieldType} {vs : List Value} {w : Int32} {pc' : Nat} (hd : decode bytes pc = .ok (.arraylength, 1)) (hp : pc + 1 = pc') (hi : D.2[i]? = some (a, ty, vs)) (hw : vs.length.toInt32 = w) (k : Run Z a0 n0 p l e R s m args below meth c Ψ D cells slots pc' L (.int w :: S)) : Run Z a0 n0 p l e R s m args below meth c Ψ D cells slots pc L (.ref a :: S) := by
  subst hp hw
  intro T locs X N H
  obtain ⟨-, c', A, e1, -⟩ := H.2.2.1 _ (List.mem_of_getElem? hi)
  have q : c'.slots.size = vs.length := by rw [e1]; simp
  obtain ⟨t, o, st, r⟩ := k T locs X N H
  rw [← q] at st
  exact ⟨t, o, X.arraylength K.1 A.1 (State.isArrayOf_alike K.2.1.alike A.2.1) (g := mkF m pc L (.ref a :: S)) rfl rfl (hb K.2.2.1 hd) _ st, r⟩
theorem nar_byte (x : Int32) : nar .byte (x.toInt8.toInt32) = x.toInt8.toInt32 := by
  show (x.toInt8.toInt32).toInt8.toInt32 = x.toInt8.toInt32
  rw [Int8.toInt8_toInt32]
theorem own_bool {j : Int32} (h : j = (0 : Int32) ∨ j = (1 : Int32)) : nar .boolean j = j := by rcases h with rfl | rfl <;> decide
theorem in_of {vs : List Value} {q : Nat} {v : Value} {j : Int32} (hj : ¬ j < 0) (hq : j.toNatClampNeg = q) (hv : vs[q]? = some v) {c' : Cell} (e1 : c'.slots = vs.toArray) : ¬ (j < 0 ∨ c'.slots.size ≤ j.toNatClampNeg) ∧ c'.slots[j.toNatClampNeg]? = some v := by
  subst hq
  obtain ⟨li, ei⟩ := List.getElem?_eq_some_iff.mp hv
  refine ⟨fun z => z.elim hj fun z => ?_, by rw [e1]; simpa using hv⟩
  rw [e1] at z
  simp at z
  omega
theorem Run.baload (K : Ctx Z y bytes maxL ret p s m meth c) {i q : Nat} {a : Addr} {vs : List Value} {j : Int32} {v : Value} {pc' : Nat} (hd : decode bytes pc = .ok (.baload, 1)) (hp : pc + 1 = pc') (hi : D.2[i]? = some (a, .byte, vs)) (hj : ¬ j < 0) (hq : j.toNatClampNeg = q) (hv : vs[q]? = some v) (k : Run Z a0 n0 p l e R s m args below meth c Ψ D cells slots pc' L (v :: S)) : Run Z a0 n0 p l e R s m args below meth c Ψ D cells slots pc L (.int j :: .ref a :: S) := by
  subst hp
  intro T locs X N H
  obtain ⟨-, c', A, e1, -⟩ := H.2.2.1 _ (List.mem_of_getElem? hi)
  obtain ⟨u1, u2⟩ := in_of hj hq hv e1
  obtain ⟨t, o, st, r⟩ := k T locs X N H
  exact ⟨t, o, X.baloadBytes K.1 A.1 (State.isArrayOf_alike K.2.1.alike A.2.1) A.2.2 u1 u2 (g := mkF m pc L (.int j :: .ref a :: S)) rfl rfl (hb K.2.2.1 hd) _ st, r⟩
theorem Run.iaload (K : Ctx Z y bytes maxL ret p s m meth c) {i q : Nat} {a : Addr} {vs : List Value} {j : Int32} {v : Value} {pc' : Nat} (hd : decode bytes pc = .ok (.iaload, 1)) (hp : pc + 1 = pc') (hi : D.2[i]? = some (a, .int, vs)) (hj : ¬ j < 0) (hq : j.toNatClampNeg = q) (hv : vs[q]? = some v) (k : Run Z a0 n0 p l e R s m args below meth c Ψ D cells slots pc' L (v :: S)) : Run Z a0 n0 p l e R s m args below meth c Ψ D cells slots pc L (.int j :: .ref a :: S) := by
  subst hp
  intro T locs X N H
  obtain ⟨-, c', A, e1, -⟩ := H.2.2.1 _ (List.mem_of_getElem? hi)
  obtain ⟨u1, u2⟩ := in_of hj hq hv e1
  obtain ⟨t, o, st, r⟩ := k T locs X N H
  exact ⟨t, o, X.iaload K.1 A.1 (State.isArrayOf_alike K.2.1.alike A.2.1) A.2.2 u1 u2 (g := mkF m pc L (.int j :: .ref a :: S)) rfl rfl (hb K.2.2.1 hd) _ st, r⟩
theorem Run.laload (K : Ctx Z y bytes maxL ret p s m meth c) {i q : Nat} {a : Addr} {vs : List Value} {j : Int32} {v : Value} {pc' : Nat} (hd : decode bytes pc = .ok (.laload, 1)) (hp : pc + 1 = pc') (hi : D.2[i]? = some (a, .long, vs)) (hj : ¬ j < 0) (hq : j.toNatClampNeg = q) (hv : vs[q]? = some v) (k : Run Z a0 n0 p l e R s m args below meth c Ψ D cells slots pc' L (v :: S)) : Run Z a0 n0 p l e R s m args below meth c Ψ D cells slots pc L (.int j :: .ref a :: S) := by
  subst hp
  intro T locs X N H
  obtain ⟨-, c', A, e1, -⟩ := H.2.2.1 _ (List.mem_of_getElem? hi)
  obtain ⟨u1, u2⟩ := in_of hj hq hv e1
  obtain ⟨t, o, st, r⟩ := k T locs X N H
  exact ⟨t, o, X.laload K.1 A.1 (State.isArrayOf_alike K.2.1.alike A.2.1) A.2.2 u1 u2 (g := mkF m pc L (.int j :: .ref a :: S)) rfl rfl (hb K.2.2.1 hd) _ st, r⟩
theorem Run.zaload (K : Ctx Z y bytes maxL ret p s m meth c) {i q : Nat} {a : Addr} {vs : List Value} {j : Int32} {v : Value} {pc' : Nat} (hd : decode bytes pc = .ok (.baload, 1)) (hp : pc + 1 = pc') (hi : D.2[i]? = some (a, .boolean, vs)) (hj : ¬ j < 0) (hq : j.toNatClampNeg = q) (hv : vs[q]? = some v) (k : Run Z a0 n0 p l e R s m args below meth c Ψ D cells slots pc' L (v :: S)) : Run Z a0 n0 p l e R s m args below meth c Ψ D cells slots pc L (.int j :: .ref a :: S) := by
  subst hp
  intro T locs X N H
  obtain ⟨-, c', A, e1, -⟩ := H.2.2.1 _ (List.mem_of_getElem? hi)
  obtain ⟨u1, u2⟩ := in_of hj hq hv e1
  obtain ⟨t, o, st, r⟩ := k T locs X N H
  exact ⟨t, o, X.baloadBooleans K.1 A.1 (State.isArrayOf_alike K.2.1.alike A.2.1) A.2.2 u1 u2 (g := mkF m pc L (.int j :: .ref a :: S)) rfl rfl (hb K.2.2.1 hd) _ st, r⟩
theorem Run.caload (K : Ctx Z y bytes maxL ret p s m meth c) {i q : Nat} {a : Addr} {vs : List Value} {j : Int32} {v : Value} {pc' : Nat} (hd : decode bytes pc = .ok (.caload, 1)) (hp : pc + 1 = pc') (hi : D.2[i]? = some (a, .char, vs)) (hj : ¬ j < 0) (hq : j.toNatClampNeg = q) (hv : vs[q]? = some v) (k : Run Z a0 n0 p l e R s m args below meth c Ψ D cells slots pc' L (v :: S)) : Run Z a0 n0 p l e R s m args below meth c Ψ D cells slots pc L (.int j :: .ref a :: S) := by
  subst hp
  intro T locs X N H
  obtain ⟨-, c', A, e1, -⟩ := H.2.2.1 _ (List.mem_of_getElem? hi)
  obtain ⟨u1, u2⟩ := in_of hj hq hv e1
  obtain ⟨t, o, st, r⟩ := k T locs X N H
  exact ⟨t, o, X.caload K.1 A.1 (State.isArrayOf_alike K.2.1.alike A.2.1) A.2.2 u1 u2 (g := mkF m pc L (.int j :: .ref a :: S)) rfl rfl (hb K.2.2.1 hd) _ st, r⟩
theorem Run.bastore (K : Ctx Z y bytes maxL ret p s m meth c) {i q : Nat} {a : Addr} {vs : List Value} {j : Int32} {x : Int32} {v : Value} {pc' : Nat} {D' : HD} (hd : decode bytes pc = .ok (.bastore, 1)) (hp : pc + 1 = pc') (hi : D.2[i]? = some (a, .byte, vs)) (hj : ¬ j < 0) (hq : j.toNatClampNeg = q) (hv : vs[q]? = some v) (hD : D' = (D.1, D.2.set i (a, .byte, vs.set q (.int x.toInt8.toInt32)))) (k : Run Z a0 n0 p l e R s m args below meth c Ψ D' cells slots pc' L S) : Run Z a0 n0 p l e R s m args below meth c Ψ D cells slots pc L (.int x :: .int j :: .ref a :: S) := by
  subst hp hD
  intro T locs X N H
  have HA := H.2.2.1 _ (List.mem_of_getElem? hi)
  have g1 := HA.1
  obtain ⟨-, c', A, e1, -⟩ := HA
  obtain ⟨u1, u2⟩ := in_of hj hq hv e1
  obtain ⟨T', h', X', e', W, st'⟩ := stB X K.1 K.2.1 rfl A u1 (g := mkF m pc L (.int x :: .int j :: .ref a :: S)) rfl rfl (hb K.2.2.1 hd)
  rw [hq] at W X'
  obtain ⟨t, o, st, r⟩ := k T' _ X' (Fr.snoc X' N g1) (by rw [e']; exact H.store hi (fits_nar_byte x) W)
  exact ⟨t, o, st' _ st, r⟩
theorem Run.iastore (K : Ctx Z y bytes maxL ret p s m meth c) {i q : Nat} {a : Addr} {vs : List Value} {j : Int32} {x : Int32} {v : Value} {pc' : Nat} {D' : HD} (hd : decode bytes pc = .ok (.iastore, 1)) (hp : pc + 1 = pc') (hi : D.2[i]? = some (a, .int, vs)) (hj : ¬ j < 0) (hq : j.toNatClampNeg = q) (hv : vs[q]? = some v) (hD : D' = (D.1, D.2.set i (a, .int, vs.set q (.int x)))) (k : Run Z a0 n0 p l e R s m args below meth c Ψ D' cells slots pc' L S) : Run Z a0 n0 p l e R s m args below meth c Ψ D cells slots pc L (.int x :: .int j :: .ref a :: S) := by
  subst hp hD
  intro T locs X N H
  have HA := H.2.2.1 _ (List.mem_of_getElem? hi)
  have g1 := HA.1
  obtain ⟨-, c', A, e1, -⟩ := HA
  obtain ⟨u1, u2⟩ := in_of hj hq hv e1
  obtain ⟨T', h', X', e', W, st'⟩ := stI X K.1 K.2.1 rfl A u1 (g := mkF m pc L (.int x :: .int j :: .ref a :: S)) rfl rfl (hb K.2.2.1 hd)
  rw [hq] at W X'
  obtain ⟨t, o, st, r⟩ := k T' _ X' (Fr.snoc X' N g1) (by rw [e']; exact H.store hi (rfl) W)
  exact ⟨t, o, st' _ st, r⟩
theorem Run.lastore (K : Ctx Z y bytes maxL ret p s m meth c) {i q : Nat} {a : Addr} {vs : List Value} {j : Int32} {x : Int64} {v : Value} {pc' : Nat} {D' : HD} (hd : decode bytes pc = .ok (.lastore, 1)) (hp : pc + 1 = pc') (hi : D.2[i]? = some (a, .long, vs)) (hj : ¬ j < 0) (hq : j.toNatClampNeg = q) (hv : vs[q]? = some v) (hD : D' = (D.1, D.2.set i (a, .long, vs.set q (.long x)))) (k : Run Z a0 n0 p l e R s m args below meth c Ψ D' cells slots pc' L S) : Run Z a0 n0 p l e R s m args below meth c Ψ D cells slots pc L (.long x :: .int j :: .ref a :: S) := by
  subst hp hD
  intro T locs X N H
  have HA := H.2.2.1 _ (List.mem_of_getElem? hi)
  have g1 := HA.1
  obtain ⟨-, c', A, e1, -⟩ := HA
  obtain ⟨u1, u2⟩ := in_of hj hq hv e1
  obtain ⟨T', h', X', e', W, st'⟩ := stJ X K.1 K.2.1 rfl A u1 (g := mkF m pc L (.long x :: .int j :: .ref a :: S)) rfl rfl (hb K.2.2.1 hd)
  rw [hq] at W X'
  obtain ⟨t, o, st, r⟩ := k T' _ X' (Fr.snoc X' N g1) (by rw [e']; exact H.store hi (rfl) W)
  exact ⟨t, o, st' _ st, r⟩
theorem Run.bring (i j : Nat) {D' : HD} (hD : D' = (bringL i D.1, bringL j D.2)) (k : Run Z a0 n0 p l e R s m args below meth c Ψ D' cells slots pc L S) : Run Z a0 n0 p l e R s m args below meth c Ψ D cells slots pc L S := by
  subst hD
  intro T locs X N H
  exact k T locs X N (H.perm (bringL_perm i _) (bringL_perm j _))
theorem Run.initO (K : Ctx Z y bytes maxL ret p s m meth c) {idx : Nat} {a : Addr} {W : Nat} {pc' : Nat} (hd : decode bytes pc = .ok (.invokespecial idx, 3)) (hp : pc + 3 = pc') (w1 : (Jvm.Cond.methodLink y.cls idx Lib.objectInit).before a0 Z = true) (w2 : (Jvm.Cond.instanceMethod Lib.objectInit).before a0 Z = true) (w3 : (Jvm.Cond.code Lib.objectInit ⟨#[0xb1]⟩ 1 none).before a0 Z = true) (hsz : L.size = maxL) (hf : 1 ≤ R.frames) (hW : (S.map fun v => v.category).sum = W) (hl : W + 12 ≤ R.locals) (k : Run Z a0 n0 p l e R s m args below meth c Ψ D cells slots pc' L S) : Run Z a0 n0 p l e R s m args below meth c Ψ D cells slots pc L (.ref a :: S) := by
  subst hp
  intro T locs X N H
  obtain ⟨T', X', e', st'⟩ := RoadKit.initO X K.1 K.2.1 K.2.2.2.2.1 w1 w2 w3 rfl (g := mkF m pc L (.ref a :: S)) rfl (by rw [K.2.2.2.1]; exact hsz) rfl (hb K.2.2.1 hd) hf (W := W) (by show 2 * 0 + _ ≤ _; rw [hW]; omega) hl
  obtain ⟨t, o, st, r⟩ := k T' locs X' N (by rw [e']; exact H)
  exact ⟨t, o, st' _ st, r⟩
theorem Run.callS (K : Ctx Z y bytes maxL ret p s m meth c) {idx W : Nat} {z : MethodName} {bs : ByteArray} {mL : Nat} {rt : Option FieldType} {rm : Room} {Φ : Option Value → HD → Prop} {argsL rest : List Value} {sg : MethodDescriptor} {cells' slots' pc' : Nat} (hd : decode bytes pc = .ok (.invokestatic idx, 3)) (hp : pc + 3 = pc') (w1 : (Jvm.Cond.methodLink y.cls idx z).before a0 Z = true) (w2 : (Jvm.Cond.static z).before a0 Z = true) (w3 : (Jvm.Cond.initialized z.cls).before a0 Z = true) (w4 : (Jvm.Cond.code z bs mL rt).before a0 Z = true) (hz : z.cls ≠ "java/lang/invoke/MethodHandle" ∧ z.cls ≠ "java/lang/invoke/VarHandle") (C : Con l Z a0 n0 [] z bs mL rt rm argsL.toArray D Φ) (hS : S = argsL.reverse ++ rest) (hsz : L.size = maxL) (hsg : parseMethodDescriptor z.desc = some sg) (hlen : argsL.length = sg.parameters.length) (hW : (rest.map fun v => v.category).sum = W) (hf : rm.frames + 1 ≤ R.frames) (hl : W + (mL + 11) + rm.locals ≤ R.locals) (e1 : cells + rm.cells = cells') (e2 : slots + rm.slots = slots') (hc : cells' ≤ R.cells) (hs : slots' ≤ R.slots) (k : ∀ (v : Option Value) (D' : HD), Φ v D' → Run Z a0 n0 p l e R s m args below meth c Ψ D' cells' slots' pc' L (v.toList ++ rest)) : Run Z a0 n0 p l e R s m args below meth c Ψ D cells slots pc L S := by
  subst hp e1 e2 hS
  intro T locs X N H
  have B := backOf (R := R) (p := p) (e := e) (below := below) (s := s) (args := args) (len := 3) (W := W) (Q := fun v h L => Fr n0 L ∧ ∃ D', Φ v D' ∧ Heaped Z a0 n0 h D') (C T.heap H) K.2.1 w4 w3 hf hl
  obtain ⟨v, _, ⟨T', L', k', n'⟩, -, X', ⟨Lc, hQ, l', y', z'⟩, st'⟩ := Jvm.LawKit.callS X K.1 (y := z) K.2.2.2.2.1 (mvT K.2.1 w1) (mvT K.2.1 w2) (mvT K.2.1 w3) (mvT K.2.1 w4) hz B (g := mkF m pc L (argsL.reverse ++ rest)) rfl (by rw [K.2.2.2.1]; exact hsz) (argsL := argsL) (rest := rest) (fun sig h => by cases hsg.symm.trans h; exact hlen) rfl (by show 2 * 0 + _ ≤ _; rw [hW]; omega) (hb K.2.2.1 hd) (fun _ _ => ⟨rfl, rfl, hc, hs⟩)
  dsimp only [Pt.U, Pt.locs, Pt.cells, Pt.slots] at X' st' hQ l' y' z'
  subst l' y' z'
  obtain ⟨N', D', hΦ, H'⟩ := hQ
  obtain ⟨t, o, st, r⟩ := k v D' hΦ T' _ X' (Fr.app N N') H'
  exact ⟨t, o, st' _ st, r⟩
theorem Run.callI (K : Ctx Z y bytes maxL ret p s m meth c) {idx W : Nat} {z : MethodName} {bs : ByteArray} {mL : Nat} {rm : Room} {Φ : Option Value → HD → Prop} {argsL rest : List Value} {sg : MethodDescriptor} {cells' slots' pc' : Nat} {a : Addr} (hd : decode bytes pc = .ok (.invokespecial idx, 3)) (hp : pc + 3 = pc') (hz1 : z.name = "<init>") (w1 : (Jvm.Cond.methodLink y.cls idx z).before a0 Z = true) (w2 : (Jvm.Cond.instanceMethod z).before a0 Z = true) (w3 : (Jvm.Cond.initialized z.cls).before a0 Z = true) (w4 : (Jvm.Cond.code z bs mL none).before a0 Z = true) (hz : z.cls ≠ "java/lang/invoke/MethodHandle" ∧ z.cls ≠ "java/lang/invoke/VarHandle") (C : Con l Z a0 n0 [] z bs mL none rm (.ref a :: argsL).toArray D Φ) (hS : S = argsL.reverse ++ .ref a :: rest) (hsz : L.size = maxL) (hsg : parseMethodDescriptor z.desc = some sg) (hlen : argsL.length = sg.parameters.length) (hW : (rest.map fun v => v.category).sum = W) (hf : rm.frames + 1 ≤ R.frames) (hl : W + (mL + 11) + rm.locals ≤ R.locals) (e1 : cells + rm.cells = cells') (e2 : slots + rm.slots = slots') (hc : cells' ≤ R.cells) (hs : slots' ≤ R.slots) (k : ∀ (v : Option Value) (D' : HD), Φ v D' → Run Z a0 n0 p l e R s m args below meth c Ψ D' cells' slots' pc' L (v.toList ++ rest)) : Run Z a0 n0 p l e R s m args below meth c Ψ D cells slots pc L S := by
  subst hp e1 e2 hS
  intro T locs X N H
  have B := backOf (R := R) (p := p) (e := e) (below := below) (s := s) (args := args) (len := 3) (W := W) (Q := fun v h L => Fr n0 L ∧ ∃ D', Φ v D' ∧ Heaped Z a0 n0 h D') (C T.heap H) K.2.1 w4 w3 hf hl
  obtain ⟨v, _, ⟨T', L', k', n'⟩, -, X', ⟨Lc, hQ, l', y', z'⟩, st'⟩ := X.specialBack K.1 (y := z) hz1 K.2.2.2.2.1 (mvT K.2.1 w1) (mvT K.2.1 w2) (mvT K.2.1 w4) hz B (g := mkF m pc L (argsL.reverse ++ .ref a :: rest)) rfl (by rw [K.2.2.2.1]; exact hsz) (Steps.refl _) (a := a) (argsL := argsL) (rest := rest) (fun sig h => by cases hsg.symm.trans h; exact hlen) rfl (by show 2 * 0 + _ ≤ _; rw [hW]; omega) (hb K.2.2.1 hd) (fun _ _ => ⟨rfl, rfl, hc, hs⟩)
  dsimp only [Pt.U, Pt.locs, Pt.cells, Pt.slots] at X' st' hQ l' y' z'
  subst l' y' z'
  obtain ⟨N', D', hΦ, H'⟩ := hQ
  obtain ⟨t, o, st, r⟩ := k v D' hΦ T' _ X' (Fr.app N N') H'
  exact ⟨t, o, st'.trans st, r⟩
theorem Run.callV (K : Ctx Z y bytes maxL ret p s m meth c) {idx W : Nat} {z : MethodName} {bs : ByteArray} {mL : Nat} {rt : Option FieldType} {rm : Room} {Φ : Option Value → HD → Prop} {argsL rest : List Value} {sg : MethodDescriptor} {cells' slots' pc' : Nat} {a : Addr} {Cn : String} {fs : List OFld} {i : Nat} (hd : decode bytes pc = .ok (.invokevirtual idx, 3)) (hp : pc + 3 = pc') (w1 : (Jvm.Cond.methodLink y.cls idx z).before a0 Z = true) (w5 : (Jvm.Cond.declares z).before a0 Z = true) (w6 : (Jvm.Cond.selects Cn z z).before a0 Z = true) (w2 : (Jvm.Cond.instanceMethod z).before a0 Z = true) (w3 : (Jvm.Cond.initialized z.cls).before a0 Z = true) (w4 : (Jvm.Cond.code z bs mL rt).before a0 Z = true) (hz : z.cls ≠ "java/lang/invoke/MethodHandle" ∧ z.cls ≠ "java/lang/invoke/VarHandle") (hi : D.1[i]? = some (a, Cn, fs)) (C : Con l Z a0 n0 [] z bs mL rt rm (.ref a :: argsL).toArray D Φ) (hS : S = argsL.reverse ++ .ref a :: rest) (hsz : L.size = maxL) (hsg : parseMethodDescriptor z.desc = some sg) (hlen : argsL.length = sg.parameters.length) (hW : (rest.map fun v => v.category).sum = W) (hf : rm.frames + 1 ≤ R.frames) (hl : W + (mL + 11) + rm.locals ≤ R.locals) (e1 : cells + rm.cells = cells') (e2 : slots + rm.slots = slots') (hc : cells' ≤ R.cells) (hs : slots' ≤ R.slots) (k : ∀ (v : Option Value) (D' : HD), Φ v D' → Run Z a0 n0 p l e R s m args below meth c Ψ D' cells' slots' pc' L (v.toList ++ rest)) : Run Z a0 n0 p l e R s m args below meth c Ψ D cells slots pc L S := by
  subst hp e1 e2 hS
  intro T locs X N H
  have B := backOf (R := R) (p := p) (e := e) (below := below) (s := s) (args := args) (len := 3) (W := W) (Q := fun v h L => Fr n0 L ∧ ∃ D', Φ v D' ∧ Heaped Z a0 n0 h D') (C T.heap H) K.2.1 w4 w3 hf hl
  obtain ⟨cq, kq, q1, q2, q3⟩ := isOf (T := T) K.2.1 rfl (H.2.1 _ (List.mem_of_getElem? hi)).2.1
  obtain ⟨v, _, ⟨T', L', k', n'⟩, -, X', ⟨Lc, hQ, l', y', z'⟩, st'⟩ := X.virtualBack K.1 (y := z) (z := z) K.2.2.2.2.1 (mvT K.2.1 w1) (mvT K.2.1 w5) (notFace_of_selects (args := #[]) (mvT K.2.1 w6)) (mvT K.2.1 w6) (mvT K.2.1 w2) hz B q1 q3 (g := mkF m pc L (argsL.reverse ++ .ref a :: rest)) rfl (by rw [K.2.2.2.1]; exact hsz) (Steps.refl _) (argsL := argsL) (rest := rest) (fun sig h => by cases hsg.symm.trans h; exact hlen) rfl (by show 2 * 0 + _ ≤ _; rw [hW]; omega) (hb K.2.2.1 hd) (fun _ _ => ⟨rfl, rfl, hc, hs⟩)
  dsimp only [Pt.U, Pt.locs, Pt.cells, Pt.slots] at X' st' hQ l' y' z'
  subst l' y' z'
  obtain ⟨N', D', hΦ, H'⟩ := hQ
  obtain ⟨t, o, st, r⟩ := k v D' hΦ T' _ X' (Fr.app N N') H'
  exact ⟨t, o, st'.trans st, r⟩
theorem Run.callP (K : Ctx Z y bytes maxL ret p s m meth c) {idx W : Nat} {z : MethodName} {bs : ByteArray} {mL : Nat} {rt : Option FieldType} {rm : Room} {Φ : Option Value → HD → Prop} {argsL rest : List Value} {sg : MethodDescriptor} {cells' slots' pc' : Nat} {a : Addr} {Cn C2 : String} {x2 z2 : MethodName} {fs : List OFld} {i : Nat} (hd : decode bytes pc = .ok (.invokevirtual idx, 3)) (hp : pc + 3 = pc') (w1 : (Jvm.Cond.methodLink y.cls idx z).before a0 Z = true) (w5 : (Jvm.Cond.privateMethod z).before a0 Z = true) (w6 : (Jvm.Cond.selects C2 x2 z2).before a0 Z = true) (hzz : z2.cls = z.cls) (w2 : (Jvm.Cond.instanceMethod z).before a0 Z = true) (w3 : (Jvm.Cond.initialized z.cls).before a0 Z = true) (w4 : (Jvm.Cond.code z bs mL rt).before a0 Z = true) (hz : z.cls ≠ "java/lang/invoke/MethodHandle" ∧ z.cls ≠ "java/lang/invoke/VarHandle") (hi : D.1[i]? = some (a, Cn, fs)) (C : Con l Z a0 n0 [] z bs mL rt rm (.ref a :: argsL).toArray D Φ) (hS : S = argsL.reverse ++ .ref a :: rest) (hsz : L.size = maxL) (hsg : parseMethodDescriptor z.desc = some sg) (hlen : argsL.length = sg.parameters.length) (hW : (rest.map fun v => v.category).sum = W) (hf : rm.frames + 1 ≤ R.frames) (hl : W + (mL + 11) + rm.locals ≤ R.locals) (e1 : cells + rm.cells = cells') (e2 : slots + rm.slots = slots') (hc : cells' ≤ R.cells) (hs : slots' ≤ R.slots) (k : ∀ (v : Option Value) (D' : HD), Φ v D' → Run Z a0 n0 p l e R s m args below meth c Ψ D' cells' slots' pc' L (v.toList ++ rest)) : Run Z a0 n0 p l e R s m args below meth c Ψ D cells slots pc L S := by
  subst hp e1 e2 hS
  intro T locs X N H
  have B := backOf (R := R) (p := p) (e := e) (below := below) (s := s) (args := args) (len := 3) (W := W) (Q := fun v h L => Fr n0 L ∧ ∃ D', Φ v D' ∧ Heaped Z a0 n0 h D') (C T.heap H) K.2.1 w4 w3 hf hl
  obtain ⟨cell, hcell, hobj⟩ := (H.2.1 _ (List.mem_of_getElem? hi)).2.1.cell
  obtain ⟨mk, methM, hnamed, hmethM, hstM, habM⟩ := Cond.instanceMethod_spec (args := args) (mvT K.2.1 w2)
  obtain ⟨methM', cM, hmethM', -, -, -, -, -, -, hsigM⟩ := Cond.code_spec (args := args) hnamed (mvT K.2.1 w4)
  cases hmethM.symm.trans hmethM'
  obtain ⟨c2, r2, m2, -, -, q3, -, kP, hkP, hkPi⟩ := Cond.selects_spec (mvT (args := args) K.2.1 w6)
  have ids : m2.cls = mk.cls := by
    have q1 := findClass_of_methodNamed q3
    have q2 := findClass_of_methodNamed hnamed
    rw [hzz] at q1
    exact Option.some.inj (q1.symm.trans q2)
  rw [ids] at hkP
  have hpr := Cond.privateMethod_at (mvP (args := args) K.2.1 w5) mk methM hnamed hmethM
  obtain ⟨vm₁, X₁, st₁⟩ := X.invokevirtual K.1 K.2.2.2.2.1 (mvT K.2.1 w1) hnamed hmethM hstM hkP hkPi hz hcell hobj (selectMethod_private hmethM hpr) hmethM habM hkP hkPi (g := mkF m pc L (argsL.reverse ++ .ref a :: rest)) rfl (argsL := argsL) (rest := rest) (by cases hsg.symm.trans hsigM; exact hlen) rfl (hb K.2.2.1 hd)
  obtain ⟨v, ⟨T', L', k', n'⟩, X', ⟨Lc, hQ, l', y', z'⟩, st'⟩ := B m meth c ⟨T.setVm vm₁, locs, cells, slots⟩ (mkF m pc L rest) (.invokevirtual idx) mk (.ref a :: argsL).toArray X₁ rfl (by show L.size = c.maxLocals; rw [K.2.2.2.1]; exact hsz) (hb K.2.2.1 hd) (by show 2 * 0 + _ ≤ _; rw [hW]; omega) (X₁.named hnamed) ⟨rfl, rfl, hc, hs⟩
  dsimp only [Pt.U, Pt.locs, Pt.cells, Pt.slots] at X' st' hQ l' y' z'
  subst l' y' z'
  obtain ⟨N', D', hΦ, H'⟩ := hQ
  obtain ⟨t, o, st, r⟩ := k v D' hΦ T' _ X' (Fr.app N N') H'
  exact ⟨t, o, (st₁ _ fun acts => by rw [doInvoke_state]; exact Steps.refl _).trans (st'.trans st), r⟩
theorem Run.retV (K : Ctx Z y bytes maxL ret p s m meth c)  (hd : decode bytes pc = .ok (.return_, 1)) (hret : ret = none) (hc : cells ≤ R.cells) (hs : slots ≤ R.slots) (q : Ψ none D) : Run Z a0 n0 p l e R s m args below meth c Ψ D cells slots pc L [] := by
  intro T locs X N H
  obtain ⟨fs, hr, hrun, hended, hW, hsame⟩ := X.leave (v := none) (fun _ => rfl) K.2.2.2.2.2.2.2
  exact ⟨_, _, X.returnOut K.1 (K.2.2.2.2.2.2.1.trans hret) (hb K.2.2.1 hd) hr, hrun, hended, _, _, rfl, ⟨N, D, q, H⟩, ⟨_, rfl⟩, hW, hsame.mono hc hs⟩
theorem Run.retI (K : Ctx Z y bytes maxL ret p s m meth c) {x : Int32} (hd : decode bytes pc = .ok (.ireturn, 1)) (hret : ret = some .int) (hc : cells ≤ R.cells) (hs : slots ≤ R.slots) (q : Ψ (some (.int x)) D) : Run Z a0 n0 p l e R s m args below meth c Ψ D cells slots pc L [.int x] := by
  intro T locs X N H
  obtain ⟨fs, hr, hrun, hended, hW, hsame⟩ := X.leave (v := (some (.int x))) (fun h => by rw [K.2.2.2.2.2.2.1, hret] at h; cases h) K.2.2.2.2.2.2.2
  exact ⟨_, _, X.ireturnOut K.1 (K.2.2.2.2.2.2.1.trans hret) rfl (Or.inl rfl) (hb K.2.2.1 hd) hr, hrun, hended, _, _, rfl, ⟨N, D, q, H⟩, ⟨_, rfl⟩, hW, hsame.mono hc hs⟩
theorem Run.retJ (K : Ctx Z y bytes maxL ret p s m meth c) {x : Int64} (hd : decode bytes pc = .ok (.lreturn, 1)) (hret : ret = some .long) (hc : cells ≤ R.cells) (hs : slots ≤ R.slots) (q : Ψ (some (.long x)) D) : Run Z a0 n0 p l e R s m args below meth c Ψ D cells slots pc L [.long x] := by
  intro T locs X N H
  obtain ⟨fs, hr, hrun, hended, hW, hsame⟩ := X.leave (v := (some (.long x))) (fun h => by rw [K.2.2.2.2.2.2.1, hret] at h; cases h) K.2.2.2.2.2.2.2
  exact ⟨_, _, X.lreturnOut K.1 (K.2.2.2.2.2.2.1.trans hret) (hb K.2.2.1 hd) hr, hrun, hended, _, _, rfl, ⟨N, D, q, H⟩, ⟨_, rfl⟩, hW, hsame.mono hc hs⟩
theorem Run.retN (K : Ctx Z y bytes maxL ret p s m meth c) {x w : Int32} {t : FieldType} (hd : decode bytes pc = .ok (.ireturn, 1)) (hret : ret = some t) (ht : t = .boolean ∨ t = .byte ∨ t = .char ∨ t = .short) (hw : nar t x = w) (hc : cells ≤ R.cells) (hs : slots ≤ R.slots) (q : Ψ (some (.int w)) D) : Run Z a0 n0 p l e R s m args below meth c Ψ D cells slots pc L [.int x] := by
  intro T locs X N H
  obtain ⟨fs, hr, hrun, hended, hW, hsame⟩ := X.leave (v := (some (.int w))) (fun h => by rw [K.2.2.2.2.2.2.1, hret] at h; cases h) K.2.2.2.2.2.2.2
  exact ⟨_, _, RoadKit.retN X K.1 (K.2.2.2.2.2.2.1.trans hret) ht (hb K.2.2.1 hd) (hw ▸ hr), hrun, hended, _, _, rfl, ⟨N, D, q, H⟩, ⟨_, rfl⟩, hW, hsame.mono hc hs⟩
theorem Run.retA (K : Ctx Z y bytes maxL ret p s m meth c) {x : Value} {t : FieldType} (hd : decode bytes pc = .ok (.areturn, 1)) (hret : ret = some t) (ht : t.isReference = true) (hx : x.isRef = true) (hc : cells ≤ R.cells) (hs : slots ≤ R.slots) (q : Ψ (some x) D) : Run Z a0 n0 p l e R s m args below meth c Ψ D cells slots pc L [x] := by
  intro T locs X N H
  obtain ⟨fs, hr, hrun, hended, hW, hsame⟩ := X.leave (v := (some x)) (fun h => by rw [K.2.2.2.2.2.2.1, hret] at h; cases h) K.2.2.2.2.2.2.2
  exact ⟨_, _, X.areturnOut K.1 hx (K.2.2.2.2.2.2.1.trans hret) ht (hb K.2.2.1 hd) hr, hrun, hended, _, _, rfl, ⟨N, D, q, H⟩, ⟨_, rfl⟩, hW, hsame.mono hc hs⟩
end Runs
end Jvm.Own

namespace Jvm.Pilot.@@N@@
open Jvm Jvm.ClassFile Sem Op Lib Jvm.Free Jvm.Stand Jvm.LawKit Jvm.RoadKit Jvm.Own Bundle Jvm.Pilot.@@N@@.Jvm.D
def own_brk (b : Int32) : Prop := b = (13 : Int32) ∨ b = (10 : Int32)
def own_end (bs : List Int32) (f r : Nat) : Prop := f ≤ r ∧ r ≤ bs.length ∧ (∀ x, f ≤ x → x < r → ¬ own_brk (bs.getD x 0)) ∧ (r < bs.length → own_brk (bs.getD r 0))
theorem own_len (bs : List Int32) : (bs.map Value.int).length.toInt32 = Int32.ofNat bs.length := by rw [List.length_map]
theorem own_at {bs : List Int32} {k : Nat} (h : k < bs.length) : (bs.map Value.int)[k]? = some (.int (bs.getD k 0)) := by
  simp [List.getElem?_map, h, List.getD_eq_getElem?_getD]
theorem own_nn {k : Nat} (h : k < 2147483648) : ¬ (Int32.ofNat k < (0 : Int32)) := by
  rw [Int32.lt_iff_toInt_lt, Int32.toInt_ofNat_small h]
  have z : (0 : Int32).toInt = 0 := by decide
  omega
theorem own_clamp {k : Nat} (h : k < 2147483648) : (Int32.ofNat k).toNatClampNeg = k := by
  have q : (Int32.ofNat k).toInt = k := Int32.toInt_ofNat_small h
  show (Int32.ofNat k).toInt.toNat = k
  omega
theorem own_le {a b : Nat} (ha : a < 2147483648) (hb : b < 2147483648) : Int32.ofNat a ≤ Int32.ofNat b ↔ a ≤ b := by
  rw [Int32.le_iff_toInt_le, Int32.toInt_ofNat_small ha, Int32.toInt_ofNat_small hb]
  omega
theorem own_lt {a b : Nat} (ha : a < 2147483648) (hb : b < 2147483648) : Int32.ofNat a < Int32.ofNat b ↔ a < b := by
  rw [Int32.lt_iff_toInt_lt, Int32.toInt_ofNat_small ha, Int32.toInt_ofNat_small hb]
  omega
theorem own_succ (k : Nat) : Int32.ofNat k + (1 : Int32) = Int32.ofNat (k + 1) := by
  rw [Int32.ofNat_add]; rfl
theorem own_inj {a b : Nat} (ha : a < 2147483648) (hb : b < 2147483648) (h : Int32.ofNat a = Int32.ofNat b) : a = b := by
  have q := congrArg Int32.toInt h
  rw [Int32.toInt_ofNat_small ha, Int32.toInt_ofNat_small hb] at q
  omega
def own_mod (p : Int32) (n : Nat) : Nat := ((p &&& (2147483647 : Int32)).toInt % n).toNat
theorem own_m31 (p : Int32) : 0 ≤ (p &&& (2147483647 : Int32)).toInt := by
  rw [c_mask p (2147483647 : Int32) 31 (by decide) (by decide)]
  exact Int.emod_nonneg _ (by decide)
theorem own_modL (p : Int32) (n : Nat) : own_mod p (n + 1) ≤ n := by
  unfold own_mod
  have h1 := Int.emod_nonneg (p &&& (2147483647 : Int32)).toInt (show ((n + 1 : Nat) : Int) ≠ 0 by omega)
  have h2 := Int.emod_lt_of_pos (p &&& (2147483647 : Int32)).toInt (show (0 : Int) < ((n + 1 : Nat) : Int) by omega)
  omega
theorem own_modE (p N : Int32) (n : Nat) (hN : N.toInt = n) (h : 0 < n) : (p &&& (2147483647 : Int32)) % N = Int32.ofNat (own_mod p n) := by
  apply Int32.toInt_inj.mp
  have h0 := own_m31 p
  have h1 := Int.emod_nonneg (p &&& (2147483647 : Int32)).toInt (show (n : Int) ≠ 0 by omega)
  have h2 := Int.emod_lt_of_pos (p &&& (2147483647 : Int32)).toInt (show (0 : Int) < (n : Int) by omega)
  have r := rng32 N
  rw [Int32.toInt_mod, hN, Int.tmod_eq_emod_of_nonneg h0, Int32.toInt_ofNat_small (by unfold own_mod; omega)]
  unfold own_mod
  omega
def own_t (bs : List Int32) (i : Nat) : Int32 := (bs.getD i 0) &&& (255 : Int32)
def own_A (bs : List Int32) (o : Nat) : Nat → Int32
  | 0 => 0
  | k + 1 => own_A bs o k + own_t bs (o + k)
def own_B (bs : List Int32) (o : Nat) : Nat → Int32
  | 0 => 0
  | k + 1 => own_B bs o k + own_A bs o (k + 1)
def own_u (bs : List Int32) (o l i : Nat) : Int32 := if i < l then own_t bs (o + i) else (0 : Int32)
theorem own_add (a b : Nat) : Int32.ofNat a + Int32.ofNat b = Int32.ofNat (a + b) := by rw [Int32.ofNat_add]
theorem own_shift (bs : List Int32) (o : Nat) : ∀ l, own_A bs (o + 1) l = own_A bs o l + (own_t bs (o + l) - own_t bs o)
  | 0 => by show (0 : Int32) = 0 + (own_t bs o - own_t bs o); grind
  | l + 1 => by
    have h := own_shift bs o l
    have e : own_t bs (o + 1 + l) = own_t bs (o + (l + 1)) := by rw [Nat.add_assoc, Nat.add_comm 1 l]
    show own_A bs (o + 1) l + own_t bs (o + 1 + l) = (own_A bs o l + own_t bs (o + l)) + (own_t bs (o + (l + 1)) - own_t bs o)
    rw [h, e]
    generalize own_A bs o l = a
    generalize own_t bs (o + l) = b
    generalize own_t bs (o + (l + 1)) = c
    generalize own_t bs o = d
    grind
theorem own_shiftB (bs : List Int32) (o : Nat) : ∀ l, own_B bs (o + 1) l = own_B bs o l + (own_A bs (o + 1) l - Int32.ofNat l * own_t bs o)
  | 0 => by show (0 : Int32) = 0 + (0 - (0 : Int32) * own_t bs o); grind
  | l + 1 => by
    have h := own_shiftB bs o l
    have q := own_shift bs o l
    have e : Int32.ofNat (l + 1) = Int32.ofNat l + 1 := (own_succ l).symm
    show own_B bs (o + 1) l + own_A bs (o + 1) (l + 1) = (own_B bs o l + (own_A bs o l + own_t bs (o + l))) + (own_A bs (o + 1) (l + 1) - Int32.ofNat (l + 1) * own_t bs o)
    rw [h, e, q]
    generalize own_A bs (o + 1) (l + 1) = x
    generalize own_B bs o l = y
    generalize own_A bs o l = a
    generalize own_t bs (o + l) = b
    generalize own_t bs o = d
    generalize Int32.ofNat l = n
    grind
theorem own_u_yes {bs : List Int32} {o l i : Nat} (h : i < l) : own_u bs o l i = own_t bs (o + i) := if_pos h
theorem own_u_no {bs : List Int32} {o l i : Nat} (h : ¬ i < l) : own_u bs o l i = (0 : Int32) := if_neg h
abbrev own_WA (bs : List Int32) (o l : Nat) : Int32 := ((((((((own_u bs o l 0) + (own_u bs o l 1)) + (own_u bs o l 2)) + (own_u bs o l 3)) + (own_u bs o l 4)) + (own_u bs o l 5)) + (own_u bs o l 6)) + (own_u bs o l 7))
abbrev own_WB (bs : List Int32) (o l : Nat) : Int32 := (((((((((Int32.ofNat l) * (own_u bs o l 0)) + (((Int32.ofNat l) - (1 : Int32)) * (own_u bs o l 1))) + (((Int32.ofNat l) - (2 : Int32)) * (own_u bs o l 2))) + (((Int32.ofNat l) - (3 : Int32)) * (own_u bs o l 3))) + (((Int32.ofNat l) - (4 : Int32)) * (own_u bs o l 4))) + (((Int32.ofNat l) - (5 : Int32)) * (own_u bs o l 5))) + (((Int32.ofNat l) - (6 : Int32)) * (own_u bs o l 6))) + (((Int32.ofNat l) - (7 : Int32)) * (own_u bs o l 7)))
theorem own_w {bs : List Int32} {o l : Nat} (hl : l ≤ 8) : own_A bs o l = own_WA bs o l ∧ own_B bs o l = own_WB bs o l := by
  have q : l = 0 ∨ l = 1 ∨ l = 2 ∨ l = 3 ∨ l = 4 ∨ l = 5 ∨ l = 6 ∨ l = 7 ∨ l = 8 := by omega
  rcases q with rfl | rfl | rfl | rfl | rfl | rfl | rfl | rfl | rfl
  all_goals
    simp only [own_WA, own_WB, own_u, own_A, own_B]
    generalize own_t bs (o + 0) = t0
    generalize own_t bs (o + 1) = t1
    generalize own_t bs (o + 2) = t2
    generalize own_t bs (o + 3) = t3
    generalize own_t bs (o + 4) = t4
    generalize own_t bs (o + 5) = t5
    generalize own_t bs (o + 6) = t6
    generalize own_t bs (o + 7) = t7
    simp
    try grind
theorem own_modG (m N : Int32) (n : Nat) (hm : 0 ≤ m.toInt) (hN : N.toInt = n) (h : 0 < n) : ∃ v : Nat, m % N = Int32.ofNat v ∧ v < n := by
  have h1 := Int.emod_nonneg m.toInt (show (n : Int) ≠ 0 by omega)
  have h2 := Int.emod_lt_of_pos m.toInt (show (0 : Int) < (n : Int) by omega)
  have r := rng32 N
  refine ⟨(m.toInt % n).toNat, ?_, by omega⟩
  apply Int32.toInt_inj.mp
  rw [Int32.toInt_mod, hN, Int.tmod_eq_emod_of_nonneg hm, Int32.toInt_ofNat_small (by omega)]
  omega
theorem own_m16 (x : Int32) : 0 ≤ (x &&& (65535 : Int32)).toInt := by
  rw [c_mask x (65535 : Int32) 16 (by decide) (by decide)]
  exact Int.emod_nonneg _ (by decide)
theorem own_off (p : Int32) : ∃ v : Nat, ((p &&& (2147483647 : Int32)) % (9 : Int32)) = Int32.ofNat v ∧ v ≤ 8 := by
  obtain ⟨v, h1, h2⟩ := own_modG _ (9 : Int32) 9 (own_m31 p) (by decide) (by decide)
  exact ⟨v, h1, by omega⟩
theorem own_off2 (p : Int32) : ∃ v : Nat, ((p &&& (65535 : Int32)) % (9 : Int32)) = Int32.ofNat v ∧ v ≤ 8 := by
  obtain ⟨v, h1, h2⟩ := own_modG _ (9 : Int32) 9 (own_m16 p) (by decide) (by decide)
  exact ⟨v, h1, by omega⟩
theorem own_nine {o : Nat} (ho : o ≤ 8) : ((9 : Int32) - Int32.ofNat o).toInt = ((9 - o : Nat) : Int) := by
  have a := c_isub (9 : Int32) (Int32.ofNat o)
  have r := rng32 ((9 : Int32) - Int32.ofNat o)
  rw [Int32.toInt_ofNat_small (by omega)] at a
  have n : (9 : Int32).toInt = 9 := by decide
  omega
theorem own_nz {o : Nat} (ho : o ≤ 8) : ((9 : Int32) - Int32.ofNat o) ≠ (0 : Int32) := by
  intro e
  have h := own_nine ho
  rw [e] at h
  have z : (0 : Int32).toInt = 0 := by decide
  omega
theorem own_lenN (p : Int32) (o : Nat) (ho : o ≤ 8) : ∃ v : Nat, ((p &&& (2147483647 : Int32)) % ((9 : Int32) - Int32.ofNat o)) = Int32.ofNat v ∧ o + v ≤ 8 := by
  obtain ⟨v, h1, h2⟩ := own_modG _ _ (9 - o) (own_m31 p) (own_nine ho) (by omega)
  exact ⟨v, h1, by omega⟩
theorem own_len2 (x : Int32) (o : Nat) (ho : o ≤ 8) : ∃ v : Nat, ((x &&& (65535 : Int32)) % ((9 : Int32) - Int32.ofNat o)) = Int32.ofNat v ∧ o + v ≤ 8 := by
  obtain ⟨v, h1, h2⟩ := own_modG _ _ (9 - o) (own_m16 x) (own_nine ho) (by omega)
  exact ⟨v, h1, by omega⟩
theorem own_l8 {o l : Nat} (h : o + l ≤ 8) : l ≤ 8 := by omega
theorem own_in8 {o l : Nat} (h : o + l ≤ 8) (h2 : ¬ ((8 : Int32) ≤ (Int32.ofNat o) + (Int32.ofNat l))) : o + l < 8 := by
  rw [own_add] at h2
  have e : (8 : Int32) = Int32.ofNat 8 := by rfl
  rw [e, own_le (by omega) (by omega)] at h2
  omega
theorem own_up8 {o l : Nat} (h : o + l ≤ 8) (h2 : ¬ ((8 : Int32) ≤ (Int32.ofNat o) + (Int32.ofNat l))) : o + 1 + l ≤ 8 := by
  have := own_in8 h h2
  omega
theorem own_ulq {p2 p3 : Int32} {l0 i : Nat} (e2 : p2 = Int32.ofNat l0) (e3 : p3 = Int32.ofNat i) (hl : l0 ≤ 8) (hi : i < 8) : p2 ≤ p3 ↔ l0 ≤ i := by
  rw [e2, e3, own_le (by omega) (by omega)]
theorem own_ul {p2 p3 : Int32} {bs : List Int32} {o l0 i : Nat} (e2 : p2 = Int32.ofNat l0) (e3 : p3 = Int32.ofNat i) (hl : o + l0 ≤ bs.length) (hb : bs.length ≤ 8) (hi : i < 8) (h : ¬ (p2 ≤ p3)) : o + i < bs.length := by
  rw [own_ulq e2 e3 (by omega) hi] at h
  omega
theorem own_ua {p2 p3 : Int32} {bs : List Int32} {o l0 i : Nat} (e2 : p2 = Int32.ofNat l0) (e3 : p3 = Int32.ofNat i) (hl : o + l0 ≤ bs.length) (hb : bs.length ≤ 8) (hi : i < 8) (h : ¬ (p2 ≤ p3)) : ((bs.getD (o + i) 0) &&& (255 : Int32)) = own_u bs o l0 i := by
  rw [own_ulq e2 e3 (by omega) hi] at h
  rw [own_u_yes (by omega)]
  rfl
theorem own_ub {p2 p3 : Int32} {bs : List Int32} {o l0 i : Nat} (e2 : p2 = Int32.ofNat l0) (e3 : p3 = Int32.ofNat i) (hl : o + l0 ≤ bs.length) (hb : bs.length ≤ 8) (hi : i < 8) (h : p2 ≤ p3) : (0 : Int32) = own_u bs o l0 i := by
  rw [own_ulq e2 e3 (by omega) hi] at h
  rw [own_u_no (by omega)]
theorem own_x (x : Int32) : ((((x.toUInt32 >>> ((26 : Int32) &&& 31).toUInt32).toInt32).toUInt32 >>> ((6 : Int32) &&& 31).toUInt32).toInt32) = (0 : Int32) := by
  apply Int32.toInt_inj.mp
  have a := c_iushr x (26 : Int32) 26 (by decide) (by decide)
  have b := c_iushr ((x.toUInt32 >>> ((26 : Int32) &&& 31).toUInt32).toInt32) (6 : Int32) 6 (by decide) (by decide)
  have z : (0 : Int32).toInt = 0 := by decide
  rw [b, a, z]
  omega
theorem own_x0 (x : Int32) : ¬ (((((x.toUInt32 >>> ((26 : Int32) &&& 31).toUInt32).toInt32).toUInt32 >>> ((6 : Int32) &&& 31).toUInt32).toInt32) < (0 : Int32)) := by
  rw [own_x]; decide
theorem own_x1 (x : Int32) : ((((x.toUInt32 >>> ((26 : Int32) &&& 31).toUInt32).toInt32).toUInt32 >>> ((6 : Int32) &&& 31).toUInt32).toInt32).toNatClampNeg = 0 := by
  rw [own_x]; decide
theorem own_eq1 (bs : List Int32) (o l : Nat) (hl : l ≤ 8) : (((own_B bs o l) <<< ((16 : Int32) &&& 31)) ||| ((own_A bs o l) &&& (65535 : Int32))) = ((own_WB bs o l) <<< ((16 : Int32) &&& 31)) ||| ((own_WA bs o l) &&& (65535 : Int32)) := by
  rw [(own_w hl).1, (own_w hl).2]
theorem own_eq2 (bs : List Int32) (o l : Nat) (hl : l ≤ 8) : (((own_B bs o l + ((own_A bs o l + (((bs.getD (o + l) 0) &&& (255 : Int32)) - ((bs.getD o 0) &&& (255 : Int32)))) - (Int32.ofNat l * ((bs.getD o 0) &&& (255 : Int32))))) <<< ((16 : Int32) &&& 31)) ||| ((own_A bs o l + (((bs.getD (o + l) 0) &&& (255 : Int32)) - ((bs.getD o 0) &&& (255 : Int32)))) &&& (65535 : Int32))) = ((own_WB bs (o + 1) l) <<< ((16 : Int32) &&& 31)) ||| ((own_WA bs (o + 1) l) &&& (65535 : Int32)) := by
  have h1 : own_A bs o l + (((bs.getD (o + l) 0) &&& (255 : Int32)) - ((bs.getD o 0) &&& (255 : Int32))) = own_A bs (o + 1) l := (own_shift bs o l).symm
  rw [h1]
  have h2 : own_B bs o l + (own_A bs (o + 1) l - (Int32.ofNat l * ((bs.getD o 0) &&& (255 : Int32)))) = own_B bs (o + 1) l := (own_shiftB bs o l).symm
  rw [h2, (own_w hl).1, (own_w hl).2]

theorem d3_0 : decode jdk_29_method_69_code 0 = .ok (.iload_n 0, 1) := by decide +kernel
theorem d3_1 : decode jdk_29_method_69_code 1 = .ok (.iload_n 1, 1) := by decide +kernel
theorem d3_2 : decode jdk_29_method_69_code 2 = .ok (.if_icmp .gt 7, 3) := by decide +kernel
theorem d3_5 : decode jdk_29_method_69_code 5 = .ok (.iload_n 0, 1) := by decide +kernel
theorem d3_6 : decode jdk_29_method_69_code 6 = .ok (.goto 4, 3) := by decide +kernel
theorem d3_9 : decode jdk_29_method_69_code 9 = .ok (.iload_n 1, 1) := by decide +kernel
theorem d3_10 : decode jdk_29_method_69_code 10 = .ok (.ireturn, 1) := by decide +kernel
set_option maxRecDepth 65536 in
set_option maxHeartbeats 40000000 in
theorem rm3 (l : Launch) (Z : State) (a0 : Array Value) (n0 : Nat) (hw : ∀ d ∈ tables_1, d.before a0 Z = true) (ws : List Jvm.Cond) (q1 : Int32) (q2 : Int32) (Ob : List OObj) (Ax : List OArr) : Con l Z a0 n0 ws (⟨"java/lang/Math", "min", "(II)I"⟩ : MethodName) jdk_29_method_69_code 2 (some .int) ({ frames := 0, cells := 0, slots := 0, locals := 0 } : Room) #[(.int q1), (.int q2)] (Ob, Ax) (fun vq Dq => ∃ (j3 : Int32), ((((q2 < q1) ∧ j3 = q2) ∨ ((¬ (q2 < q1)) ∧ j3 = q1))) ∧ vq = (some (.int j3)) ∧ Dq = (Ob, Ax)) := by
  refine Con.of_run (Jvm.Free.JP.mathPlain rfl (by decide +kernel)) (L0 := #[.val (.int q1), .val (.int q2)]) (fun m => by first | (simp [entryFrame, mkF, argsToLocals, Value.category]; done) | rfl) ?_
  intro p e s m below meth c K
  refine Run.iloadN K d3_0 (pc' := 1) rfl rfl ?_
  refine Run.iloadN K d3_1 (pc' := 2) rfl rfl ?_
  refine Run.join1 (F := fun (j7 : Int32) => ((q2 < q1) ∧ j7 = q2) ∨ ((¬ (q2 < q1)) ∧ j7 = q1)) (D' := fun (j7 : Int32) => (Ob, Ax)) (cells' := 0) (slots' := 0) (pc' := 10) (L' := fun (j7 : Int32) => #[.val (.int q1), .val (.int q2)]) (S' := fun (j7 : Int32) => [(.int j7)]) ?_ (fun J2 => ?_)
  · intro j7 hjj7
    exact Run.retI K d3_10 rfl (by decide) (by decide) ⟨j7, hjj7, rfl, rfl⟩
  · skip
    refine Run.icmp K d3_2 (pT := 9) (pF := 5) (by decide) (by decide) rfl (fun (h2_7 : q2 < q1) => ?_) (fun (h2_7 : ¬ (q2 < q1)) => ?_)
    · skip
      refine Run.iloadN K d3_9 (pc' := 10) rfl rfl ?_
      exact J2 _ (Or.inl ⟨h2_7, rfl⟩)
    · skip
      refine Run.iloadN K d3_5 (pc' := 6) rfl rfl ?_
      refine Run.goto K d3_6 (pc' := 10) (by decide) (by decide) ?_
      exact J2 _ (Or.inr (⟨h2_7, rfl⟩))
theorem d5_0 : decode jdk_29_method_65_code 0 = .ok (.iload_n 0, 1) := by decide +kernel
theorem d5_1 : decode jdk_29_method_65_code 1 = .ok (.iload_n 1, 1) := by decide +kernel
theorem d5_2 : decode jdk_29_method_65_code 2 = .ok (.if_icmp .lt 7, 3) := by decide +kernel
theorem d5_5 : decode jdk_29_method_65_code 5 = .ok (.iload_n 0, 1) := by decide +kernel
theorem d5_6 : decode jdk_29_method_65_code 6 = .ok (.goto 4, 3) := by decide +kernel
theorem d5_9 : decode jdk_29_method_65_code 9 = .ok (.iload_n 1, 1) := by decide +kernel
theorem d5_10 : decode jdk_29_method_65_code 10 = .ok (.ireturn, 1) := by decide +kernel
set_option maxRecDepth 65536 in
set_option maxHeartbeats 40000000 in
theorem rm5 (l : Launch) (Z : State) (a0 : Array Value) (n0 : Nat) (hw : ∀ d ∈ tables_1, d.before a0 Z = true) (ws : List Jvm.Cond) (q1 : Int32) (q2 : Int32) (Ob : List OObj) (Ax : List OArr) : Con l Z a0 n0 ws (⟨"java/lang/Math", "max", "(II)I"⟩ : MethodName) jdk_29_method_65_code 2 (some .int) ({ frames := 0, cells := 0, slots := 0, locals := 0 } : Room) #[(.int q1), (.int q2)] (Ob, Ax) (fun vq Dq => ∃ (j11 : Int32), ((((q1 < q2) ∧ j11 = q2) ∨ ((¬ (q1 < q2)) ∧ j11 = q1))) ∧ vq = (some (.int j11)) ∧ Dq = (Ob, Ax)) := by
  refine Con.of_run (Jvm.Free.JP.mathPlain rfl (by decide +kernel)) (L0 := #[.val (.int q1), .val (.int q2)]) (fun m => by first | (simp [entryFrame, mkF, argsToLocals, Value.category]; done) | rfl) ?_
  intro p e s m below meth c K
  refine Run.iloadN K d5_0 (pc' := 1) rfl rfl ?_
  refine Run.iloadN K d5_1 (pc' := 2) rfl rfl ?_
  refine Run.join1 (F := fun (j15 : Int32) => ((q1 < q2) ∧ j15 = q2) ∨ ((¬ (q1 < q2)) ∧ j15 = q1)) (D' := fun (j15 : Int32) => (Ob, Ax)) (cells' := 0) (slots' := 0) (pc' := 10) (L' := fun (j15 : Int32) => #[.val (.int q1), .val (.int q2)]) (S' := fun (j15 : Int32) => [(.int j15)]) ?_ (fun J2 => ?_)
  · intro j15 hjj15
    exact Run.retI K d5_10 rfl (by decide) (by decide) ⟨j15, hjj15, rfl, rfl⟩
  · skip
    refine Run.icmp K d5_2 (pT := 9) (pF := 5) (by decide) (by decide) rfl (fun (h2_15 : q1 < q2) => ?_) (fun (h2_15 : ¬ (q1 < q2)) => ?_)
    · skip
      refine Run.iloadN K d5_9 (pc' := 10) rfl rfl ?_
      exact J2 _ (Or.inl ⟨h2_15, rfl⟩)
    · skip
      refine Run.iloadN K d5_5 (pc' := 6) rfl rfl ?_
      refine Run.goto K d5_6 (pc' := 10) (by decide) (by decide) ?_
      exact J2 _ (Or.inr (⟨h2_15, rfl⟩))
theorem d1_0 : decode prog_188_method_1_code 0 = .ok (.aload_n 0, 1) := by decide +kernel
theorem d1_1 : decode prog_188_method_1_code 1 = .ok (.invokespecial 1, 3) := by decide +kernel
theorem d1_4 : decode prog_188_method_1_code 4 = .ok (.iload_n 1, 1) := by decide +kernel
theorem d1_5 : decode prog_188_method_1_code 5 = .ok (.iconst 1, 1) := by decide +kernel
theorem d1_6 : decode prog_188_method_1_code 6 = .ok (.if_icmp .lt 9, 3) := by decide +kernel
theorem d1_9 : decode prog_188_method_1_code 9 = .ok (.iload_n 1, 1) := by decide +kernel
theorem d1_10 : decode prog_188_method_1_code 10 = .ok (.ldc 9, 2) := by decide +kernel
theorem d1_12 : decode prog_188_method_1_code 12 = .ok (.if_icmp .le 20, 3) := by decide +kernel
theorem d1_15 : decode prog_188_method_1_code 15 = .ok (.new 10, 3) := by decide +kernel
theorem d1_18 : decode prog_188_method_1_code 18 = .ok (.dup, 1) := by decide +kernel
theorem d1_19 : decode prog_188_method_1_code 19 = .ok (.iload_n 1, 1) := by decide +kernel
theorem d1_20 : decode prog_188_method_1_code 20 = .ok (.invokestatic 12, 3) := by decide +kernel
theorem d1_23 : decode prog_188_method_1_code 23 = .ok (.invokedynamic 18, 5) := by decide +kernel
theorem d1_28 : decode prog_188_method_1_code 28 = .ok (.invokespecial 22, 3) := by decide +kernel
theorem d1_31 : decode prog_188_method_1_code 31 = .ok (.athrow, 1) := by decide +kernel
theorem d1_32 : decode prog_188_method_1_code 32 = .ok (.lload_n 2, 1) := by decide +kernel
theorem d1_33 : decode prog_188_method_1_code 33 = .ok (.lconst 0, 1) := by decide +kernel
theorem d1_34 : decode prog_188_method_1_code 34 = .ok (.lcmp, 1) := by decide +kernel
theorem d1_35 : decode prog_188_method_1_code 35 = .ok (.ifCond .ge 9, 3) := by decide +kernel
theorem d1_38 : decode prog_188_method_1_code 38 = .ok (.ldc2_w 25, 3) := by decide +kernel
theorem d1_41 : decode prog_188_method_1_code 41 = .ok (.goto 12, 3) := by decide +kernel
theorem d1_44 : decode prog_188_method_1_code 44 = .ok (.lload_n 2, 1) := by decide +kernel
theorem d1_45 : decode prog_188_method_1_code 45 = .ok (.iload_n 1, 1) := by decide +kernel
theorem d1_46 : decode prog_188_method_1_code 46 = .ok (.i2l, 1) := by decide +kernel
theorem d1_47 : decode prog_188_method_1_code 47 = .ok (.ladd, 1) := by decide +kernel
theorem d1_48 : decode prog_188_method_1_code 48 = .ok (.lconst 1, 1) := by decide +kernel
theorem d1_49 : decode prog_188_method_1_code 49 = .ok (.lsub, 1) := by decide +kernel
theorem d1_50 : decode prog_188_method_1_code 50 = .ok (.iload_n 1, 1) := by decide +kernel
theorem d1_51 : decode prog_188_method_1_code 51 = .ok (.i2l, 1) := by decide +kernel
theorem d1_52 : decode prog_188_method_1_code 52 = .ok (.ldiv, 1) := by decide +kernel
theorem d1_53 : decode prog_188_method_1_code 53 = .ok (.lstore 4, 2) := by decide +kernel
theorem d1_55 : decode prog_188_method_1_code 55 = .ok (.lload 4, 2) := by decide +kernel
theorem d1_57 : decode prog_188_method_1_code 57 = .ok (.lconst 0, 1) := by decide +kernel
theorem d1_58 : decode prog_188_method_1_code 58 = .ok (.lcmp, 1) := by decide +kernel
theorem d1_59 : decode prog_188_method_1_code 59 = .ok (.ifCond .lt 12, 3) := by decide +kernel
theorem d1_62 : decode prog_188_method_1_code 62 = .ok (.lload 4, 2) := by decide +kernel
theorem d1_64 : decode prog_188_method_1_code 64 = .ok (.ldc2_w 27, 3) := by decide +kernel
theorem d1_67 : decode prog_188_method_1_code 67 = .ok (.lcmp, 1) := by decide +kernel
theorem d1_68 : decode prog_188_method_1_code 68 = .ok (.ifCond .le 21, 3) := by decide +kernel
theorem d1_71 : decode prog_188_method_1_code 71 = .ok (.new 10, 3) := by decide +kernel
theorem d1_74 : decode prog_188_method_1_code 74 = .ok (.dup, 1) := by decide +kernel
theorem d1_75 : decode prog_188_method_1_code 75 = .ok (.lload_n 2, 1) := by decide +kernel
theorem d1_76 : decode prog_188_method_1_code 76 = .ok (.invokestatic 29, 3) := by decide +kernel
theorem d1_79 : decode prog_188_method_1_code 79 = .ok (.iload_n 1, 1) := by decide +kernel
theorem d1_80 : decode prog_188_method_1_code 80 = .ok (.invokedynamic 34, 5) := by decide +kernel
theorem d1_85 : decode prog_188_method_1_code 85 = .ok (.invokespecial 22, 3) := by decide +kernel
theorem d1_88 : decode prog_188_method_1_code 88 = .ok (.athrow, 1) := by decide +kernel
theorem d1_89 : decode prog_188_method_1_code 89 = .ok (.aload_n 0, 1) := by decide +kernel
theorem d1_90 : decode prog_188_method_1_code 90 = .ok (.iload_n 1, 1) := by decide +kernel
theorem d1_91 : decode prog_188_method_1_code 91 = .ok (.putfield 37, 3) := by decide +kernel
theorem d1_94 : decode prog_188_method_1_code 94 = .ok (.aload_n 0, 1) := by decide +kernel
theorem d1_95 : decode prog_188_method_1_code 95 = .ok (.lload_n 2, 1) := by decide +kernel
theorem d1_96 : decode prog_188_method_1_code 96 = .ok (.putfield 43, 3) := by decide +kernel
theorem d1_99 : decode prog_188_method_1_code 99 = .ok (.aload_n 0, 1) := by decide +kernel
theorem d1_100 : decode prog_188_method_1_code 100 = .ok (.lload 4, 2) := by decide +kernel
theorem d1_102 : decode prog_188_method_1_code 102 = .ok (.l2i, 1) := by decide +kernel
theorem d1_103 : decode prog_188_method_1_code 103 = .ok (.putfield 47, 3) := by decide +kernel
theorem d1_106 : decode prog_188_method_1_code 106 = .ok (.aload_n 0, 1) := by decide +kernel
theorem d1_107 : decode prog_188_method_1_code 107 = .ok (.aload_n 0, 1) := by decide +kernel
theorem d1_108 : decode prog_188_method_1_code 108 = .ok (.getfield 47, 3) := by decide +kernel
theorem d1_111 : decode prog_188_method_1_code 111 = .ok (.bipush 64, 2) := by decide +kernel
theorem d1_113 : decode prog_188_method_1_code 113 = .ok (.invokestatic 50, 3) := by decide +kernel
theorem d1_116 : decode prog_188_method_1_code 116 = .ok (.newarray .int, 2) := by decide +kernel
theorem d1_118 : decode prog_188_method_1_code 118 = .ok (.putfield 56, 3) := by decide +kernel
theorem d1_121 : decode prog_188_method_1_code 121 = .ok (.aload_n 0, 1) := by decide +kernel
theorem d1_122 : decode prog_188_method_1_code 122 = .ok (.aload_n 0, 1) := by decide +kernel
theorem d1_123 : decode prog_188_method_1_code 123 = .ok (.getfield 56, 3) := by decide +kernel
theorem d1_126 : decode prog_188_method_1_code 126 = .ok (.arraylength, 1) := by decide +kernel
theorem d1_127 : decode prog_188_method_1_code 127 = .ok (.bipush 16, 2) := by decide +kernel
theorem d1_129 : decode prog_188_method_1_code 129 = .ok (.imul, 1) := by decide +kernel
theorem d1_130 : decode prog_188_method_1_code 130 = .ok (.newarray .byte, 2) := by decide +kernel
theorem d1_132 : decode prog_188_method_1_code 132 = .ok (.putfield 60, 3) := by decide +kernel
theorem d1_135 : decode prog_188_method_1_code 135 = .ok (.return_, 1) := by decide +kernel
theorem pd_0 : parseMethodDescriptor "(II)I" = some ⟨[.int, .int], some .int⟩ := by decide +kernel
theorem pn_0 : plainName "com/example/ferrywire/ferrywire/protocol/Signature" = true := by first | (simp [plainName, overriddenIn]; done) | decide +kernel
set_option maxRecDepth 65536 in
set_option maxHeartbeats 40000000 in
theorem rm1 (l : Launch) (Z : State) (a0 : Array Value) (n0 : Nat) (hw : ∀ d ∈ tables_1, d.before a0 Z = true) (ws : List Jvm.Cond) (a1 : Addr) (p1 : Int32) (p2 : Int64) (a1_blockLength : Int32) (a1_size : Int64) (a1_blockCount : Int32) (a1_weak : Value) (a1_strong : Value) (Ob : List OObj) (Ax : List OArr) (e1 : p1 = (1 : Int32)) (e2 : p2 = (0 : Int64)) : Con l Z a0 n0 ws (⟨"com/example/ferrywire/ferrywire/protocol/Signature", "<init>", "(IJ)V"⟩ : MethodName) prog_188_method_1_code 6 none ({ frames := 1, cells := 2, slots := 0, locals := 14 } : Room) #[(.ref a1), (.int p1), (.long p2)] ((a1, "com/example/ferrywire/ferrywire/protocol/Signature", [("com/example/ferrywire/ferrywire/protocol/Signature", "blockLength", "I", (.int a1_blockLength)), ("com/example/ferrywire/ferrywire/protocol/Signature", "size", "J", (.long a1_size)), ("com/example/ferrywire/ferrywire/protocol/Signature", "blockCount", "I", (.int a1_blockCount)), ("com/example/ferrywire/ferrywire/protocol/Signature", "weak", "[I", a1_weak), ("com/example/ferrywire/ferrywire/protocol/Signature", "strong", "[B", a1_strong)]) :: Ob, Ax) (fun vq Dq => ∃ (r19 : Addr), ∃ (r20 : Addr), vq = none ∧ Dq = ((a1, "com/example/ferrywire/ferrywire/protocol/Signature", [("com/example/ferrywire/ferrywire/protocol/Signature", "blockLength", "I", (.int (1 : Int32))), ("com/example/ferrywire/ferrywire/protocol/Signature", "size", "J", (.long (0 : Int64))), ("com/example/ferrywire/ferrywire/protocol/Signature", "blockCount", "I", (.int (0 : Int32))), ("com/example/ferrywire/ferrywire/protocol/Signature", "weak", "[I", (.ref r19)), ("com/example/ferrywire/ferrywire/protocol/Signature", "strong", "[B", (.ref r20))]) :: Ob, (r20, .byte, []) :: (r19, .int, []) :: Ax)) := by
  refine Con.of_run (plainFor_of_name pn_0) (L0 := #[.val (.ref a1), .val (.int p1), .val (.long p2), .second, .unset, .unset]) (fun m => by first | (simp [entryFrame, mkF, argsToLocals, Value.category]; done) | rfl) ?_
  intro p e s m below meth c K
  subst e1 e2
  refine Run.aloadN K d1_0 (pc' := 1) rfl rfl rfl ?_
  refine Run.initO K d1_1 (pc' := 4) rfl (hw _ (List.mem_of_getElem? (i := 9) rfl)) (hw _ (List.mem_of_getElem? (i := 10) rfl)) (hw _ (List.mem_of_getElem? (i := 11) rfl)) rfl (by decide) (W := 0) rfl (by decide) ?_
  refine Run.iloadN K d1_4 (pc' := 5) rfl rfl ?_
  refine Run.iconst K d1_5 (pc' := 6) rfl (v := (1 : Int32)) rfl ?_
  refine Run.icmpF K d1_6 (pT := 15) (pF := 9) (by decide) (by decide) rfl (show ¬ ((1 : Int32) < (1 : Int32)) from by decide) ?_
  refine Run.iloadN K d1_9 (pc' := 10) rfl rfl ?_
  refine Run.ldcI K d1_10 (pc' := 12) rfl (v := (1048576 : Int32)) (hw _ (List.mem_of_getElem? (i := 12) rfl)) ?_
  refine Run.icmpT K d1_12 (pT := 32) (pF := 15) (by decide) (by decide) rfl (show (1 : Int32) ≤ (1048576 : Int32) from by decide) ?_
  refine Run.lloadN K d1_32 (pc' := 33) rfl rfl ?_
  refine Run.lconst K d1_33 (pc' := 34) rfl (v := (0 : Int64)) rfl ?_
  refine Run.lcmp K d1_34 (pc' := 35) rfl ?_
  refine Run.ifLT K d1_35 (pT := 44) (pF := 38) (by decide) (by decide) rfl (show (0 : Int64) ≤ (0 : Int64) from by decide) ?_
  refine Run.lloadN K d1_44 (pc' := 45) rfl rfl ?_
  refine Run.iloadN K d1_45 (pc' := 46) rfl rfl ?_
  refine Run.i2lV K d1_46 (pc' := 47) rfl (v := (1 : Int64)) (by decide) ?_
  refine Run.laddV K d1_47 (pc' := 48) rfl (v := (1 : Int64)) (by decide) ?_
  refine Run.lconst K d1_48 (pc' := 49) rfl (v := (1 : Int64)) rfl ?_
  refine Run.lsubV K d1_49 (pc' := 50) rfl (v := (0 : Int64)) (by decide) ?_
  refine Run.iloadN K d1_50 (pc' := 51) rfl rfl ?_
  refine Run.i2lV K d1_51 (pc' := 52) rfl (v := (1 : Int64)) (by decide) ?_
  refine Run.ldivV K d1_52 (pc' := 53) rfl (by decide) (v := (0 : Int64)) (by decide) ?_
  refine Run.lstore K d1_53 (pc' := 55) rfl (L' := #[.val (.ref a1), .val (.int (1 : Int32)), .val (.long (0 : Int64)), .second, .val (.long (0 : Int64)), .second]) rfl ?_
  refine Run.lload K d1_55 (pc' := 57) rfl rfl ?_
  refine Run.lconst K d1_57 (pc' := 58) rfl (v := (0 : Int64)) rfl ?_
  refine Run.lcmp K d1_58 (pc' := 59) rfl ?_
  refine Run.ifLF K d1_59 (pT := 71) (pF := 62) (by decide) (by decide) rfl (show ¬ ((0 : Int64) < (0 : Int64)) from by decide) ?_
  refine Run.lload K d1_62 (pc' := 64) rfl rfl ?_
  refine Run.ldcJ K d1_64 (pc' := 67) rfl (v := (4194304 : Int64)) (hw _ (List.mem_of_getElem? (i := 13) rfl)) ?_
  refine Run.lcmp K d1_67 (pc' := 68) rfl ?_
  refine Run.ifLT K d1_68 (pT := 89) (pF := 71) (by decide) (by decide) rfl (show (0 : Int64) ≤ (4194304 : Int64) from by decide) ?_
  refine Run.aloadN K d1_89 (pc' := 90) rfl rfl rfl ?_
  refine Run.iloadN K d1_90 (pc' := 91) rfl rfl ?_
  refine Run.putF K d1_91 (pc' := 94) rfl (hw _ (List.mem_of_getElem? (i := 14) rfl)) (Or.inr ⟨(hw _ (List.mem_of_getElem? (i := 15) rfl)), rfl, rfl⟩) (hw _ (List.mem_of_getElem? (i := 4) rfl)) (ty := .int) (by decide) rfl rfl (i := 0) (j := 0) rfl rfl (D' := ((a1, "com/example/ferrywire/ferrywire/protocol/Signature", [("com/example/ferrywire/ferrywire/protocol/Signature", "blockLength", "I", (.int (1 : Int32))), ("com/example/ferrywire/ferrywire/protocol/Signature", "size", "J", (.long a1_size)), ("com/example/ferrywire/ferrywire/protocol/Signature", "blockCount", "I", (.int a1_blockCount)), ("com/example/ferrywire/ferrywire/protocol/Signature", "weak", "[I", a1_weak), ("com/example/ferrywire/ferrywire/protocol/Signature", "strong", "[B", a1_strong)]) :: Ob, Ax)) rfl ?_
  refine Run.aloadN K d1_94 (pc' := 95) rfl rfl rfl ?_
  refine Run.lloadN K d1_95 (pc' := 96) rfl rfl ?_
  refine Run.putF K d1_96 (pc' := 99) rfl (hw _ (List.mem_of_getElem? (i := 16) rfl)) (Or.inr ⟨(hw _ (List.mem_of_getElem? (i := 17) rfl)), rfl, rfl⟩) (hw _ (List.mem_of_getElem? (i := 4) rfl)) (ty := .long) (by decide) rfl rfl (i := 0) (j := 1) rfl rfl (D' := ((a1, "com/example/ferrywire/ferrywire/protocol/Signature", [("com/example/ferrywire/ferrywire/protocol/Signature", "blockLength", "I", (.int (1 : Int32))), ("com/example/ferrywire/ferrywire/protocol/Signature", "size", "J", (.long (0 : Int64))), ("com/example/ferrywire/ferrywire/protocol/Signature", "blockCount", "I", (.int a1_blockCount)), ("com/example/ferrywire/ferrywire/protocol/Signature", "weak", "[I", a1_weak), ("com/example/ferrywire/ferrywire/protocol/Signature", "strong", "[B", a1_strong)]) :: Ob, Ax)) rfl ?_
  refine Run.aloadN K d1_99 (pc' := 100) rfl rfl rfl ?_
  refine Run.lload K d1_100 (pc' := 102) rfl rfl ?_
  refine Run.l2iV K d1_102 (pc' := 103) rfl (v := (0 : Int32)) (by decide) ?_
  refine Run.putF K d1_103 (pc' := 106) rfl (hw _ (List.mem_of_getElem? (i := 18) rfl)) (Or.inr ⟨(hw _ (List.mem_of_getElem? (i := 19) rfl)), rfl, rfl⟩) (hw _ (List.mem_of_getElem? (i := 4) rfl)) (ty := .int) (by decide) rfl rfl (i := 0) (j := 2) rfl rfl (D' := ((a1, "com/example/ferrywire/ferrywire/protocol/Signature", [("com/example/ferrywire/ferrywire/protocol/Signature", "blockLength", "I", (.int (1 : Int32))), ("com/example/ferrywire/ferrywire/protocol/Signature", "size", "J", (.long (0 : Int64))), ("com/example/ferrywire/ferrywire/protocol/Signature", "blockCount", "I", (.int (0 : Int32))), ("com/example/ferrywire/ferrywire/protocol/Signature", "weak", "[I", a1_weak), ("com/example/ferrywire/ferrywire/protocol/Signature", "strong", "[B", a1_strong)]) :: Ob, Ax)) rfl ?_
  refine Run.aloadN K d1_106 (pc' := 107) rfl rfl rfl ?_
  refine Run.aloadN K d1_107 (pc' := 108) rfl rfl rfl ?_
  refine Run.getF K d1_108 (pc' := 111) rfl (hw _ (List.mem_of_getElem? (i := 18) rfl)) (i := 0) (j := 2) rfl rfl ?_
  refine Run.bipush K d1_111 (pc' := 113) rfl (v := (64 : Int32)) rfl ?_
  refine Run.callS K d1_113 (pc' := 116) rfl (hw _ (List.mem_of_getElem? (i := 20) rfl)) (hw _ (List.mem_of_getElem? (i := 21) rfl)) (hw _ (List.mem_of_getElem? (i := 22) rfl)) (hw _ (List.mem_of_getElem? (i := 23) rfl)) (by decide) (rm3 l Z a0 n0 hw [] ((0 : Int32)) ((64 : Int32)) ((a1, "com/example/ferrywire/ferrywire/protocol/Signature", [("com/example/ferrywire/ferrywire/protocol/Signature", "blockLength", "I", (.int (1 : Int32))), ("com/example/ferrywire/ferrywire/protocol/Signature", "size", "J", (.long (0 : Int64))), ("com/example/ferrywire/ferrywire/protocol/Signature", "blockCount", "I", (.int (0 : Int32))), ("com/example/ferrywire/ferrywire/protocol/Signature", "weak", "[I", a1_weak), ("com/example/ferrywire/ferrywire/protocol/Signature", "strong", "[B", a1_strong)]) :: Ob) (Ax) ) (argsL := [(.int (0 : Int32)), (.int (64 : Int32))]) (rest := [(.ref a1)]) rfl rfl pd_0 rfl (W := 1) rfl (by decide) (by decide) (cells' := 0) (slots' := 0) rfl rfl (by decide) (by decide) ?_
  intro vq Dq hq
  obtain ⟨c21, hc22, rfl, rfl⟩ := hq
  refine Run.as2 (D' := ((a1, "com/example/ferrywire/ferrywire/protocol/Signature", [("com/example/ferrywire/ferrywire/protocol/Signature", "blockLength", "I", (.int (1 : Int32))), ("com/example/ferrywire/ferrywire/protocol/Signature", "size", "J", (.long (0 : Int64))), ("com/example/ferrywire/ferrywire/protocol/Signature", "blockCount", "I", (.int (0 : Int32))), ("com/example/ferrywire/ferrywire/protocol/Signature", "weak", "[I", a1_weak), ("com/example/ferrywire/ferrywire/protocol/Signature", "strong", "[B", a1_strong)]) :: Ob, Ax)) (S' := [(.int c21), (.ref a1)]) rfl rfl ?_
  obtain rfl : c21 = (0 : Int32) := by rcases hc22 with ⟨q0, q⟩ | ⟨q0, q⟩ <;> first | exact q | exact absurd q0 (by decide)
  refine Run.newA K d1_116 (pc' := 118) rfl (ty := .int) rfl (hw _ (List.mem_of_getElem? (i := 24) rfl)) (by decide) (vs := []) (rfl) (cap := 0) (by decide) (by decide) (cells' := 1) (slots' := 0) rfl rfl (by decide) (by decide) rfl (fun r23 => ?_)
  refine Run.as (D' := ((a1, "com/example/ferrywire/ferrywire/protocol/Signature", [("com/example/ferrywire/ferrywire/protocol/Signature", "blockLength", "I", (.int (1 : Int32))), ("com/example/ferrywire/ferrywire/protocol/Signature", "size", "J", (.long (0 : Int64))), ("com/example/ferrywire/ferrywire/protocol/Signature", "blockCount", "I", (.int (0 : Int32))), ("com/example/ferrywire/ferrywire/protocol/Signature", "weak", "[I", a1_weak), ("com/example/ferrywire/ferrywire/protocol/Signature", "strong", "[B", a1_strong)]) :: Ob, (r23, .int, []) :: Ax)) rfl ?_
  refine Run.putF K d1_118 (pc' := 121) rfl (hw _ (List.mem_of_getElem? (i := 25) rfl)) (Or.inl (hw _ (List.mem_of_getElem? (i := 26) rfl))) (hw _ (List.mem_of_getElem? (i := 4) rfl)) (ty := (.array .int)) (by decide) rfl rfl (i := 0) (j := 3) rfl rfl (D' := ((a1, "com/example/ferrywire/ferrywire/protocol/Signature", [("com/example/ferrywire/ferrywire/protocol/Signature", "blockLength", "I", (.int (1 : Int32))), ("com/example/ferrywire/ferrywire/protocol/Signature", "size", "J", (.long (0 : Int64))), ("com/example/ferrywire/ferrywire/protocol/Signature", "blockCount", "I", (.int (0 : Int32))), ("com/example/ferrywire/ferrywire/protocol/Signature", "weak", "[I", (.ref r23)), ("com/example/ferrywire/ferrywire/protocol/Signature", "strong", "[B", a1_strong)]) :: Ob, (r23, .int, []) :: Ax)) rfl ?_
  refine Run.aloadN K d1_121 (pc' := 122) rfl rfl rfl ?_
  refine Run.aloadN K d1_122 (pc' := 123) rfl rfl rfl ?_
  refine Run.getF K d1_123 (pc' := 126) rfl (hw _ (List.mem_of_getElem? (i := 25) rfl)) (i := 0) (j := 3) rfl rfl ?_
  refine Run.alen K d1_126 (pc' := 127) rfl (i := 0) rfl (w := (0 : Int32)) (rfl) ?_
  refine Run.bipush K d1_127 (pc' := 129) rfl (v := (16 : Int32)) rfl ?_
  refine Run.imulV K d1_129 (pc' := 130) rfl (v := (0 : Int32)) (by decide) ?_
  refine Run.newA K d1_130 (pc' := 132) rfl (ty := .byte) rfl (hw _ (List.mem_of_getElem? (i := 0) rfl)) (by decide) (vs := []) (rfl) (cap := 0) (by decide) (by decide) (cells' := 2) (slots' := 0) rfl rfl (by decide) (by decide) rfl (fun r24 => ?_)
  refine Run.as (D' := ((a1, "com/example/ferrywire/ferrywire/protocol/Signature", [("com/example/ferrywire/ferrywire/protocol/Signature", "blockLength", "I", (.int (1 : Int32))), ("com/example/ferrywire/ferrywire/protocol/Signature", "size", "J", (.long (0 : Int64))), ("com/example/ferrywire/ferrywire/protocol/Signature", "blockCount", "I", (.int (0 : Int32))), ("com/example/ferrywire/ferrywire/protocol/Signature", "weak", "[I", (.ref r23)), ("com/example/ferrywire/ferrywire/protocol/Signature", "strong", "[B", a1_strong)]) :: Ob, (r24, .byte, []) :: (r23, .int, []) :: Ax)) rfl ?_
  refine Run.putF K d1_132 (pc' := 135) rfl (hw _ (List.mem_of_getElem? (i := 27) rfl)) (Or.inl (hw _ (List.mem_of_getElem? (i := 28) rfl))) (hw _ (List.mem_of_getElem? (i := 4) rfl)) (ty := (.array .byte)) (by decide) rfl rfl (i := 0) (j := 4) rfl rfl (D' := ((a1, "com/example/ferrywire/ferrywire/protocol/Signature", [("com/example/ferrywire/ferrywire/protocol/Signature", "blockLength", "I", (.int (1 : Int32))), ("com/example/ferrywire/ferrywire/protocol/Signature", "size", "J", (.long (0 : Int64))), ("com/example/ferrywire/ferrywire/protocol/Signature", "blockCount", "I", (.int (0 : Int32))), ("com/example/ferrywire/ferrywire/protocol/Signature", "weak", "[I", (.ref r23)), ("com/example/ferrywire/ferrywire/protocol/Signature", "strong", "[B", (.ref r24))]) :: Ob, (r24, .byte, []) :: (r23, .int, []) :: Ax)) rfl ?_
  exact Run.retV K d1_135 rfl (by decide) (by decide) ⟨r23, r24, rfl, rfl⟩
theorem d6_0 : decode jdk_33_method_47_code 0 = .ok (.iload_n 0, 1) := by decide +kernel
theorem d6_1 : decode jdk_33_method_47_code 1 = .ok (.ifCond .gt 14, 3) := by decide +kernel
theorem d6_4 : decode jdk_33_method_47_code 4 = .ok (.iload_n 0, 1) := by decide +kernel
theorem d6_5 : decode jdk_33_method_47_code 5 = .ok (.ifCond .ne 8, 3) := by decide +kernel
theorem d6_8 : decode jdk_33_method_47_code 8 = .ok (.bipush 32, 2) := by decide +kernel
theorem d6_10 : decode jdk_33_method_47_code 10 = .ok (.goto 4, 3) := by decide +kernel
theorem d6_13 : decode jdk_33_method_47_code 13 = .ok (.iconst 0, 1) := by decide +kernel
theorem d6_14 : decode jdk_33_method_47_code 14 = .ok (.ireturn, 1) := by decide +kernel
theorem d6_15 : decode jdk_33_method_47_code 15 = .ok (.bipush 31, 2) := by decide +kernel
theorem d6_17 : decode jdk_33_method_47_code 17 = .ok (.istore_n 1, 1) := by decide +kernel
theorem d6_18 : decode jdk_33_method_47_code 18 = .ok (.iload_n 0, 1) := by decide +kernel
theorem d6_19 : decode jdk_33_method_47_code 19 = .ok (.ldc_w 264, 3) := by decide +kernel
theorem d6_22 : decode jdk_33_method_47_code 22 = .ok (.if_icmp .lt 11, 3) := by decide +kernel
theorem d6_25 : decode jdk_33_method_47_code 25 = .ok (.iinc 1 (-16), 3) := by decide +kernel
theorem d6_28 : decode jdk_33_method_47_code 28 = .ok (.iload_n 0, 1) := by decide +kernel
theorem d6_29 : decode jdk_33_method_47_code 29 = .ok (.bipush 16, 2) := by decide +kernel
theorem d6_31 : decode jdk_33_method_47_code 31 = .ok (.iushr, 1) := by decide +kernel
theorem d6_32 : decode jdk_33_method_47_code 32 = .ok (.istore_n 0, 1) := by decide +kernel
theorem d6_33 : decode jdk_33_method_47_code 33 = .ok (.iload_n 0, 1) := by decide +kernel
theorem d6_34 : decode jdk_33_method_47_code 34 = .ok (.sipush 256, 3) := by decide +kernel
theorem d6_37 : decode jdk_33_method_47_code 37 = .ok (.if_icmp .lt 11, 3) := by decide +kernel
theorem d6_40 : decode jdk_33_method_47_code 40 = .ok (.iinc 1 (-8), 3) := by decide +kernel
theorem d6_43 : decode jdk_33_method_47_code 43 = .ok (.iload_n 0, 1) := by decide +kernel
theorem d6_44 : decode jdk_33_method_47_code 44 = .ok (.bipush 8, 2) := by decide +kernel
theorem d6_46 : decode jdk_33_method_47_code 46 = .ok (.iushr, 1) := by decide +kernel
theorem d6_47 : decode jdk_33_method_47_code 47 = .ok (.istore_n 0, 1) := by decide +kernel
theorem d6_48 : decode jdk_33_method_47_code 48 = .ok (.iload_n 0, 1) := by decide +kernel
theorem d6_49 : decode jdk_33_method_47_code 49 = .ok (.bipush 16, 2) := by decide +kernel
theorem d6_51 : decode jdk_33_method_47_code 51 = .ok (.if_icmp .lt 10, 3) := by decide +kernel
theorem d6_54 : decode jdk_33_method_47_code 54 = .ok (.iinc 1 (-4), 3) := by decide +kernel
theorem d6_57 : decode jdk_33_method_47_code 57 = .ok (.iload_n 0, 1) := by decide +kernel
theorem d6_58 : decode jdk_33_method_47_code 58 = .ok (.iconst 4, 1) := by decide +kernel
theorem d6_59 : decode jdk_33_method_47_code 59 = .ok (.iushr, 1) := by decide +kernel
theorem d6_60 : decode jdk_33_method_47_code 60 = .ok (.istore_n 0, 1) := by decide +kernel
theorem d6_61 : decode jdk_33_method_47_code 61 = .ok (.iload_n 0, 1) := by decide +kernel
theorem d6_62 : decode jdk_33_method_47_code 62 = .ok (.iconst 4, 1) := by decide +kernel
theorem d6_63 : decode jdk_33_method_47_code 63 = .ok (.if_icmp .lt 10, 3) := by decide +kernel
theorem d6_66 : decode jdk_33_method_47_code 66 = .ok (.iinc 1 (-2), 3) := by decide +kernel
theorem d6_69 : decode jdk_33_method_47_code 69 = .ok (.iload_n 0, 1) := by decide +kernel
theorem d6_70 : decode jdk_33_method_47_code 70 = .ok (.iconst 2, 1) := by decide +kernel
theorem d6_71 : decode jdk_33_method_47_code 71 = .ok (.iushr, 1) := by decide +kernel
theorem d6_72 : decode jdk_33_method_47_code 72 = .ok (.istore_n 0, 1) := by decide +kernel
theorem d6_73 : decode jdk_33_method_47_code 73 = .ok (.iload_n 1, 1) := by decide +kernel
theorem d6_74 : decode jdk_33_method_47_code 74 = .ok (.iload_n 0, 1) := by decide +kernel
theorem d6_75 : decode jdk_33_method_47_code 75 = .ok (.iconst 1, 1) := by decide +kernel
theorem d6_76 : decode jdk_33_method_47_code 76 = .ok (.iushr, 1) := by decide +kernel
theorem d6_77 : decode jdk_33_method_47_code 77 = .ok (.isub, 1) := by decide +kernel
theorem d6_78 : decode jdk_33_method_47_code 78 = .ok (.ireturn, 1) := by decide +kernel
theorem pn_1 : plainName "java/lang/Integer" = true := by first | (simp [plainName, overriddenIn]; done) | decide +kernel
set_option maxRecDepth 65536 in
set_option maxHeartbeats 40000000 in
theorem rm6 (l : Launch) (Z : State) (a0 : Array Value) (n0 : Nat) (hw : ∀ d ∈ tables_1, d.before a0 Z = true) (ws : List Jvm.Cond) (p1 : Int32) (Ob : List OObj) (Ax : List OArr) (e1 : p1 = (0 : Int32)) : Con l Z a0 n0 ws (⟨"java/lang/Integer", "numberOfLeadingZeros", "(I)I"⟩ : MethodName) jdk_33_method_47_code 2 (some .int) ({ frames := 0, cells := 0, slots := 0, locals := 0 } : Room) #[(.int p1)] (Ob, Ax) (Ret (some (.int (32 : Int32))) (Ob, Ax)) := by
  refine Con.of_run (plainFor_of_name pn_1) (L0 := #[.val (.int p1), .unset]) (fun m => by first | (simp [entryFrame, mkF, argsToLocals, Value.category]; done) | rfl) ?_
  intro p e s m below meth c K
  subst e1
  refine Run.iloadN K d6_0 (pc' := 1) rfl rfl ?_
  refine Run.ifcF K d6_1 (pT := 15) (pF := 4) (by decide) (by decide) rfl (show ¬ ((0 : Int32) < (0 : Int32)) from by decide) ?_
  refine Run.iloadN K d6_4 (pc' := 5) rfl rfl ?_
  refine Run.ifcF K d6_5 (pT := 13) (pF := 8) (by decide) (by decide) rfl (show ¬ ((0 : Int32) ≠ (0 : Int32)) from by decide) ?_
  refine Run.bipush K d6_8 (pc' := 10) rfl (v := (32 : Int32)) rfl ?_
  refine Run.goto K d6_10 (pc' := 14) (by decide) (by decide) ?_
  exact Run.retI K d6_14 rfl (by decide) (by decide) ⟨rfl, rfl⟩
theorem d15_0 : decode prog_84_method_3_code 0 = .ok (.iload_n 0, 1) := by decide +kernel
theorem d15_1 : decode prog_84_method_3_code 1 = .ok (.ldc 42, 2) := by decide +kernel
theorem d15_3 : decode prog_84_method_3_code 3 = .ok (.imul, 1) := by decide +kernel
theorem d15_4 : decode prog_84_method_3_code 4 = .ok (.iload_n 1, 1) := by decide +kernel
theorem d15_5 : decode prog_84_method_3_code 5 = .ok (.iushr, 1) := by decide +kernel
theorem d15_6 : decode prog_84_method_3_code 6 = .ok (.ireturn, 1) := by decide +kernel
theorem pn_2 : plainName "com/example/ferrywire/ferrywire/core/WeakSumFilter" = true := by first | (simp [plainName, overriddenIn]; done) | decide +kernel
set_option maxRecDepth 65536 in
set_option maxHeartbeats 40000000 in
theorem rm15 (l : Launch) (Z : State) (a0 : Array Value) (n0 : Nat) (hw : ∀ d ∈ tables_1, d.before a0 Z = true) (ws : List Jvm.Cond) (p1 : Int32) (p2 : Int32) (Ob : List OObj) (Ax : List OArr) : Con l Z a0 n0 ws (⟨"com/example/ferrywire/ferrywire/core/WeakSumFilter", "spread", "(II)I"⟩ : MethodName) prog_84_method_3_code 2 (some .int) ({ frames := 0, cells := 0, slots := 0, locals := 0 } : Room) #[(.int p1), (.int p2)] (Ob, Ax) (Ret (some (.int (((p1 * (-1640531527 : Int32)).toUInt32 >>> (p2 &&& 31).toUInt32).toInt32))) (Ob, Ax)) := by
  refine Con.of_run (plainFor_of_name pn_2) (L0 := #[.val (.int p1), .val (.int p2)]) (fun m => by first | (simp [entryFrame, mkF, argsToLocals, Value.category]; done) | rfl) ?_
  intro p e s m below meth c K
  refine Run.iloadN K d15_0 (pc' := 1) rfl rfl ?_
  refine Run.ldcI K d15_1 (pc' := 3) rfl (v := (-1640531527 : Int32)) (hw _ (List.mem_of_getElem? (i := 96) rfl)) ?_
  refine Run.imul K d15_3 (pc' := 4) rfl ?_
  refine Run.iloadN K d15_4 (pc' := 5) rfl rfl ?_
  refine Run.iushr K d15_5 (pc' := 6) rfl ?_
  exact Run.retI K d15_6 rfl (by decide) (by decide) ⟨rfl, rfl⟩
theorem d4_0 : decode prog_84_method_1_code 0 = .ok (.aload_n 0, 1) := by decide +kernel
theorem d4_1 : decode prog_84_method_1_code 1 = .ok (.invokespecial 1, 3) := by decide +kernel
theorem d4_4 : decode prog_84_method_1_code 4 = .ok (.bipush 32, 2) := by decide +kernel
theorem d4_6 : decode prog_84_method_1_code 6 = .ok (.iconst 1, 1) := by decide +kernel
theorem d4_7 : decode prog_84_method_1_code 7 = .ok (.iload_n 2, 1) := by decide +kernel
theorem d4_8 : decode prog_84_method_1_code 8 = .ok (.invokestatic 7, 3) := by decide +kernel
theorem d4_11 : decode prog_84_method_1_code 11 = .ok (.iconst 1, 1) := by decide +kernel
theorem d4_12 : decode prog_84_method_1_code 12 = .ok (.isub, 1) := by decide +kernel
theorem d4_13 : decode prog_84_method_1_code 13 = .ok (.invokestatic 13, 3) := by decide +kernel
theorem d4_16 : decode prog_84_method_1_code 16 = .ok (.isub, 1) := by decide +kernel
theorem d4_17 : decode prog_84_method_1_code 17 = .ok (.istore_n 3, 1) := by decide +kernel
theorem d4_18 : decode prog_84_method_1_code 18 = .ok (.bipush 26, 2) := by decide +kernel
theorem d4_20 : decode prog_84_method_1_code 20 = .ok (.iload_n 3, 1) := by decide +kernel
theorem d4_21 : decode prog_84_method_1_code 21 = .ok (.bipush 6, 2) := by decide +kernel
theorem d4_23 : decode prog_84_method_1_code 23 = .ok (.iadd, 1) := by decide +kernel
theorem d4_24 : decode prog_84_method_1_code 24 = .ok (.invokestatic 21, 3) := by decide +kernel
theorem d4_27 : decode prog_84_method_1_code 27 = .ok (.istore 4, 2) := by decide +kernel
theorem d4_29 : decode prog_84_method_1_code 29 = .ok (.aload_n 0, 1) := by decide +kernel
theorem d4_30 : decode prog_84_method_1_code 30 = .ok (.bipush 32, 2) := by decide +kernel
theorem d4_32 : decode prog_84_method_1_code 32 = .ok (.iload 4, 2) := by decide +kernel
theorem d4_34 : decode prog_84_method_1_code 34 = .ok (.isub, 1) := by decide +kernel
theorem d4_35 : decode prog_84_method_1_code 35 = .ok (.putfield 24, 3) := by decide +kernel
theorem d4_38 : decode prog_84_method_1_code 38 = .ok (.aload_n 0, 1) := by decide +kernel
theorem d4_39 : decode prog_84_method_1_code 39 = .ok (.iconst 1, 1) := by decide +kernel
theorem d4_40 : decode prog_84_method_1_code 40 = .ok (.iload 4, 2) := by decide +kernel
theorem d4_42 : decode prog_84_method_1_code 42 = .ok (.ishl, 1) := by decide +kernel
theorem d4_43 : decode prog_84_method_1_code 43 = .ok (.bipush 64, 2) := by decide +kernel
theorem d4_45 : decode prog_84_method_1_code 45 = .ok (.idiv, 1) := by decide +kernel
theorem d4_46 : decode prog_84_method_1_code 46 = .ok (.newarray .long, 2) := by decide +kernel
theorem d4_48 : decode prog_84_method_1_code 48 = .ok (.putfield 30, 3) := by decide +kernel
theorem d4_51 : decode prog_84_method_1_code 51 = .ok (.iconst 0, 1) := by decide +kernel
theorem d4_52 : decode prog_84_method_1_code 52 = .ok (.istore 5, 2) := by decide +kernel
theorem d4_54 : decode prog_84_method_1_code 54 = .ok (.iload 5, 2) := by decide +kernel
theorem d4_56 : decode prog_84_method_1_code 56 = .ok (.iload_n 2, 1) := by decide +kernel
theorem d4_57 : decode prog_84_method_1_code 57 = .ok (.if_icmp .ge 41, 3) := by decide +kernel
theorem d4_60 : decode prog_84_method_1_code 60 = .ok (.aload_n 1, 1) := by decide +kernel
theorem d4_61 : decode prog_84_method_1_code 61 = .ok (.iload 5, 2) := by decide +kernel
theorem d4_63 : decode prog_84_method_1_code 63 = .ok (.invokevirtual 34, 3) := by decide +kernel
theorem d4_66 : decode prog_84_method_1_code 66 = .ok (.aload_n 0, 1) := by decide +kernel
theorem d4_67 : decode prog_84_method_1_code 67 = .ok (.getfield 24, 3) := by decide +kernel
theorem d4_70 : decode prog_84_method_1_code 70 = .ok (.invokestatic 39, 3) := by decide +kernel
theorem d4_73 : decode prog_84_method_1_code 73 = .ok (.istore 6, 2) := by decide +kernel
theorem d4_75 : decode prog_84_method_1_code 75 = .ok (.aload_n 0, 1) := by decide +kernel
theorem d4_76 : decode prog_84_method_1_code 76 = .ok (.getfield 30, 3) := by decide +kernel
theorem d4_79 : decode prog_84_method_1_code 79 = .ok (.iload 6, 2) := by decide +kernel
theorem d4_81 : decode prog_84_method_1_code 81 = .ok (.bipush 6, 2) := by decide +kernel
theorem d4_83 : decode prog_84_method_1_code 83 = .ok (.iushr, 1) := by decide +kernel
theorem d4_84 : decode prog_84_method_1_code 84 = .ok (.dup2, 1) := by decide +kernel
theorem d4_85 : decode prog_84_method_1_code 85 = .ok (.laload, 1) := by decide +kernel
theorem d4_86 : decode prog_84_method_1_code 86 = .ok (.lconst 1, 1) := by decide +kernel
theorem d4_87 : decode prog_84_method_1_code 87 = .ok (.iload 6, 2) := by decide +kernel
theorem d4_89 : decode prog_84_method_1_code 89 = .ok (.lshl, 1) := by decide +kernel
theorem d4_90 : decode prog_84_method_1_code 90 = .ok (.lor, 1) := by decide +kernel
theorem d4_91 : decode prog_84_method_1_code 91 = .ok (.lastore, 1) := by decide +kernel
theorem d4_92 : decode prog_84_method_1_code 92 = .ok (.iinc 5 1, 3) := by decide +kernel
theorem d4_95 : decode prog_84_method_1_code 95 = .ok (.goto (-41), 3) := by decide +kernel
theorem d4_98 : decode prog_84_method_1_code 98 = .ok (.return_, 1) := by decide +kernel
theorem pd_1 : parseMethodDescriptor "(I)I" = some ⟨[.int], some .int⟩ := by decide +kernel
set_option maxRecDepth 65536 in
set_option maxHeartbeats 40000000 in
theorem rm4 (l : Launch) (Z : State) (a0 : Array Value) (n0 : Nat) (hw : ∀ d ∈ tables_1, d.before a0 Z = true) (ws : List Jvm.Cond) (a1 : Addr) (a2 : Addr) (p1 : Int32) (a1_shift : Int32) (a1_bits : Value) (Ob : List OObj) (Ax : List OArr) (e1 : p1 = (0 : Int32)) : Con l Z a0 n0 ws (⟨"com/example/ferrywire/ferrywire/core/WeakSumFilter", "<init>", "(Lcom/example/ferrywire/ferrywire/protocol/Signature;I)V"⟩ : MethodName) prog_84_method_1_code 7 none ({ frames := 1, cells := 1, slots := 1, locals := 14 } : Room) #[(.ref a1), (.ref a2), (.int p1)] ((a1, "com/example/ferrywire/ferrywire/core/WeakSumFilter", [("com/example/ferrywire/ferrywire/core/WeakSumFilter", "shift", "I", (.int a1_shift)), ("com/example/ferrywire/ferrywire/core/WeakSumFilter", "bits", "[J", a1_bits)]) :: Ob, Ax) (fun vq Dq => ∃ (r29 : Addr), vq = none ∧ Dq = ((a1, "com/example/ferrywire/ferrywire/core/WeakSumFilter", [("com/example/ferrywire/ferrywire/core/WeakSumFilter", "shift", "I", (.int (26 : Int32))), ("com/example/ferrywire/ferrywire/core/WeakSumFilter", "bits", "[J", (.ref r29))]) :: Ob, (r29, .long, [(.long (0 : Int64))]) :: Ax)) := by
  refine Con.of_run (plainFor_of_name pn_2) (L0 := #[.val (.ref a1), .val (.ref a2), .val (.int p1), .unset, .unset, .unset, .unset]) (fun m => by first | (simp [entryFrame, mkF, argsToLocals, Value.category]; done) | rfl) ?_
  intro p e s m below meth c K
  subst e1
  refine Run.aloadN K d4_0 (pc' := 1) rfl rfl rfl ?_
  refine Run.initO K d4_1 (pc' := 4) rfl (hw _ (List.mem_of_getElem? (i := 35) rfl)) (hw _ (List.mem_of_getElem? (i := 10) rfl)) (hw _ (List.mem_of_getElem? (i := 11) rfl)) rfl (by decide) (W := 0) rfl (by decide) ?_
  refine Run.bipush K d4_4 (pc' := 6) rfl (v := (32 : Int32)) rfl ?_
  refine Run.iconst K d4_6 (pc' := 7) rfl (v := (1 : Int32)) rfl ?_
  refine Run.iloadN K d4_7 (pc' := 8) rfl rfl ?_
  refine Run.callS K d4_8 (pc' := 11) rfl (hw _ (List.mem_of_getElem? (i := 36) rfl)) (hw _ (List.mem_of_getElem? (i := 37) rfl)) (hw _ (List.mem_of_getElem? (i := 22) rfl)) (hw _ (List.mem_of_getElem? (i := 38) rfl)) (by decide) (rm5 l Z a0 n0 hw [] ((1 : Int32)) ((0 : Int32)) ((a1, "com/example/ferrywire/ferrywire/core/WeakSumFilter", [("com/example/ferrywire/ferrywire/core/WeakSumFilter", "shift", "I", (.int a1_shift)), ("com/example/ferrywire/ferrywire/core/WeakSumFilter", "bits", "[J", a1_bits)]) :: Ob) (Ax) ) (argsL := [(.int (1 : Int32)), (.int (0 : Int32))]) (rest := [(.int (32 : Int32))]) rfl rfl pd_0 rfl (W := 1) rfl (by decide) (by decide) (cells' := 0) (slots' := 0) rfl rfl (by decide) (by decide) ?_
  intro vq Dq hq
  obtain ⟨c30, hc31, rfl, rfl⟩ := hq
  refine Run.as2 (D' := ((a1, "com/example/ferrywire/ferrywire/core/WeakSumFilter", [("com/example/ferrywire/ferrywire/core/WeakSumFilter", "shift", "I", (.int a1_shift)), ("com/example/ferrywire/ferrywire/core/WeakSumFilter", "bits", "[J", a1_bits)]) :: Ob, Ax)) (S' := [(.int c30), (.int (32 : Int32))]) rfl rfl ?_
  obtain rfl : c30 = (1 : Int32) := by rcases hc31 with ⟨q0, q⟩ | ⟨q0, q⟩ <;> first | exact q | exact absurd q0 (by decide)
  refine Run.iconst K d4_11 (pc' := 12) rfl (v := (1 : Int32)) rfl ?_
  refine Run.isubV K d4_12 (pc' := 13) rfl (v := (0 : Int32)) (by decide) ?_
  refine Run.callS K d4_13 (pc' := 16) rfl (hw _ (List.mem_of_getElem? (i := 39) rfl)) (hw _ (List.mem_of_getElem? (i := 40) rfl)) (hw _ (List.mem_of_getElem? (i := 41) rfl)) (hw _ (List.mem_of_getElem? (i := 42) rfl)) (by decide) (rm6 l Z a0 n0 hw [] ((0 : Int32)) ((a1, "com/example/ferrywire/ferrywire/core/WeakSumFilter", [("com/example/ferrywire/ferrywire/core/WeakSumFilter", "shift", "I", (.int a1_shift)), ("com/example/ferrywire/ferrywire/core/WeakSumFilter", "bits", "[J", a1_bits)]) :: Ob) (Ax) (rfl)) (argsL := [(.int (0 : Int32))]) (rest := [(.int (32 : Int32))]) rfl rfl pd_1 rfl (W := 1) rfl (by decide) (by decide) (cells' := 0) (slots' := 0) rfl rfl (by decide) (by decide) (Ret.k (S' := [(.int (32 : Int32)), (.int (32 : Int32))]) rfl ?_)
  refine Run.as (D' := ((a1, "com/example/ferrywire/ferrywire/core/WeakSumFilter", [("com/example/ferrywire/ferrywire/core/WeakSumFilter", "shift", "I", (.int a1_shift)), ("com/example/ferrywire/ferrywire/core/WeakSumFilter", "bits", "[J", a1_bits)]) :: Ob, Ax)) rfl ?_
  refine Run.isubV K d4_16 (pc' := 17) rfl (v := (0 : Int32)) (by decide) ?_
  refine Run.istoreN K d4_17 (pc' := 18) rfl (L' := #[.val (.ref a1), .val (.ref a2), .val (.int (0 : Int32)), .val (.int (0 : Int32)), .unset, .unset, .unset]) rfl ?_
  refine Run.bipush K d4_18 (pc' := 20) rfl (v := (26 : Int32)) rfl ?_
  refine Run.iloadN K d4_20 (pc' := 21) rfl rfl ?_
  refine Run.bipush K d4_21 (pc' := 23) rfl (v := (6 : Int32)) rfl ?_
  refine Run.iaddV K d4_23 (pc' := 24) rfl (v := (6 : Int32)) (by decide) ?_
  refine Run.callS K d4_24 (pc' := 27) rfl (hw _ (List.mem_of_getElem? (i := 43) rfl)) (hw _ (List.mem_of_getElem? (i := 21) rfl)) (hw _ (List.mem_of_getElem? (i := 22) rfl)) (hw _ (List.mem_of_getElem? (i := 23) rfl)) (by decide) (rm3 l Z a0 n0 hw [] ((26 : Int32)) ((6 : Int32)) ((a1, "com/example/ferrywire/ferrywire/core/WeakSumFilter", [("com/example/ferrywire/ferrywire/core/WeakSumFilter", "shift", "I", (.int a1_shift)), ("com/example/ferrywire/ferrywire/core/WeakSumFilter", "bits", "[J", a1_bits)]) :: Ob) (Ax) ) (argsL := [(.int (26 : Int32)), (.int (6 : Int32))]) (rest := []) rfl rfl pd_0 rfl (W := 0) rfl (by decide) (by decide) (cells' := 0) (slots' := 0) rfl rfl (by decide) (by decide) ?_
  intro vq Dq hq
  obtain ⟨c32, hc33, rfl, rfl⟩ := hq
  refine Run.as2 (D' := ((a1, "com/example/ferrywire/ferrywire/core/WeakSumFilter", [("com/example/ferrywire/ferrywire/core/WeakSumFilter", "shift", "I", (.int a1_shift)), ("com/example/ferrywire/ferrywire/core/WeakSumFilter", "bits", "[J", a1_bits)]) :: Ob, Ax)) (S' := [(.int c32)]) rfl rfl ?_
  obtain rfl : c32 = (6 : Int32) := by rcases hc33 with ⟨q0, q⟩ | ⟨q0, q⟩ <;> first | exact q | exact absurd q0 (by decide)
  refine Run.istore K d4_27 (pc' := 29) rfl (L' := #[.val (.ref a1), .val (.ref a2), .val (.int (0 : Int32)), .val (.int (0 : Int32)), .val (.int (6 : Int32)), .unset, .unset]) rfl ?_
  refine Run.aloadN K d4_29 (pc' := 30) rfl rfl rfl ?_
  refine Run.bipush K d4_30 (pc' := 32) rfl (v := (32 : Int32)) rfl ?_
  refine Run.iload K d4_32 (pc' := 34) rfl rfl ?_
  refine Run.isubV K d4_34 (pc' := 35) rfl (v := (26 : Int32)) (by decide) ?_
  refine Run.putF K d4_35 (pc' := 38) rfl (hw _ (List.mem_of_getElem? (i := 44) rfl)) (Or.inr ⟨(hw _ (List.mem_of_getElem? (i := 45) rfl)), rfl, rfl⟩) (hw _ (List.mem_of_getElem? (i := 30) rfl)) (ty := .int) (by decide) rfl rfl (i := 0) (j := 0) rfl rfl (D' := ((a1, "com/example/ferrywire/ferrywire/core/WeakSumFilter", [("com/example/ferrywire/ferrywire/core/WeakSumFilter", "shift", "I", (.int (26 : Int32))), ("com/example/ferrywire/ferrywire/core/WeakSumFilter", "bits", "[J", a1_bits)]) :: Ob, Ax)) rfl ?_
  refine Run.aloadN K d4_38 (pc' := 39) rfl rfl rfl ?_
  refine Run.iconst K d4_39 (pc' := 40) rfl (v := (1 : Int32)) rfl ?_
  refine Run.iload K d4_40 (pc' := 42) rfl rfl ?_
  refine Run.ishlV K d4_42 (pc' := 43) rfl (v := (64 : Int32)) (by decide) ?_
  refine Run.bipush K d4_43 (pc' := 45) rfl (v := (64 : Int32)) rfl ?_
  refine Run.idivV K d4_45 (pc' := 46) rfl (by decide) (v := (1 : Int32)) (by decide) ?_
  refine Run.newA K d4_46 (pc' := 48) rfl (ty := .long) rfl (hw _ (List.mem_of_getElem? (i := 46) rfl)) (by decide) (vs := [(.long (0 : Int64))]) (rfl) (cap := 1) (by decide) (by decide) (cells' := 1) (slots' := 1) rfl rfl (by decide) (by decide) rfl (fun r34 => ?_)
  refine Run.as (D' := ((a1, "com/example/ferrywire/ferrywire/core/WeakSumFilter", [("com/example/ferrywire/ferrywire/core/WeakSumFilter", "shift", "I", (.int (26 : Int32))), ("com/example/ferrywire/ferrywire/core/WeakSumFilter", "bits", "[J", a1_bits)]) :: Ob, (r34, .long, [(.long (0 : Int64))]) :: Ax)) rfl ?_
  refine Run.putF K d4_48 (pc' := 51) rfl (hw _ (List.mem_of_getElem? (i := 47) rfl)) (Or.inr ⟨(hw _ (List.mem_of_getElem? (i := 48) rfl)), rfl, rfl⟩) (hw _ (List.mem_of_getElem? (i := 30) rfl)) (ty := (.array .long)) (by decide) rfl rfl (i := 0) (j := 1) rfl rfl (D' := ((a1, "com/example/ferrywire/ferrywire/core/WeakSumFilter", [("com/example/ferrywire/ferrywire/core/WeakSumFilter", "shift", "I", (.int (26 : Int32))), ("com/example/ferrywire/ferrywire/core/WeakSumFilter", "bits", "[J", (.ref r34))]) :: Ob, (r34, .long, [(.long (0 : Int64))]) :: Ax)) rfl ?_
  refine Run.iconst K d4_51 (pc' := 52) rfl (v := (0 : Int32)) rfl ?_
  refine Run.istore K d4_52 (pc' := 54) rfl (L' := #[.val (.ref a1), .val (.ref a2), .val (.int (0 : Int32)), .val (.int (0 : Int32)), .val (.int (6 : Int32)), .val (.int (0 : Int32)), .unset]) rfl ?_
  refine Run.iload K d4_54 (pc' := 56) rfl rfl ?_
  refine Run.iloadN K d4_56 (pc' := 57) rfl rfl ?_
  refine Run.icmpT K d4_57 (pT := 98) (pF := 60) (by decide) (by decide) rfl (show (0 : Int32) ≤ (0 : Int32) from by decide) ?_
  exact Run.retV K d4_98 rfl (by decide) (by decide) ⟨r34, rfl, rfl⟩
theorem d7_0 : decode prog_63_method_1_code 0 = .ok (.aload_n 0, 1) := by decide +kernel
theorem d7_1 : decode prog_63_method_1_code 1 = .ok (.invokespecial 1, 3) := by decide +kernel
theorem d7_4 : decode prog_63_method_1_code 4 = .ok (.return_, 1) := by decide +kernel
theorem pn_3 : plainName "com/example/ferrywire/ferrywire/core/RollingSum" = true := by first | (simp [plainName, overriddenIn]; done) | decide +kernel
set_option maxRecDepth 65536 in
set_option maxHeartbeats 40000000 in
theorem rm7 (l : Launch) (Z : State) (a0 : Array Value) (n0 : Nat) (hw : ∀ d ∈ tables_1, d.before a0 Z = true) (ws : List Jvm.Cond) (a1 : Addr) (Ob : List OObj) (Ax : List OArr) : Con l Z a0 n0 ws (⟨"com/example/ferrywire/ferrywire/core/RollingSum", "<init>", "()V"⟩ : MethodName) prog_63_method_1_code 1 none ({ frames := 1, cells := 0, slots := 0, locals := 12 } : Room) #[(.ref a1)] (Ob, Ax) (Ret none (Ob, Ax)) := by
  refine Con.of_run (plainFor_of_name pn_3) (L0 := #[.val (.ref a1)]) (fun m => by first | (simp [entryFrame, mkF, argsToLocals, Value.category]; done) | rfl) ?_
  intro p e s m below meth c K
  refine Run.aloadN K d7_0 (pc' := 1) rfl rfl rfl ?_
  refine Run.initO K d7_1 (pc' := 4) rfl (hw _ (List.mem_of_getElem? (i := 55) rfl)) (hw _ (List.mem_of_getElem? (i := 10) rfl)) (hw _ (List.mem_of_getElem? (i := 11) rfl)) rfl (by decide) (W := 0) rfl (by decide) ?_
  exact Run.retV K d7_4 rfl (by decide) (by decide) ⟨rfl, rfl⟩
theorem d8_0 : decode prog_63_method_3_code 0 = .ok (.iconst 0, 1) := by decide +kernel
theorem d8_1 : decode prog_63_method_3_code 1 = .ok (.istore 4, 2) := by decide +kernel
theorem d8_3 : decode prog_63_method_3_code 3 = .ok (.iconst 0, 1) := by decide +kernel
theorem d8_4 : decode prog_63_method_3_code 4 = .ok (.istore 5, 2) := by decide +kernel
theorem d8_6 : decode prog_63_method_3_code 6 = .ok (.iload_n 2, 1) := by decide +kernel
theorem d8_7 : decode prog_63_method_3_code 7 = .ok (.istore 6, 2) := by decide +kernel
theorem d8_9 : decode prog_63_method_3_code 9 = .ok (.iload 6, 2) := by decide +kernel
theorem d8_11 : decode prog_63_method_3_code 11 = .ok (.iload_n 2, 1) := by decide +kernel
theorem d8_12 : decode prog_63_method_3_code 12 = .ok (.iload_n 3, 1) := by decide +kernel
theorem d8_13 : decode prog_63_method_3_code 13 = .ok (.iadd, 1) := by decide +kernel
theorem d8_14 : decode prog_63_method_3_code 14 = .ok (.if_icmp .ge 29, 3) := by decide +kernel
theorem d8_17 : decode prog_63_method_3_code 17 = .ok (.iload 4, 2) := by decide +kernel
theorem d8_19 : decode prog_63_method_3_code 19 = .ok (.aload_n 1, 1) := by decide +kernel
theorem d8_20 : decode prog_63_method_3_code 20 = .ok (.iload 6, 2) := by decide +kernel
theorem d8_22 : decode prog_63_method_3_code 22 = .ok (.baload, 1) := by decide +kernel
theorem d8_23 : decode prog_63_method_3_code 23 = .ok (.sipush 255, 3) := by decide +kernel
theorem d8_26 : decode prog_63_method_3_code 26 = .ok (.iand, 1) := by decide +kernel
theorem d8_27 : decode prog_63_method_3_code 27 = .ok (.iadd, 1) := by decide +kernel
theorem d8_28 : decode prog_63_method_3_code 28 = .ok (.istore 4, 2) := by decide +kernel
theorem d8_30 : decode prog_63_method_3_code 30 = .ok (.iload 5, 2) := by decide +kernel
theorem d8_32 : decode prog_63_method_3_code 32 = .ok (.iload 4, 2) := by decide +kernel
theorem d8_34 : decode prog_63_method_3_code 34 = .ok (.iadd, 1) := by decide +kernel
theorem d8_35 : decode prog_63_method_3_code 35 = .ok (.istore 5, 2) := by decide +kernel
theorem d8_37 : decode prog_63_method_3_code 37 = .ok (.iinc 6 1, 3) := by decide +kernel
theorem d8_40 : decode prog_63_method_3_code 40 = .ok (.goto (-31), 3) := by decide +kernel
theorem d8_43 : decode prog_63_method_3_code 43 = .ok (.aload_n 0, 1) := by decide +kernel
theorem d8_44 : decode prog_63_method_3_code 44 = .ok (.iload_n 3, 1) := by decide +kernel
theorem d8_45 : decode prog_63_method_3_code 45 = .ok (.putfield 18, 3) := by decide +kernel
theorem d8_48 : decode prog_63_method_3_code 48 = .ok (.aload_n 0, 1) := by decide +kernel
theorem d8_49 : decode prog_63_method_3_code 49 = .ok (.iload 4, 2) := by decide +kernel
theorem d8_51 : decode prog_63_method_3_code 51 = .ok (.putfield 22, 3) := by decide +kernel
theorem d8_54 : decode prog_63_method_3_code 54 = .ok (.aload_n 0, 1) := by decide +kernel
theorem d8_55 : decode prog_63_method_3_code 55 = .ok (.iload 5, 2) := by decide +kernel
theorem d8_57 : decode prog_63_method_3_code 57 = .ok (.putfield 25, 3) := by decide +kernel
theorem d8_60 : decode prog_63_method_3_code 60 = .ok (.return_, 1) := by decide +kernel
set_option maxRecDepth 65536 in
set_option maxHeartbeats 40000000 in
theorem rm8 (l : Launch) (Z : State) (a0 : Array Value) (n0 : Nat) (hw : ∀ d ∈ tables_1, d.before a0 Z = true) (ws : List Jvm.Cond) (a1 : Addr) (a2 : Addr) (p1 : Int32) (p2 : Int32) (a1_length : Int32) (a1_a : Int32) (a1_b : Int32) (bs : List Int32) (o : Nat) (k0 : Nat) (Ob : List OObj) (Ax : List OArr) (e1 : p1 = Int32.ofNat o) (e2 : p2 = Int32.ofNat k0) (hl : o + k0 ≤ bs.length) (hb : bs.length ≤ 8) : Con l Z a0 n0 ws (⟨"com/example/ferrywire/ferrywire/core/RollingSum", "start", "([BII)V"⟩ : MethodName) prog_63_method_3_code 7 none ({ frames := 0, cells := 0, slots := 0, locals := 0 } : Room) #[(.ref a1), (.ref a2), (.int p1), (.int p2)] ((a1, "com/example/ferrywire/ferrywire/core/RollingSum", [("com/example/ferrywire/ferrywire/core/RollingSum", "length", "I", (.int a1_length)), ("com/example/ferrywire/ferrywire/core/RollingSum", "a", "I", (.int a1_a)), ("com/example/ferrywire/ferrywire/core/RollingSum", "b", "I", (.int a1_b))]) :: Ob, (a2, .byte, (bs.map Value.int)) :: Ax) (Ret none ((a1, "com/example/ferrywire/ferrywire/core/RollingSum", [("com/example/ferrywire/ferrywire/core/RollingSum", "length", "I", (.int p2)), ("com/example/ferrywire/ferrywire/core/RollingSum", "a", "I", (.int (own_A bs o k0))), ("com/example/ferrywire/ferrywire/core/RollingSum", "b", "I", (.int (own_B bs o k0)))]) :: Ob, (a2, .byte, (bs.map Value.int)) :: Ax)) := by
  refine Con.of_run (plainFor_of_name pn_3) (L0 := #[.val (.ref a1), .val (.ref a2), .val (.int p1), .val (.int p2), .unset, .unset, .unset]) (fun m => by first | (simp [entryFrame, mkF, argsToLocals, Value.category]; done) | rfl) ?_
  intro p e s m below meth c K
  subst e1 e2
  refine Run.iconst K d8_0 (pc' := 1) rfl (v := (0 : Int32)) rfl ?_
  refine Run.istore K d8_1 (pc' := 3) rfl (L' := #[.val (.ref a1), .val (.ref a2), .val (.int (Int32.ofNat o)), .val (.int (Int32.ofNat k0)), .val (.int (0 : Int32)), .unset, .unset]) rfl ?_
  refine Run.iconst K d8_3 (pc' := 4) rfl (v := (0 : Int32)) rfl ?_
  refine Run.istore K d8_4 (pc' := 6) rfl (L' := #[.val (.ref a1), .val (.ref a2), .val (.int (Int32.ofNat o)), .val (.int (Int32.ofNat k0)), .val (.int (0 : Int32)), .val (.int (0 : Int32)), .unset]) rfl ?_
  refine Run.iloadN K d8_6 (pc' := 7) rfl rfl ?_
  refine Run.istore K d8_7 (pc' := 9) rfl (L' := #[.val (.ref a1), .val (.ref a2), .val (.int (Int32.ofNat o)), .val (.int (Int32.ofNat k0)), .val (.int (0 : Int32)), .val (.int (0 : Int32)), .val (.int (Int32.ofNat o))]) rfl ?_
  suffices HL : ∀ (n k : Nat), k + n = k0 → Run Z a0 n0 p l e ({ frames := 0, cells := 0, slots := 0, locals := 0 } : Room) s m #[(.ref a1), (.ref a2), (.int (Int32.ofNat o)), (.int (Int32.ofNat k0))] below meth c (Ret none ((a1, "com/example/ferrywire/ferrywire/core/RollingSum", [("com/example/ferrywire/ferrywire/core/RollingSum", "length", "I", (.int (Int32.ofNat k0))), ("com/example/ferrywire/ferrywire/core/RollingSum", "a", "I", (.int (own_A bs o k0))), ("com/example/ferrywire/ferrywire/core/RollingSum", "b", "I", (.int (own_B bs o k0)))]) :: Ob, (a2, .byte, (bs.map Value.int)) :: Ax)) ((a1, "com/example/ferrywire/ferrywire/core/RollingSum", [("com/example/ferrywire/ferrywire/core/RollingSum", "length", "I", (.int a1_length)), ("com/example/ferrywire/ferrywire/core/RollingSum", "a", "I", (.int a1_a)), ("com/example/ferrywire/ferrywire/core/RollingSum", "b", "I", (.int a1_b))]) :: Ob, (a2, .byte, (bs.map Value.int)) :: Ax) 0 0 9 #[.val (.ref a1), .val (.ref a2), .val (.int (Int32.ofNat o)), .val (.int (Int32.ofNat k0)), .val (.int (own_A bs o k)), .val (.int (own_B bs o k)), .val (.int (Int32.ofNat (o + k)))] [] from HL k0 0 (by omega)
  intro n
  induction n with
  | zero =>
    intro k hk
    obtain rfl : k = k0 := by omega
    refine Run.iload K d8_9 (pc' := 11) rfl rfl ?_
    refine Run.iloadN K d8_11 (pc' := 12) rfl rfl ?_
    refine Run.iloadN K d8_12 (pc' := 13) rfl rfl ?_
    refine Run.iadd K d8_13 (pc' := 14) rfl ?_
    refine Run.icmpT K d8_14 (pT := 43) (pF := 17) (by decide) (by decide) rfl (show ((Int32.ofNat o) + (Int32.ofNat k)) ≤ (Int32.ofNat (o + k)) from by rw [own_add]; exact Int32.le_refl _) ?_
    refine Run.aloadN K d8_43 (pc' := 44) rfl rfl rfl ?_
    refine Run.iloadN K d8_44 (pc' := 45) rfl rfl ?_
    refine Run.putF K d8_45 (pc' := 48) rfl (hw _ (List.mem_of_getElem? (i := 61) rfl)) (Or.inl (hw _ (List.mem_of_getElem? (i := 62) rfl))) (hw _ (List.mem_of_getElem? (i := 50) rfl)) (ty := .int) (by decide) rfl rfl (i := 0) (j := 0) rfl rfl (D' := ((a1, "com/example/ferrywire/ferrywire/core/RollingSum", [("com/example/ferrywire/ferrywire/core/RollingSum", "length", "I", (.int (Int32.ofNat k))), ("com/example/ferrywire/ferrywire/core/RollingSum", "a", "I", (.int a1_a)), ("com/example/ferrywire/ferrywire/core/RollingSum", "b", "I", (.int a1_b))]) :: Ob, (a2, .byte, (bs.map Value.int)) :: Ax)) rfl ?_
    refine Run.aloadN K d8_48 (pc' := 49) rfl rfl rfl ?_
    refine Run.iload K d8_49 (pc' := 51) rfl rfl ?_
    refine Run.putF K d8_51 (pc' := 54) rfl (hw _ (List.mem_of_getElem? (i := 63) rfl)) (Or.inl (hw _ (List.mem_of_getElem? (i := 64) rfl))) (hw _ (List.mem_of_getElem? (i := 50) rfl)) (ty := .int) (by decide) rfl rfl (i := 0) (j := 1) rfl rfl (D' := ((a1, "com/example/ferrywire/ferrywire/core/RollingSum", [("com/example/ferrywire/ferrywire/core/RollingSum", "length", "I", (.int (Int32.ofNat k))), ("com/example/ferrywire/ferrywire/core/RollingSum", "a", "I", (.int (own_A bs o k))), ("com/example/ferrywire/ferrywire/core/RollingSum", "b", "I", (.int a1_b))]) :: Ob, (a2, .byte, (bs.map Value.int)) :: Ax)) rfl ?_
    refine Run.aloadN K d8_54 (pc' := 55) rfl rfl rfl ?_
    refine Run.iload K d8_55 (pc' := 57) rfl rfl ?_
    refine Run.putF K d8_57 (pc' := 60) rfl (hw _ (List.mem_of_getElem? (i := 65) rfl)) (Or.inl (hw _ (List.mem_of_getElem? (i := 66) rfl))) (hw _ (List.mem_of_getElem? (i := 50) rfl)) (ty := .int) (by decide) rfl rfl (i := 0) (j := 2) rfl rfl (D' := ((a1, "com/example/ferrywire/ferrywire/core/RollingSum", [("com/example/ferrywire/ferrywire/core/RollingSum", "length", "I", (.int (Int32.ofNat k))), ("com/example/ferrywire/ferrywire/core/RollingSum", "a", "I", (.int (own_A bs o k))), ("com/example/ferrywire/ferrywire/core/RollingSum", "b", "I", (.int (own_B bs o k)))]) :: Ob, (a2, .byte, (bs.map Value.int)) :: Ax)) rfl ?_
    exact Run.retV K d8_60 rfl (by decide) (by decide) ⟨rfl, rfl⟩
  | succ n ih =>
    intro k hk
    refine Run.iload K d8_9 (pc' := 11) rfl rfl ?_
    refine Run.iloadN K d8_11 (pc' := 12) rfl rfl ?_
    refine Run.iloadN K d8_12 (pc' := 13) rfl rfl ?_
    refine Run.iadd K d8_13 (pc' := 14) rfl ?_
    refine Run.icmpF K d8_14 (pT := 43) (pF := 17) (by decide) (by decide) rfl (show ¬ (((Int32.ofNat o) + (Int32.ofNat k0)) ≤ (Int32.ofNat (o + k))) from by rw [own_add, own_le (by omega) (by omega)]; omega) ?_
    refine Run.iload K d8_17 (pc' := 19) rfl rfl ?_
    refine Run.aloadN K d8_19 (pc' := 20) rfl rfl rfl ?_
    refine Run.iload K d8_20 (pc' := 22) rfl rfl ?_
    refine Run.baload K d8_22 (pc' := 23) rfl (i := 0) (q := (o + k)) rfl (own_nn (by omega)) (own_clamp (by omega)) (v := (.int (bs.getD (o + k) 0))) (own_at (by omega)) ?_
    refine Run.sipush K d8_23 (pc' := 26) rfl (v := (255 : Int32)) rfl ?_
    refine Run.iand K d8_26 (pc' := 27) rfl ?_
    refine Run.iadd K d8_27 (pc' := 28) rfl ?_
    refine Run.istore K d8_28 (pc' := 30) rfl (L' := #[.val (.ref a1), .val (.ref a2), .val (.int (Int32.ofNat o)), .val (.int (Int32.ofNat k0)), .val (.int ((own_A bs o k) + ((bs.getD (o + k) 0) &&& (255 : Int32)))), .val (.int (own_B bs o k)), .val (.int (Int32.ofNat (o + k)))]) rfl ?_
    refine Run.iload K d8_30 (pc' := 32) rfl rfl ?_
    refine Run.iload K d8_32 (pc' := 34) rfl rfl ?_
    refine Run.iadd K d8_34 (pc' := 35) rfl ?_
    refine Run.istore K d8_35 (pc' := 37) rfl (L' := #[.val (.ref a1), .val (.ref a2), .val (.int (Int32.ofNat o)), .val (.int (Int32.ofNat k0)), .val (.int ((own_A bs o k) + ((bs.getD (o + k) 0) &&& (255 : Int32)))), .val (.int ((own_B bs o k) + ((own_A bs o k) + ((bs.getD (o + k) 0) &&& (255 : Int32))))), .val (.int (Int32.ofNat (o + k)))]) rfl ?_
    refine Run.iinc K d8_37 (pc' := 40) rfl rfl (L' := #[.val (.ref a1), .val (.ref a2), .val (.int (Int32.ofNat o)), .val (.int (Int32.ofNat k0)), .val (.int ((own_A bs o k) + ((bs.getD (o + k) 0) &&& (255 : Int32)))), .val (.int ((own_B bs o k) + ((own_A bs o k) + ((bs.getD (o + k) 0) &&& (255 : Int32))))), .val (.int ((Int32.ofNat (o + k)) + (1 : Int32)))]) rfl ?_
    refine Run.goto K d8_40 (pc' := 9) (by decide) (by decide) ?_
    refine Run.asL (L' := #[.val (.ref a1), .val (.ref a2), .val (.int (Int32.ofNat o)), .val (.int (Int32.ofNat k0)), .val (.int (own_A bs o (k + 1))), .val (.int (own_B bs o (k + 1))), .val (.int (Int32.ofNat (o + (k + 1))))]) (by rw [own_succ]; rfl) ?_
    exact ih (k + 1) (by omega)
theorem d10_0 : decode prog_63_method_6_code 0 = .ok (.iload_n 1, 1) := by decide +kernel
theorem d10_1 : decode prog_63_method_6_code 1 = .ok (.bipush 16, 2) := by decide +kernel
theorem d10_3 : decode prog_63_method_6_code 3 = .ok (.ishl, 1) := by decide +kernel
theorem d10_4 : decode prog_63_method_6_code 4 = .ok (.iload_n 0, 1) := by decide +kernel
theorem d10_5 : decode prog_63_method_6_code 5 = .ok (.ldc 38, 2) := by decide +kernel
theorem d10_7 : decode prog_63_method_6_code 7 = .ok (.iand, 1) := by decide +kernel
theorem d10_8 : decode prog_63_method_6_code 8 = .ok (.ior, 1) := by decide +kernel
theorem d10_9 : decode prog_63_method_6_code 9 = .ok (.ireturn, 1) := by decide +kernel
set_option maxRecDepth 65536 in
set_option maxHeartbeats 40000000 in
theorem rm10 (l : Launch) (Z : State) (a0 : Array Value) (n0 : Nat) (hw : ∀ d ∈ tables_1, d.before a0 Z = true) (ws : List Jvm.Cond) (p1 : Int32) (p2 : Int32) (Ob : List OObj) (Ax : List OArr) : Con l Z a0 n0 ws (⟨"com/example/ferrywire/ferrywire/core/RollingSum", "sum", "(II)I"⟩ : MethodName) prog_63_method_6_code 2 (some .int) ({ frames := 0, cells := 0, slots := 0, locals := 0 } : Room) #[(.int p1), (.int p2)] (Ob, Ax) (Ret (some (.int ((p2 <<< ((16 : Int32) &&& 31)) ||| (p1 &&& (65535 : Int32))))) (Ob, Ax)) := by
  refine Con.of_run (plainFor_of_name pn_3) (L0 := #[.val (.int p1), .val (.int p2)]) (fun m => by first | (simp [entryFrame, mkF, argsToLocals, Value.category]; done) | rfl) ?_
  intro p e s m below meth c K
  refine Run.iloadN K d10_0 (pc' := 1) rfl rfl ?_
  refine Run.bipush K d10_1 (pc' := 3) rfl (v := (16 : Int32)) rfl ?_
  refine Run.ishl K d10_3 (pc' := 4) rfl ?_
  refine Run.iloadN K d10_4 (pc' := 5) rfl rfl ?_
  refine Run.ldcI K d10_5 (pc' := 7) rfl (v := (65535 : Int32)) (hw _ (List.mem_of_getElem? (i := 75) rfl)) ?_
  refine Run.iand K d10_7 (pc' := 8) rfl ?_
  refine Run.ior K d10_8 (pc' := 9) rfl ?_
  exact Run.retI K d10_9 rfl (by decide) (by decide) ⟨rfl, rfl⟩
theorem d9_0 : decode prog_63_method_5_code 0 = .ok (.aload_n 0, 1) := by decide +kernel
theorem d9_1 : decode prog_63_method_5_code 1 = .ok (.getfield 22, 3) := by decide +kernel
theorem d9_4 : decode prog_63_method_5_code 4 = .ok (.aload_n 0, 1) := by decide +kernel
theorem d9_5 : decode prog_63_method_5_code 5 = .ok (.getfield 25, 3) := by decide +kernel
theorem d9_8 : decode prog_63_method_5_code 8 = .ok (.invokestatic 28, 3) := by decide +kernel
theorem d9_11 : decode prog_63_method_5_code 11 = .ok (.ireturn, 1) := by decide +kernel
set_option maxRecDepth 65536 in
set_option maxHeartbeats 40000000 in
theorem rm9 (l : Launch) (Z : State) (a0 : Array Value) (n0 : Nat) (hw : ∀ d ∈ tables_1, d.before a0 Z = true) (ws : List Jvm.Cond) (a1 : Addr) (a1_length : Int32) (a1_a : Int32) (a1_b : Int32) (Ob : List OObj) (Ax : List OArr) : Con l Z a0 n0 ws (⟨"com/example/ferrywire/ferrywire/core/RollingSum", "value", "()I"⟩ : MethodName) prog_63_method_5_code 1 (some .int) ({ frames := 1, cells := 0, slots := 0, locals := 13 } : Room) #[(.ref a1)] ((a1, "com/example/ferrywire/ferrywire/core/RollingSum", [("com/example/ferrywire/ferrywire/core/RollingSum", "length", "I", (.int a1_length)), ("com/example/ferrywire/ferrywire/core/RollingSum", "a", "I", (.int a1_a)), ("com/example/ferrywire/ferrywire/core/RollingSum", "b", "I", (.int a1_b))]) :: Ob, Ax) (Ret (some (.int ((a1_b <<< ((16 : Int32) &&& 31)) ||| (a1_a &&& (65535 : Int32))))) ((a1, "com/example/ferrywire/ferrywire/core/RollingSum", [("com/example/ferrywire/ferrywire/core/RollingSum", "length", "I", (.int a1_length)), ("com/example/ferrywire/ferrywire/core/RollingSum", "a", "I", (.int a1_a)), ("com/example/ferrywire/ferrywire/core/RollingSum", "b", "I", (.int a1_b))]) :: Ob, Ax)) := by
  refine Con.of_run (plainFor_of_name pn_3) (L0 := #[.val (.ref a1)]) (fun m => by first | (simp [entryFrame, mkF, argsToLocals, Value.category]; done) | rfl) ?_
  intro p e s m below meth c K
  refine Run.aloadN K d9_0 (pc' := 1) rfl rfl rfl ?_
  refine Run.getF K d9_1 (pc' := 4) rfl (hw _ (List.mem_of_getElem? (i := 63) rfl)) (i := 0) (j := 1) rfl rfl ?_
  refine Run.aloadN K d9_4 (pc' := 5) rfl rfl rfl ?_
  refine Run.getF K d9_5 (pc' := 8) rfl (hw _ (List.mem_of_getElem? (i := 65) rfl)) (i := 0) (j := 2) rfl rfl ?_
  refine Run.callS K d9_8 (pc' := 11) rfl (hw _ (List.mem_of_getElem? (i := 72) rfl)) (hw _ (List.mem_of_getElem? (i := 73) rfl)) (hw _ (List.mem_of_getElem? (i := 51) rfl)) (hw _ (List.mem_of_getElem? (i := 74) rfl)) (by decide) (rm10 l Z a0 n0 hw [] (a1_a) (a1_b) ((a1, "com/example/ferrywire/ferrywire/core/RollingSum", [("com/example/ferrywire/ferrywire/core/RollingSum", "length", "I", (.int a1_length)), ("com/example/ferrywire/ferrywire/core/RollingSum", "a", "I", (.int a1_a)), ("com/example/ferrywire/ferrywire/core/RollingSum", "b", "I", (.int a1_b))]) :: Ob) (Ax) ) (argsL := [(.int a1_a), (.int a1_b)]) (rest := []) rfl rfl pd_0 rfl (W := 0) rfl (by decide) (by decide) (cells' := 0) (slots' := 0) rfl rfl (by decide) (by decide) (Ret.k (S' := [(.int ((a1_b <<< ((16 : Int32) &&& 31)) ||| (a1_a &&& (65535 : Int32))))]) rfl ?_)
  refine Run.as (D' := ((a1, "com/example/ferrywire/ferrywire/core/RollingSum", [("com/example/ferrywire/ferrywire/core/RollingSum", "length", "I", (.int a1_length)), ("com/example/ferrywire/ferrywire/core/RollingSum", "a", "I", (.int a1_a)), ("com/example/ferrywire/ferrywire/core/RollingSum", "b", "I", (.int a1_b))]) :: Ob, Ax)) rfl ?_
  exact Run.retI K d9_11 rfl (by decide) (by decide) ⟨rfl, rfl⟩
theorem d12_0 : decode method_2_code 0 = .ok (.iload_n 3, 1) := by decide +kernel
theorem d12_1 : decode method_2_code 1 = .ok (.iload_n 2, 1) := by decide +kernel
theorem d12_2 : decode method_2_code 2 = .ok (.if_icmp .ge 15, 3) := by decide +kernel
theorem d12_5 : decode method_2_code 5 = .ok (.aload_n 0, 1) := by decide +kernel
theorem d12_6 : decode method_2_code 6 = .ok (.iload_n 1, 1) := by decide +kernel
theorem d12_7 : decode method_2_code 7 = .ok (.iload_n 3, 1) := by decide +kernel
theorem d12_8 : decode method_2_code 8 = .ok (.iadd, 1) := by decide +kernel
theorem d12_9 : decode method_2_code 9 = .ok (.baload, 1) := by decide +kernel
theorem d12_10 : decode method_2_code 10 = .ok (.sipush 255, 3) := by decide +kernel
theorem d12_13 : decode method_2_code 13 = .ok (.iand, 1) := by decide +kernel
theorem d12_14 : decode method_2_code 14 = .ok (.goto 4, 3) := by decide +kernel
theorem d12_17 : decode method_2_code 17 = .ok (.iconst 0, 1) := by decide +kernel
theorem d12_18 : decode method_2_code 18 = .ok (.ireturn, 1) := by decide +kernel
theorem pn_4 : plainName "com/example/ferrywire/ferrywire/core/RollingSumStartPinLaw" = true := by first | (simp [plainName, overriddenIn]; done) | decide +kernel
set_option maxRecDepth 65536 in
set_option maxHeartbeats 40000000 in
theorem rm12 (l : Launch) (Z : State) (a0 : Array Value) (n0 : Nat) (hw : ∀ d ∈ tables_1, d.before a0 Z = true) (ws : List Jvm.Cond) (a2 : Addr) (p1 : Int32) (p2 : Int32) (p3 : Int32) (bs : List Int32) (o : Nat) (l0 : Nat) (i : Nat) (Ob : List OObj) (Ax : List OArr) (e1 : p1 = Int32.ofNat o) (e2 : p2 = Int32.ofNat l0) (e3 : p3 = Int32.ofNat i) (hl : o + l0 ≤ bs.length) (hb : bs.length ≤ 8) (hi : i < 8) : Con l Z a0 n0 ws (⟨"com/example/ferrywire/ferrywire/core/RollingSumStartPinLaw", "u", "([BIII)I"⟩ : MethodName) method_2_code 4 (some .int) ({ frames := 0, cells := 0, slots := 0, locals := 0 } : Room) #[(.ref a2), (.int p1), (.int p2), (.int p3)] (Ob, (a2, .byte, (bs.map Value.int)) :: Ax) (Ret (some (.int (own_u bs o l0 i))) (Ob, (a2, .byte, (bs.map Value.int)) :: Ax)) := by
  refine Con.of_run (plainFor_of_name pn_4) (L0 := #[.val (.ref a2), .val (.int p1), .val (.int p2), .val (.int p3)]) (fun m => by first | (simp [entryFrame, mkF, argsToLocals, Value.category]; done) | rfl) ?_
  intro p e s m below meth c K
  refine Run.iloadN K d12_0 (pc' := 1) rfl rfl ?_
  refine Run.iloadN K d12_1 (pc' := 2) rfl rfl ?_
  refine Run.icmp K d12_2 (pT := 17) (pF := 5) (by decide) (by decide) rfl (fun (h2_35 : p2 ≤ p3) => ?_) (fun (h2_35 : ¬ (p2 ≤ p3)) => ?_)
  · skip
    refine Run.iconst K d12_17 (pc' := 18) rfl (v := (0 : Int32)) rfl ?_
    exact Run.retI K d12_18 rfl (by decide) (by decide) ⟨congrArg (fun z => some (Value.int z)) (own_ub e2 e3 hl hb hi h2_35), rfl⟩
  · skip
    refine Run.aloadN K d12_5 (pc' := 6) rfl rfl rfl ?_
    refine Run.iloadN K d12_6 (pc' := 7) rfl rfl ?_
    refine Run.iloadN K d12_7 (pc' := 8) rfl rfl ?_
    refine Run.iadd K d12_8 (pc' := 9) rfl ?_
    refine Run.baload K d12_9 (pc' := 10) rfl (i := 0) (q := (o + i)) rfl (by rw [e1, e3, own_add]; exact own_nn (by omega)) (by rw [e1, e3, own_add]; exact own_clamp (by omega)) (v := (.int (bs.getD (o + i) 0))) (own_at (own_ul e2 e3 hl hb hi h2_35)) ?_
    refine Run.sipush K d12_10 (pc' := 13) rfl (v := (255 : Int32)) rfl ?_
    refine Run.iand K d12_13 (pc' := 14) rfl ?_
    refine Run.goto K d12_14 (pc' := 18) (by decide) (by decide) ?_
    exact Run.retI K d12_18 rfl (by decide) (by decide) ⟨congrArg (fun z => some (Value.int z)) (own_ua e2 e3 hl hb hi h2_35), rfl⟩
theorem d11_0 : decode method_3_code 0 = .ok (.aload_n 0, 1) := by decide +kernel
theorem d11_1 : decode method_3_code 1 = .ok (.iload_n 1, 1) := by decide +kernel
theorem d11_2 : decode method_3_code 2 = .ok (.iload_n 2, 1) := by decide +kernel
theorem d11_3 : decode method_3_code 3 = .ok (.iconst 0, 1) := by decide +kernel
theorem d11_4 : decode method_3_code 4 = .ok (.invokestatic 7, 3) := by decide +kernel
theorem d11_7 : decode method_3_code 7 = .ok (.istore_n 3, 1) := by decide +kernel
theorem d11_8 : decode method_3_code 8 = .ok (.aload_n 0, 1) := by decide +kernel
theorem d11_9 : decode method_3_code 9 = .ok (.iload_n 1, 1) := by decide +kernel
theorem d11_10 : decode method_3_code 10 = .ok (.iload_n 2, 1) := by decide +kernel
theorem d11_11 : decode method_3_code 11 = .ok (.iconst 1, 1) := by decide +kernel
theorem d11_12 : decode method_3_code 12 = .ok (.invokestatic 7, 3) := by decide +kernel
theorem d11_15 : decode method_3_code 15 = .ok (.istore 4, 2) := by decide +kernel
theorem d11_17 : decode method_3_code 17 = .ok (.aload_n 0, 1) := by decide +kernel
theorem d11_18 : decode method_3_code 18 = .ok (.iload_n 1, 1) := by decide +kernel
theorem d11_19 : decode method_3_code 19 = .ok (.iload_n 2, 1) := by decide +kernel
theorem d11_20 : decode method_3_code 20 = .ok (.iconst 2, 1) := by decide +kernel
theorem d11_21 : decode method_3_code 21 = .ok (.invokestatic 7, 3) := by decide +kernel
theorem d11_24 : decode method_3_code 24 = .ok (.istore 5, 2) := by decide +kernel
theorem d11_26 : decode method_3_code 26 = .ok (.aload_n 0, 1) := by decide +kernel
theorem d11_27 : decode method_3_code 27 = .ok (.iload_n 1, 1) := by decide +kernel
theorem d11_28 : decode method_3_code 28 = .ok (.iload_n 2, 1) := by decide +kernel
theorem d11_29 : decode method_3_code 29 = .ok (.iconst 3, 1) := by decide +kernel
theorem d11_30 : decode method_3_code 30 = .ok (.invokestatic 7, 3) := by decide +kernel
theorem d11_33 : decode method_3_code 33 = .ok (.istore 6, 2) := by decide +kernel
theorem d11_35 : decode method_3_code 35 = .ok (.aload_n 0, 1) := by decide +kernel
theorem d11_36 : decode method_3_code 36 = .ok (.iload_n 1, 1) := by decide +kernel
theorem d11_37 : decode method_3_code 37 = .ok (.iload_n 2, 1) := by decide +kernel
theorem d11_38 : decode method_3_code 38 = .ok (.iconst 4, 1) := by decide +kernel
theorem d11_39 : decode method_3_code 39 = .ok (.invokestatic 7, 3) := by decide +kernel
theorem d11_42 : decode method_3_code 42 = .ok (.istore 7, 2) := by decide +kernel
theorem d11_44 : decode method_3_code 44 = .ok (.aload_n 0, 1) := by decide +kernel
theorem d11_45 : decode method_3_code 45 = .ok (.iload_n 1, 1) := by decide +kernel
theorem d11_46 : decode method_3_code 46 = .ok (.iload_n 2, 1) := by decide +kernel
theorem d11_47 : decode method_3_code 47 = .ok (.iconst 5, 1) := by decide +kernel
theorem d11_48 : decode method_3_code 48 = .ok (.invokestatic 7, 3) := by decide +kernel
theorem d11_51 : decode method_3_code 51 = .ok (.istore 8, 2) := by decide +kernel
theorem d11_53 : decode method_3_code 53 = .ok (.aload_n 0, 1) := by decide +kernel
theorem d11_54 : decode method_3_code 54 = .ok (.iload_n 1, 1) := by decide +kernel
theorem d11_55 : decode method_3_code 55 = .ok (.iload_n 2, 1) := by decide +kernel
theorem d11_56 : decode method_3_code 56 = .ok (.bipush 6, 2) := by decide +kernel
theorem d11_58 : decode method_3_code 58 = .ok (.invokestatic 7, 3) := by decide +kernel
theorem d11_61 : decode method_3_code 61 = .ok (.istore 9, 2) := by decide +kernel
theorem d11_63 : decode method_3_code 63 = .ok (.aload_n 0, 1) := by decide +kernel
theorem d11_64 : decode method_3_code 64 = .ok (.iload_n 1, 1) := by decide +kernel
theorem d11_65 : decode method_3_code 65 = .ok (.iload_n 2, 1) := by decide +kernel
theorem d11_66 : decode method_3_code 66 = .ok (.bipush 7, 2) := by decide +kernel
theorem d11_68 : decode method_3_code 68 = .ok (.invokestatic 7, 3) := by decide +kernel
theorem d11_71 : decode method_3_code 71 = .ok (.istore 10, 2) := by decide +kernel
theorem d11_73 : decode method_3_code 73 = .ok (.iload_n 3, 1) := by decide +kernel
theorem d11_74 : decode method_3_code 74 = .ok (.iload 4, 2) := by decide +kernel
theorem d11_76 : decode method_3_code 76 = .ok (.iadd, 1) := by decide +kernel
theorem d11_77 : decode method_3_code 77 = .ok (.iload 5, 2) := by decide +kernel
theorem d11_79 : decode method_3_code 79 = .ok (.iadd, 1) := by decide +kernel
theorem d11_80 : decode method_3_code 80 = .ok (.iload 6, 2) := by decide +kernel
theorem d11_82 : decode method_3_code 82 = .ok (.iadd, 1) := by decide +kernel
theorem d11_83 : decode method_3_code 83 = .ok (.iload 7, 2) := by decide +kernel
theorem d11_85 : decode method_3_code 85 = .ok (.iadd, 1) := by decide +kernel
theorem d11_86 : decode method_3_code 86 = .ok (.iload 8, 2) := by decide +kernel
theorem d11_88 : decode method_3_code 88 = .ok (.iadd, 1) := by decide +kernel
theorem d11_89 : decode method_3_code 89 = .ok (.iload 9, 2) := by decide +kernel
theorem d11_91 : decode method_3_code 91 = .ok (.iadd, 1) := by decide +kernel
theorem d11_92 : decode method_3_code 92 = .ok (.iload 10, 2) := by decide +kernel
theorem d11_94 : decode method_3_code 94 = .ok (.iadd, 1) := by decide +kernel
theorem d11_95 : decode method_3_code 95 = .ok (.istore 11, 2) := by decide +kernel
theorem d11_97 : decode method_3_code 97 = .ok (.iload_n 2, 1) := by decide +kernel
theorem d11_98 : decode method_3_code 98 = .ok (.iload_n 3, 1) := by decide +kernel
theorem d11_99 : decode method_3_code 99 = .ok (.imul, 1) := by decide +kernel
theorem d11_100 : decode method_3_code 100 = .ok (.iload_n 2, 1) := by decide +kernel
theorem d11_101 : decode method_3_code 101 = .ok (.iconst 1, 1) := by decide +kernel
theorem d11_102 : decode method_3_code 102 = .ok (.isub, 1) := by decide +kernel
theorem d11_103 : decode method_3_code 103 = .ok (.iload 4, 2) := by decide +kernel
theorem d11_105 : decode method_3_code 105 = .ok (.imul, 1) := by decide +kernel
theorem d11_106 : decode method_3_code 106 = .ok (.iadd, 1) := by decide +kernel
theorem d11_107 : decode method_3_code 107 = .ok (.iload_n 2, 1) := by decide +kernel
theorem d11_108 : decode method_3_code 108 = .ok (.iconst 2, 1) := by decide +kernel
theorem d11_109 : decode method_3_code 109 = .ok (.isub, 1) := by decide +kernel
theorem d11_110 : decode method_3_code 110 = .ok (.iload 5, 2) := by decide +kernel
theorem d11_112 : decode method_3_code 112 = .ok (.imul, 1) := by decide +kernel
theorem d11_113 : decode method_3_code 113 = .ok (.iadd, 1) := by decide +kernel
theorem d11_114 : decode method_3_code 114 = .ok (.iload_n 2, 1) := by decide +kernel
theorem d11_115 : decode method_3_code 115 = .ok (.iconst 3, 1) := by decide +kernel
theorem d11_116 : decode method_3_code 116 = .ok (.isub, 1) := by decide +kernel
theorem d11_117 : decode method_3_code 117 = .ok (.iload 6, 2) := by decide +kernel
theorem d11_119 : decode method_3_code 119 = .ok (.imul, 1) := by decide +kernel
theorem d11_120 : decode method_3_code 120 = .ok (.iadd, 1) := by decide +kernel
theorem d11_121 : decode method_3_code 121 = .ok (.iload_n 2, 1) := by decide +kernel
theorem d11_122 : decode method_3_code 122 = .ok (.iconst 4, 1) := by decide +kernel
theorem d11_123 : decode method_3_code 123 = .ok (.isub, 1) := by decide +kernel
theorem d11_124 : decode method_3_code 124 = .ok (.iload 7, 2) := by decide +kernel
theorem d11_126 : decode method_3_code 126 = .ok (.imul, 1) := by decide +kernel
theorem d11_127 : decode method_3_code 127 = .ok (.iadd, 1) := by decide +kernel
theorem d11_128 : decode method_3_code 128 = .ok (.iload_n 2, 1) := by decide +kernel
theorem d11_129 : decode method_3_code 129 = .ok (.iconst 5, 1) := by decide +kernel
theorem d11_130 : decode method_3_code 130 = .ok (.isub, 1) := by decide +kernel
theorem d11_131 : decode method_3_code 131 = .ok (.iload 8, 2) := by decide +kernel
theorem d11_133 : decode method_3_code 133 = .ok (.imul, 1) := by decide +kernel
theorem d11_134 : decode method_3_code 134 = .ok (.iadd, 1) := by decide +kernel
theorem d11_135 : decode method_3_code 135 = .ok (.iload_n 2, 1) := by decide +kernel
theorem d11_136 : decode method_3_code 136 = .ok (.bipush 6, 2) := by decide +kernel
theorem d11_138 : decode method_3_code 138 = .ok (.isub, 1) := by decide +kernel
theorem d11_139 : decode method_3_code 139 = .ok (.iload 9, 2) := by decide +kernel
theorem d11_141 : decode method_3_code 141 = .ok (.imul, 1) := by decide +kernel
theorem d11_142 : decode method_3_code 142 = .ok (.iadd, 1) := by decide +kernel
theorem d11_143 : decode method_3_code 143 = .ok (.iload_n 2, 1) := by decide +kernel
theorem d11_144 : decode method_3_code 144 = .ok (.bipush 7, 2) := by decide +kernel
theorem d11_146 : decode method_3_code 146 = .ok (.isub, 1) := by decide +kernel
theorem d11_147 : decode method_3_code 147 = .ok (.iload 10, 2) := by decide +kernel
theorem d11_149 : decode method_3_code 149 = .ok (.imul, 1) := by decide +kernel
theorem d11_150 : decode method_3_code 150 = .ok (.iadd, 1) := by decide +kernel
theorem d11_151 : decode method_3_code 151 = .ok (.istore 12, 2) := by decide +kernel
theorem d11_153 : decode method_3_code 153 = .ok (.iload 12, 2) := by decide +kernel
theorem d11_155 : decode method_3_code 155 = .ok (.bipush 16, 2) := by decide +kernel
theorem d11_157 : decode method_3_code 157 = .ok (.ishl, 1) := by decide +kernel
theorem d11_158 : decode method_3_code 158 = .ok (.iload 11, 2) := by decide +kernel
theorem d11_160 : decode method_3_code 160 = .ok (.ldc 13, 2) := by decide +kernel
theorem d11_162 : decode method_3_code 162 = .ok (.iand, 1) := by decide +kernel
theorem d11_163 : decode method_3_code 163 = .ok (.ior, 1) := by decide +kernel
theorem d11_164 : decode method_3_code 164 = .ok (.ireturn, 1) := by decide +kernel
theorem pd_2 : parseMethodDescriptor "([BIII)I" = some ⟨[(.array .byte), .int, .int, .int], some .int⟩ := by decide +kernel
set_option maxRecDepth 65536 in
set_option maxHeartbeats 40000000 in
theorem rm11 (l : Launch) (Z : State) (a0 : Array Value) (n0 : Nat) (hw : ∀ d ∈ tables_1, d.before a0 Z = true) (ws : List Jvm.Cond) (a2 : Addr) (p1 : Int32) (p2 : Int32) (bs : List Int32) (o : Nat) (l0 : Nat) (Ob : List OObj) (Ax : List OArr) (e1 : p1 = Int32.ofNat o) (e2 : p2 = Int32.ofNat l0) (hl : o + l0 ≤ bs.length) (hb : bs.length ≤ 8) : Con l Z a0 n0 ws (⟨"com/example/ferrywire/ferrywire/core/RollingSumStartPinLaw", "weak", "([BII)I"⟩ : MethodName) method_3_code 13 (some .int) ({ frames := 1, cells := 0, slots := 0, locals := 15 } : Room) #[(.ref a2), (.int p1), (.int p2)] (Ob, (a2, .byte, (bs.map Value.int)) :: Ax) (Ret (some (.int ((((((((((p2 * (own_u bs o l0 0)) + ((p2 - (1 : Int32)) * (own_u bs o l0 1))) + ((p2 - (2 : Int32)) * (own_u bs o l0 2))) + ((p2 - (3 : Int32)) * (own_u bs o l0 3))) + ((p2 - (4 : Int32)) * (own_u bs o l0 4))) + ((p2 - (5 : Int32)) * (own_u bs o l0 5))) + ((p2 - (6 : Int32)) * (own_u bs o l0 6))) + ((p2 - (7 : Int32)) * (own_u bs o l0 7))) <<< ((16 : Int32) &&& 31)) ||| (((((((((own_u bs o l0 0) + (own_u bs o l0 1)) + (own_u bs o l0 2)) + (own_u bs o l0 3)) + (own_u bs o l0 4)) + (own_u bs o l0 5)) + (own_u bs o l0 6)) + (own_u bs o l0 7)) &&& (65535 : Int32))))) (Ob, (a2, .byte, (bs.map Value.int)) :: Ax)) := by
  refine Con.of_run (plainFor_of_name pn_4) (L0 := #[.val (.ref a2), .val (.int p1), .val (.int p2), .unset, .unset, .unset, .unset, .unset, .unset, .unset, .unset, .unset, .unset]) (fun m => by first | (simp [entryFrame, mkF, argsToLocals, Value.category]; done) | rfl) ?_
  intro p e s m below meth c K
  refine Run.aloadN K d11_0 (pc' := 1) rfl rfl rfl ?_
  refine Run.iloadN K d11_1 (pc' := 2) rfl rfl ?_
  refine Run.iloadN K d11_2 (pc' := 3) rfl rfl ?_
  refine Run.iconst K d11_3 (pc' := 4) rfl (v := (0 : Int32)) rfl ?_
  refine Run.callS K d11_4 (pc' := 7) rfl (hw _ (List.mem_of_getElem? (i := 80) rfl)) (hw _ (List.mem_of_getElem? (i := 81) rfl)) (hw _ (List.mem_of_getElem? (i := 78) rfl)) (hw _ (List.mem_of_getElem? (i := 82) rfl)) (by decide) (rm12 l Z a0 n0 hw [] (a2) (p1) (p2) ((0 : Int32)) (bs) (o) (l0) (0) (Ob) (Ax) (e1) (e2) (rfl) (hl) (hb) (by decide)) (argsL := [(.ref a2), (.int p1), (.int p2), (.int (0 : Int32))]) (rest := []) rfl rfl pd_2 rfl (W := 0) rfl (by decide) (by decide) (cells' := 0) (slots' := 0) rfl rfl (by decide) (by decide) (Ret.k (S' := [(.int (own_u bs o l0 0))]) rfl ?_)
  refine Run.as (D' := (Ob, (a2, .byte, (bs.map Value.int)) :: Ax)) rfl ?_
  refine Run.istoreN K d11_7 (pc' := 8) rfl (L' := #[.val (.ref a2), .val (.int p1), .val (.int p2), .val (.int (own_u bs o l0 0)), .unset, .unset, .unset, .unset, .unset, .unset, .unset, .unset, .unset]) rfl ?_
  refine Run.aloadN K d11_8 (pc' := 9) rfl rfl rfl ?_
  refine Run.iloadN K d11_9 (pc' := 10) rfl rfl ?_
  refine Run.iloadN K d11_10 (pc' := 11) rfl rfl ?_
  refine Run.iconst K d11_11 (pc' := 12) rfl (v := (1 : Int32)) rfl ?_
  refine Run.callS K d11_12 (pc' := 15) rfl (hw _ (List.mem_of_getElem? (i := 80) rfl)) (hw _ (List.mem_of_getElem? (i := 81) rfl)) (hw _ (List.mem_of_getElem? (i := 78) rfl)) (hw _ (List.mem_of_getElem? (i := 82) rfl)) (by decide) (rm12 l Z a0 n0 hw [] (a2) (p1) (p2) ((1 : Int32)) (bs) (o) (l0) (1) (Ob) (Ax) (e1) (e2) (rfl) (hl) (hb) (by decide)) (argsL := [(.ref a2), (.int p1), (.int p2), (.int (1 : Int32))]) (rest := []) rfl rfl pd_2 rfl (W := 0) rfl (by decide) (by decide) (cells' := 0) (slots' := 0) rfl rfl (by decide) (by decide) (Ret.k (S' := [(.int (own_u bs o l0 1))]) rfl ?_)
  refine Run.as (D' := (Ob, (a2, .byte, (bs.map Value.int)) :: Ax)) rfl ?_
  refine Run.istore K d11_15 (pc' := 17) rfl (L' := #[.val (.ref a2), .val (.int p1), .val (.int p2), .val (.int (own_u bs o l0 0)), .val (.int (own_u bs o l0 1)), .unset, .unset, .unset, .unset, .unset, .unset, .unset, .unset]) rfl ?_
  refine Run.aloadN K d11_17 (pc' := 18) rfl rfl rfl ?_
  refine Run.iloadN K d11_18 (pc' := 19) rfl rfl ?_
  refine Run.iloadN K d11_19 (pc' := 20) rfl rfl ?_
  refine Run.iconst K d11_20 (pc' := 21) rfl (v := (2 : Int32)) rfl ?_
  refine Run.callS K d11_21 (pc' := 24) rfl (hw _ (List.mem_of_getElem? (i := 80) rfl)) (hw _ (List.mem_of_getElem? (i := 81) rfl)) (hw _ (List.mem_of_getElem? (i := 78) rfl)) (hw _ (List.mem_of_getElem? (i := 82) rfl)) (by decide) (rm12 l Z a0 n0 hw [] (a2) (p1) (p2) ((2 : Int32)) (bs) (o) (l0) (2) (Ob) (Ax) (e1) (e2) (rfl) (hl) (hb) (by decide)) (argsL := [(.ref a2), (.int p1), (.int p2), (.int (2 : Int32))]) (rest := []) rfl rfl pd_2 rfl (W := 0) rfl (by decide) (by decide) (cells' := 0) (slots' := 0) rfl rfl (by decide) (by decide) (Ret.k (S' := [(.int (own_u bs o l0 2))]) rfl ?_)
  refine Run.as (D' := (Ob, (a2, .byte, (bs.map Value.int)) :: Ax)) rfl ?_
  refine Run.istore K d11_24 (pc' := 26) rfl (L' := #[.val (.ref a2), .val (.int p1), .val (.int p2), .val (.int (own_u bs o l0 0)), .val (.int (own_u bs o l0 1)), .val (.int (own_u bs o l0 2)), .unset, .unset, .unset, .unset, .unset, .unset, .unset]) rfl ?_
  refine Run.aloadN K d11_26 (pc' := 27) rfl rfl rfl ?_
  refine Run.iloadN K d11_27 (pc' := 28) rfl rfl ?_
  refine Run.iloadN K d11_28 (pc' := 29) rfl rfl ?_
  refine Run.iconst K d11_29 (pc' := 30) rfl (v := (3 : Int32)) rfl ?_
  refine Run.callS K d11_30 (pc' := 33) rfl (hw _ (List.mem_of_getElem? (i := 80) rfl)) (hw _ (List.mem_of_getElem? (i := 81) rfl)) (hw _ (List.mem_of_getElem? (i := 78) rfl)) (hw _ (List.mem_of_getElem? (i := 82) rfl)) (by decide) (rm12 l Z a0 n0 hw [] (a2) (p1) (p2) ((3 : Int32)) (bs) (o) (l0) (3) (Ob) (Ax) (e1) (e2) (rfl) (hl) (hb) (by decide)) (argsL := [(.ref a2), (.int p1), (.int p2), (.int (3 : Int32))]) (rest := []) rfl rfl pd_2 rfl (W := 0) rfl (by decide) (by decide) (cells' := 0) (slots' := 0) rfl rfl (by decide) (by decide) (Ret.k (S' := [(.int (own_u bs o l0 3))]) rfl ?_)
  refine Run.as (D' := (Ob, (a2, .byte, (bs.map Value.int)) :: Ax)) rfl ?_
  refine Run.istore K d11_33 (pc' := 35) rfl (L' := #[.val (.ref a2), .val (.int p1), .val (.int p2), .val (.int (own_u bs o l0 0)), .val (.int (own_u bs o l0 1)), .val (.int (own_u bs o l0 2)), .val (.int (own_u bs o l0 3)), .unset, .unset, .unset, .unset, .unset, .unset]) rfl ?_
  refine Run.aloadN K d11_35 (pc' := 36) rfl rfl rfl ?_
  refine Run.iloadN K d11_36 (pc' := 37) rfl rfl ?_
  refine Run.iloadN K d11_37 (pc' := 38) rfl rfl ?_
  refine Run.iconst K d11_38 (pc' := 39) rfl (v := (4 : Int32)) rfl ?_
  refine Run.callS K d11_39 (pc' := 42) rfl (hw _ (List.mem_of_getElem? (i := 80) rfl)) (hw _ (List.mem_of_getElem? (i := 81) rfl)) (hw _ (List.mem_of_getElem? (i := 78) rfl)) (hw _ (List.mem_of_getElem? (i := 82) rfl)) (by decide) (rm12 l Z a0 n0 hw [] (a2) (p1) (p2) ((4 : Int32)) (bs) (o) (l0) (4) (Ob) (Ax) (e1) (e2) (rfl) (hl) (hb) (by decide)) (argsL := [(.ref a2), (.int p1), (.int p2), (.int (4 : Int32))]) (rest := []) rfl rfl pd_2 rfl (W := 0) rfl (by decide) (by decide) (cells' := 0) (slots' := 0) rfl rfl (by decide) (by decide) (Ret.k (S' := [(.int (own_u bs o l0 4))]) rfl ?_)
  refine Run.as (D' := (Ob, (a2, .byte, (bs.map Value.int)) :: Ax)) rfl ?_
  refine Run.istore K d11_42 (pc' := 44) rfl (L' := #[.val (.ref a2), .val (.int p1), .val (.int p2), .val (.int (own_u bs o l0 0)), .val (.int (own_u bs o l0 1)), .val (.int (own_u bs o l0 2)), .val (.int (own_u bs o l0 3)), .val (.int (own_u bs o l0 4)), .unset, .unset, .unset, .unset, .unset]) rfl ?_
  refine Run.aloadN K d11_44 (pc' := 45) rfl rfl rfl ?_
  refine Run.iloadN K d11_45 (pc' := 46) rfl rfl ?_
  refine Run.iloadN K d11_46 (pc' := 47) rfl rfl ?_
  refine Run.iconst K d11_47 (pc' := 48) rfl (v := (5 : Int32)) rfl ?_
  refine Run.callS K d11_48 (pc' := 51) rfl (hw _ (List.mem_of_getElem? (i := 80) rfl)) (hw _ (List.mem_of_getElem? (i := 81) rfl)) (hw _ (List.mem_of_getElem? (i := 78) rfl)) (hw _ (List.mem_of_getElem? (i := 82) rfl)) (by decide) (rm12 l Z a0 n0 hw [] (a2) (p1) (p2) ((5 : Int32)) (bs) (o) (l0) (5) (Ob) (Ax) (e1) (e2) (rfl) (hl) (hb) (by decide)) (argsL := [(.ref a2), (.int p1), (.int p2), (.int (5 : Int32))]) (rest := []) rfl rfl pd_2 rfl (W := 0) rfl (by decide) (by decide) (cells' := 0) (slots' := 0) rfl rfl (by decide) (by decide) (Ret.k (S' := [(.int (own_u bs o l0 5))]) rfl ?_)
  refine Run.as (D' := (Ob, (a2, .byte, (bs.map Value.int)) :: Ax)) rfl ?_
  refine Run.istore K d11_51 (pc' := 53) rfl (L' := #[.val (.ref a2), .val (.int p1), .val (.int p2), .val (.int (own_u bs o l0 0)), .val (.int (own_u bs o l0 1)), .val (.int (own_u bs o l0 2)), .val (.int (own_u bs o l0 3)), .val (.int (own_u bs o l0 4)), .val (.int (own_u bs o l0 5)), .unset, .unset, .unset, .unset]) rfl ?_
  refine Run.aloadN K d11_53 (pc' := 54) rfl rfl rfl ?_
  refine Run.iloadN K d11_54 (pc' := 55) rfl rfl ?_
  refine Run.iloadN K d11_55 (pc' := 56) rfl rfl ?_
  refine Run.bipush K d11_56 (pc' := 58) rfl (v := (6 : Int32)) rfl ?_
  refine Run.callS K d11_58 (pc' := 61) rfl (hw _ (List.mem_of_getElem? (i := 80) rfl)) (hw _ (List.mem_of_getElem? (i := 81) rfl)) (hw _ (List.mem_of_getElem? (i := 78) rfl)) (hw _ (List.mem_of_getElem? (i := 82) rfl)) (by decide) (rm12 l Z a0 n0 hw [] (a2) (p1) (p2) ((6 : Int32)) (bs) (o) (l0) (6) (Ob) (Ax) (e1) (e2) (rfl) (hl) (hb) (by decide)) (argsL := [(.ref a2), (.int p1), (.int p2), (.int (6 : Int32))]) (rest := []) rfl rfl pd_2 rfl (W := 0) rfl (by decide) (by decide) (cells' := 0) (slots' := 0) rfl rfl (by decide) (by decide) (Ret.k (S' := [(.int (own_u bs o l0 6))]) rfl ?_)
  refine Run.as (D' := (Ob, (a2, .byte, (bs.map Value.int)) :: Ax)) rfl ?_
  refine Run.istore K d11_61 (pc' := 63) rfl (L' := #[.val (.ref a2), .val (.int p1), .val (.int p2), .val (.int (own_u bs o l0 0)), .val (.int (own_u bs o l0 1)), .val (.int (own_u bs o l0 2)), .val (.int (own_u bs o l0 3)), .val (.int (own_u bs o l0 4)), .val (.int (own_u bs o l0 5)), .val (.int (own_u bs o l0 6)), .unset, .unset, .unset]) rfl ?_
  refine Run.aloadN K d11_63 (pc' := 64) rfl rfl rfl ?_
  refine Run.iloadN K d11_64 (pc' := 65) rfl rfl ?_
  refine Run.iloadN K d11_65 (pc' := 66) rfl rfl ?_
  refine Run.bipush K d11_66 (pc' := 68) rfl (v := (7 : Int32)) rfl ?_
  refine Run.callS K d11_68 (pc' := 71) rfl (hw _ (List.mem_of_getElem? (i := 80) rfl)) (hw _ (List.mem_of_getElem? (i := 81) rfl)) (hw _ (List.mem_of_getElem? (i := 78) rfl)) (hw _ (List.mem_of_getElem? (i := 82) rfl)) (by decide) (rm12 l Z a0 n0 hw [] (a2) (p1) (p2) ((7 : Int32)) (bs) (o) (l0) (7) (Ob) (Ax) (e1) (e2) (rfl) (hl) (hb) (by decide)) (argsL := [(.ref a2), (.int p1), (.int p2), (.int (7 : Int32))]) (rest := []) rfl rfl pd_2 rfl (W := 0) rfl (by decide) (by decide) (cells' := 0) (slots' := 0) rfl rfl (by decide) (by decide) (Ret.k (S' := [(.int (own_u bs o l0 7))]) rfl ?_)
  refine Run.as (D' := (Ob, (a2, .byte, (bs.map Value.int)) :: Ax)) rfl ?_
  refine Run.istore K d11_71 (pc' := 73) rfl (L' := #[.val (.ref a2), .val (.int p1), .val (.int p2), .val (.int (own_u bs o l0 0)), .val (.int (own_u bs o l0 1)), .val (.int (own_u bs o l0 2)), .val (.int (own_u bs o l0 3)), .val (.int (own_u bs o l0 4)), .val (.int (own_u bs o l0 5)), .val (.int (own_u bs o l0 6)), .val (.int (own_u bs o l0 7)), .unset, .unset]) rfl ?_
  refine Run.iloadN K d11_73 (pc' := 74) rfl rfl ?_
  refine Run.iload K d11_74 (pc' := 76) rfl rfl ?_
  refine Run.iadd K d11_76 (pc' := 77) rfl ?_
  refine Run.iload K d11_77 (pc' := 79) rfl rfl ?_
  refine Run.iadd K d11_79 (pc' := 80) rfl ?_
  refine Run.iload K d11_80 (pc' := 82) rfl rfl ?_
  refine Run.iadd K d11_82 (pc' := 83) rfl ?_
  refine Run.iload K d11_83 (pc' := 85) rfl rfl ?_
  refine Run.iadd K d11_85 (pc' := 86) rfl ?_
  refine Run.iload K d11_86 (pc' := 88) rfl rfl ?_
  refine Run.iadd K d11_88 (pc' := 89) rfl ?_
  refine Run.iload K d11_89 (pc' := 91) rfl rfl ?_
  refine Run.iadd K d11_91 (pc' := 92) rfl ?_
  refine Run.iload K d11_92 (pc' := 94) rfl rfl ?_
  refine Run.iadd K d11_94 (pc' := 95) rfl ?_
  refine Run.istore K d11_95 (pc' := 97) rfl (L' := #[.val (.ref a2), .val (.int p1), .val (.int p2), .val (.int (own_u bs o l0 0)), .val (.int (own_u bs o l0 1)), .val (.int (own_u bs o l0 2)), .val (.int (own_u bs o l0 3)), .val (.int (own_u bs o l0 4)), .val (.int (own_u bs o l0 5)), .val (.int (own_u bs o l0 6)), .val (.int (own_u bs o l0 7)), .val (.int ((((((((own_u bs o l0 0) + (own_u bs o l0 1)) + (own_u bs o l0 2)) + (own_u bs o l0 3)) + (own_u bs o l0 4)) + (own_u bs o l0 5)) + (own_u bs o l0 6)) + (own_u bs o l0 7))), .unset]) rfl ?_
  refine Run.iloadN K d11_97 (pc' := 98) rfl rfl ?_
  refine Run.iloadN K d11_98 (pc' := 99) rfl rfl ?_
  refine Run.imul K d11_99 (pc' := 100) rfl ?_
  refine Run.iloadN K d11_100 (pc' := 101) rfl rfl ?_
  refine Run.iconst K d11_101 (pc' := 102) rfl (v := (1 : Int32)) rfl ?_
  refine Run.isub K d11_102 (pc' := 103) rfl ?_
  refine Run.iload K d11_103 (pc' := 105) rfl rfl ?_
  refine Run.imul K d11_105 (pc' := 106) rfl ?_
  refine Run.iadd K d11_106 (pc' := 107) rfl ?_
  refine Run.iloadN K d11_107 (pc' := 108) rfl rfl ?_
  refine Run.iconst K d11_108 (pc' := 109) rfl (v := (2 : Int32)) rfl ?_
  refine Run.isub K d11_109 (pc' := 110) rfl ?_
  refine Run.iload K d11_110 (pc' := 112) rfl rfl ?_
  refine Run.imul K d11_112 (pc' := 113) rfl ?_
  refine Run.iadd K d11_113 (pc' := 114) rfl ?_
  refine Run.iloadN K d11_114 (pc' := 115) rfl rfl ?_
  refine Run.iconst K d11_115 (pc' := 116) rfl (v := (3 : Int32)) rfl ?_
  refine Run.isub K d11_116 (pc' := 117) rfl ?_
  refine Run.iload K d11_117 (pc' := 119) rfl rfl ?_
  refine Run.imul K d11_119 (pc' := 120) rfl ?_
  refine Run.iadd K d11_120 (pc' := 121) rfl ?_
  refine Run.iloadN K d11_121 (pc' := 122) rfl rfl ?_
  refine Run.iconst K d11_122 (pc' := 123) rfl (v := (4 : Int32)) rfl ?_
  refine Run.isub K d11_123 (pc' := 124) rfl ?_
  refine Run.iload K d11_124 (pc' := 126) rfl rfl ?_
  refine Run.imul K d11_126 (pc' := 127) rfl ?_
  refine Run.iadd K d11_127 (pc' := 128) rfl ?_
  refine Run.iloadN K d11_128 (pc' := 129) rfl rfl ?_
  refine Run.iconst K d11_129 (pc' := 130) rfl (v := (5 : Int32)) rfl ?_
  refine Run.isub K d11_130 (pc' := 131) rfl ?_
  refine Run.iload K d11_131 (pc' := 133) rfl rfl ?_
  refine Run.imul K d11_133 (pc' := 134) rfl ?_
  refine Run.iadd K d11_134 (pc' := 135) rfl ?_
  refine Run.iloadN K d11_135 (pc' := 136) rfl rfl ?_
  refine Run.bipush K d11_136 (pc' := 138) rfl (v := (6 : Int32)) rfl ?_
  refine Run.isub K d11_138 (pc' := 139) rfl ?_
  refine Run.iload K d11_139 (pc' := 141) rfl rfl ?_
  refine Run.imul K d11_141 (pc' := 142) rfl ?_
  refine Run.iadd K d11_142 (pc' := 143) rfl ?_
  refine Run.iloadN K d11_143 (pc' := 144) rfl rfl ?_
  refine Run.bipush K d11_144 (pc' := 146) rfl (v := (7 : Int32)) rfl ?_
  refine Run.isub K d11_146 (pc' := 147) rfl ?_
  refine Run.iload K d11_147 (pc' := 149) rfl rfl ?_
  refine Run.imul K d11_149 (pc' := 150) rfl ?_
  refine Run.iadd K d11_150 (pc' := 151) rfl ?_
  refine Run.istore K d11_151 (pc' := 153) rfl (L' := #[.val (.ref a2), .val (.int p1), .val (.int p2), .val (.int (own_u bs o l0 0)), .val (.int (own_u bs o l0 1)), .val (.int (own_u bs o l0 2)), .val (.int (own_u bs o l0 3)), .val (.int (own_u bs o l0 4)), .val (.int (own_u bs o l0 5)), .val (.int (own_u bs o l0 6)), .val (.int (own_u bs o l0 7)), .val (.int ((((((((own_u bs o l0 0) + (own_u bs o l0 1)) + (own_u bs o l0 2)) + (own_u bs o l0 3)) + (own_u bs o l0 4)) + (own_u bs o l0 5)) + (own_u bs o l0 6)) + (own_u bs o l0 7))), .val (.int ((((((((p2 * (own_u bs o l0 0)) + ((p2 - (1 : Int32)) * (own_u bs o l0 1))) + ((p2 - (2 : Int32)) * (own_u bs o l0 2))) + ((p2 - (3 : Int32)) * (own_u bs o l0 3))) + ((p2 - (4 : Int32)) * (own_u bs o l0 4))) + ((p2 - (5 : Int32)) * (own_u bs o l0 5))) + ((p2 - (6 : Int32)) * (own_u bs o l0 6))) + ((p2 - (7 : Int32)) * (own_u bs o l0 7))))]) rfl ?_
  refine Run.iload K d11_153 (pc' := 155) rfl rfl ?_
  refine Run.bipush K d11_155 (pc' := 157) rfl (v := (16 : Int32)) rfl ?_
  refine Run.ishl K d11_157 (pc' := 158) rfl ?_
  refine Run.iload K d11_158 (pc' := 160) rfl rfl ?_
  refine Run.ldcI K d11_160 (pc' := 162) rfl (v := (65535 : Int32)) (hw _ (List.mem_of_getElem? (i := 2) rfl)) ?_
  refine Run.iand K d11_162 (pc' := 163) rfl ?_
  refine Run.ior K d11_163 (pc' := 164) rfl ?_
  exact Run.retI K d11_164 rfl (by decide) (by decide) ⟨rfl, rfl⟩
theorem d14_0 : decode prog_84_method_2_code 0 = .ok (.iload_n 1, 1) := by decide +kernel
theorem d14_1 : decode prog_84_method_2_code 1 = .ok (.aload_n 0, 1) := by decide +kernel
theorem d14_2 : decode prog_84_method_2_code 2 = .ok (.getfield 24, 3) := by decide +kernel
theorem d14_5 : decode prog_84_method_2_code 5 = .ok (.invokestatic 39, 3) := by decide +kernel
theorem d14_8 : decode prog_84_method_2_code 8 = .ok (.istore_n 2, 1) := by decide +kernel
theorem d14_9 : decode prog_84_method_2_code 9 = .ok (.aload_n 0, 1) := by decide +kernel
theorem d14_10 : decode prog_84_method_2_code 10 = .ok (.getfield 30, 3) := by decide +kernel
theorem d14_13 : decode prog_84_method_2_code 13 = .ok (.iload_n 2, 1) := by decide +kernel
theorem d14_14 : decode prog_84_method_2_code 14 = .ok (.bipush 6, 2) := by decide +kernel
theorem d14_16 : decode prog_84_method_2_code 16 = .ok (.iushr, 1) := by decide +kernel
theorem d14_17 : decode prog_84_method_2_code 17 = .ok (.laload, 1) := by decide +kernel
theorem d14_18 : decode prog_84_method_2_code 18 = .ok (.lconst 1, 1) := by decide +kernel
theorem d14_19 : decode prog_84_method_2_code 19 = .ok (.iload_n 2, 1) := by decide +kernel
theorem d14_20 : decode prog_84_method_2_code 20 = .ok (.lshl, 1) := by decide +kernel
theorem d14_21 : decode prog_84_method_2_code 21 = .ok (.land, 1) := by decide +kernel
theorem d14_22 : decode prog_84_method_2_code 22 = .ok (.lconst 0, 1) := by decide +kernel
theorem d14_23 : decode prog_84_method_2_code 23 = .ok (.lcmp, 1) := by decide +kernel
theorem d14_24 : decode prog_84_method_2_code 24 = .ok (.ifCond .eq 7, 3) := by decide +kernel
theorem d14_27 : decode prog_84_method_2_code 27 = .ok (.iconst 1, 1) := by decide +kernel
theorem d14_28 : decode prog_84_method_2_code 28 = .ok (.goto 4, 3) := by decide +kernel
theorem d14_31 : decode prog_84_method_2_code 31 = .ok (.iconst 0, 1) := by decide +kernel
theorem d14_32 : decode prog_84_method_2_code 32 = .ok (.ireturn, 1) := by decide +kernel
set_option maxRecDepth 65536 in
set_option maxHeartbeats 40000000 in
theorem rm14 (l : Launch) (Z : State) (a0 : Array Value) (n0 : Nat) (hw : ∀ d ∈ tables_1, d.before a0 Z = true) (ws : List Jvm.Cond) (a1 : Addr) (p1 : Int32) (r1 : Addr) (Ob : List OObj) (Ax : List OArr) : Con l Z a0 n0 ws (⟨"com/example/ferrywire/ferrywire/core/WeakSumFilter", "mayHold", "(I)Z"⟩ : MethodName) prog_84_method_2_code 3 (some .boolean) ({ frames := 1, cells := 0, slots := 0, locals := 13 } : Room) #[(.ref a1), (.int p1)] ((a1, "com/example/ferrywire/ferrywire/core/WeakSumFilter", [("com/example/ferrywire/ferrywire/core/WeakSumFilter", "shift", "I", (.int (26 : Int32))), ("com/example/ferrywire/ferrywire/core/WeakSumFilter", "bits", "[J", (.ref r1))]) :: Ob, (r1, .long, [(.long (0 : Int64))]) :: Ax) (Ret (some (.int (0 : Int32))) ((a1, "com/example/ferrywire/ferrywire/core/WeakSumFilter", [("com/example/ferrywire/ferrywire/core/WeakSumFilter", "shift", "I", (.int (26 : Int32))), ("com/example/ferrywire/ferrywire/core/WeakSumFilter", "bits", "[J", (.ref r1))]) :: Ob, (r1, .long, [(.long (0 : Int64))]) :: Ax)) := by
  refine Con.of_run (plainFor_of_name pn_2) (L0 := #[.val (.ref a1), .val (.int p1), .unset]) (fun m => by first | (simp [entryFrame, mkF, argsToLocals, Value.category]; done) | rfl) ?_
  intro p e s m below meth c K
  refine Run.iloadN K d14_0 (pc' := 1) rfl rfl ?_
  refine Run.aloadN K d14_1 (pc' := 2) rfl rfl rfl ?_
  refine Run.getF K d14_2 (pc' := 5) rfl (hw _ (List.mem_of_getElem? (i := 44) rfl)) (i := 0) (j := 0) rfl rfl ?_
  refine Run.callS K d14_5 (pc' := 8) rfl (hw _ (List.mem_of_getElem? (i := 93) rfl)) (hw _ (List.mem_of_getElem? (i := 94) rfl)) (hw _ (List.mem_of_getElem? (i := 31) rfl)) (hw _ (List.mem_of_getElem? (i := 95) rfl)) (by decide) (rm15 l Z a0 n0 hw [] (p1) ((26 : Int32)) ((a1, "com/example/ferrywire/ferrywire/core/WeakSumFilter", [("com/example/ferrywire/ferrywire/core/WeakSumFilter", "shift", "I", (.int (26 : Int32))), ("com/example/ferrywire/ferrywire/core/WeakSumFilter", "bits", "[J", (.ref r1))]) :: Ob) ((r1, .long, [(.long (0 : Int64))]) :: Ax) ) (argsL := [(.int p1), (.int (26 : Int32))]) (rest := []) rfl rfl pd_0 rfl (W := 0) rfl (by decide) (by decide) (cells' := 0) (slots' := 0) rfl rfl (by decide) (by decide) (Ret.k (S' := [(.int (((p1 * (-1640531527 : Int32)).toUInt32 >>> ((26 : Int32) &&& 31).toUInt32).toInt32))]) rfl ?_)
  refine Run.as (D' := ((a1, "com/example/ferrywire/ferrywire/core/WeakSumFilter", [("com/example/ferrywire/ferrywire/core/WeakSumFilter", "shift", "I", (.int (26 : Int32))), ("com/example/ferrywire/ferrywire/core/WeakSumFilter", "bits", "[J", (.ref r1))]) :: Ob, (r1, .long, [(.long (0 : Int64))]) :: Ax)) rfl ?_
  refine Run.istoreN K d14_8 (pc' := 9) rfl (L' := #[.val (.ref a1), .val (.int p1), .val (.int (((p1 * (-1640531527 : Int32)).toUInt32 >>> ((26 : Int32) &&& 31).toUInt32).toInt32))]) rfl ?_
  refine Run.aloadN K d14_9 (pc' := 10) rfl rfl rfl ?_
  refine Run.getF K d14_10 (pc' := 13) rfl (hw _ (List.mem_of_getElem? (i := 47) rfl)) (i := 0) (j := 1) rfl rfl ?_
  refine Run.iloadN K d14_13 (pc' := 14) rfl rfl ?_
  refine Run.bipush K d14_14 (pc' := 16) rfl (v := (6 : Int32)) rfl ?_
  refine Run.iushr K d14_16 (pc' := 17) rfl ?_
  refine Run.laload K d14_17 (pc' := 18) rfl (i := 0) (q := 0) rfl (own_x0 _) (own_x1 _) (v := (.long (0 : Int64))) (rfl) ?_
  refine Run.lconst K d14_18 (pc' := 19) rfl (v := (1 : Int64)) rfl ?_
  refine Run.iloadN K d14_19 (pc' := 20) rfl rfl ?_
  refine Run.lshl K d14_20 (pc' := 21) rfl ?_
  refine Run.land K d14_21 (pc' := 22) rfl ?_
  refine Run.lconst K d14_22 (pc' := 23) rfl (v := (0 : Int64)) rfl ?_
  refine Run.lcmp K d14_23 (pc' := 24) rfl ?_
  refine Run.ifLT K d14_24 (pT := 31) (pF := 27) (by decide) (by decide) rfl (show ((0 : Int64) &&& ((1 : Int64) <<< ((((p1 * (-1640531527 : Int32)).toUInt32 >>> ((26 : Int32) &&& 31).toUInt32).toInt32) &&& 0x3f).toInt64)) = (0 : Int64) from by rw [Int64.zero_and]) ?_
  refine Run.iconst K d14_31 (pc' := 32) rfl (v := (0 : Int32)) rfl ?_
  exact Run.retN K d14_32 (w := (0 : Int32)) rfl (by decide) (by decide) (by decide) (by decide) ⟨rfl, rfl⟩
theorem d13_0 : decode prog_63_method_4_code 0 = .ok (.aload_n 0, 1) := by decide +kernel
theorem d13_1 : decode prog_63_method_4_code 1 = .ok (.getfield 22, 3) := by decide +kernel
theorem d13_4 : decode prog_63_method_4_code 4 = .ok (.istore 5, 2) := by decide +kernel
theorem d13_6 : decode prog_63_method_4_code 6 = .ok (.aload_n 0, 1) := by decide +kernel
theorem d13_7 : decode prog_63_method_4_code 7 = .ok (.getfield 25, 3) := by decide +kernel
theorem d13_10 : decode prog_63_method_4_code 10 = .ok (.istore 6, 2) := by decide +kernel
theorem d13_12 : decode prog_63_method_4_code 12 = .ok (.iload_n 2, 1) := by decide +kernel
theorem d13_13 : decode prog_63_method_4_code 13 = .ok (.istore 7, 2) := by decide +kernel
theorem d13_15 : decode prog_63_method_4_code 15 = .ok (.iload 7, 2) := by decide +kernel
theorem d13_17 : decode prog_63_method_4_code 17 = .ok (.iload_n 3, 1) := by decide +kernel
theorem d13_18 : decode prog_63_method_4_code 18 = .ok (.if_icmp .ge 73, 3) := by decide +kernel
theorem d13_21 : decode prog_63_method_4_code 21 = .ok (.aload_n 1, 1) := by decide +kernel
theorem d13_22 : decode prog_63_method_4_code 22 = .ok (.iload 7, 2) := by decide +kernel
theorem d13_24 : decode prog_63_method_4_code 24 = .ok (.baload, 1) := by decide +kernel
theorem d13_25 : decode prog_63_method_4_code 25 = .ok (.sipush 255, 3) := by decide +kernel
theorem d13_28 : decode prog_63_method_4_code 28 = .ok (.iand, 1) := by decide +kernel
theorem d13_29 : decode prog_63_method_4_code 29 = .ok (.istore 8, 2) := by decide +kernel
theorem d13_31 : decode prog_63_method_4_code 31 = .ok (.iload 5, 2) := by decide +kernel
theorem d13_33 : decode prog_63_method_4_code 33 = .ok (.aload_n 1, 1) := by decide +kernel
theorem d13_34 : decode prog_63_method_4_code 34 = .ok (.iload 7, 2) := by decide +kernel
theorem d13_36 : decode prog_63_method_4_code 36 = .ok (.aload_n 0, 1) := by decide +kernel
theorem d13_37 : decode prog_63_method_4_code 37 = .ok (.getfield 18, 3) := by decide +kernel
theorem d13_40 : decode prog_63_method_4_code 40 = .ok (.iadd, 1) := by decide +kernel
theorem d13_41 : decode prog_63_method_4_code 41 = .ok (.baload, 1) := by decide +kernel
theorem d13_42 : decode prog_63_method_4_code 42 = .ok (.sipush 255, 3) := by decide +kernel
theorem d13_45 : decode prog_63_method_4_code 45 = .ok (.iand, 1) := by decide +kernel
theorem d13_46 : decode prog_63_method_4_code 46 = .ok (.iload 8, 2) := by decide +kernel
theorem d13_48 : decode prog_63_method_4_code 48 = .ok (.isub, 1) := by decide +kernel
theorem d13_49 : decode prog_63_method_4_code 49 = .ok (.iadd, 1) := by decide +kernel
theorem d13_50 : decode prog_63_method_4_code 50 = .ok (.istore 5, 2) := by decide +kernel
theorem d13_52 : decode prog_63_method_4_code 52 = .ok (.iload 6, 2) := by decide +kernel
theorem d13_54 : decode prog_63_method_4_code 54 = .ok (.iload 5, 2) := by decide +kernel
theorem d13_56 : decode prog_63_method_4_code 56 = .ok (.aload_n 0, 1) := by decide +kernel
theorem d13_57 : decode prog_63_method_4_code 57 = .ok (.getfield 18, 3) := by decide +kernel
theorem d13_60 : decode prog_63_method_4_code 60 = .ok (.iload 8, 2) := by decide +kernel
theorem d13_62 : decode prog_63_method_4_code 62 = .ok (.imul, 1) := by decide +kernel
theorem d13_63 : decode prog_63_method_4_code 63 = .ok (.isub, 1) := by decide +kernel
theorem d13_64 : decode prog_63_method_4_code 64 = .ok (.iadd, 1) := by decide +kernel
theorem d13_65 : decode prog_63_method_4_code 65 = .ok (.istore 6, 2) := by decide +kernel
theorem d13_67 : decode prog_63_method_4_code 67 = .ok (.iinc 7 1, 3) := by decide +kernel
theorem d13_70 : decode prog_63_method_4_code 70 = .ok (.aload 4, 2) := by decide +kernel
theorem d13_72 : decode prog_63_method_4_code 72 = .ok (.iload 5, 2) := by decide +kernel
theorem d13_74 : decode prog_63_method_4_code 74 = .ok (.iload 6, 2) := by decide +kernel
theorem d13_76 : decode prog_63_method_4_code 76 = .ok (.invokestatic 28, 3) := by decide +kernel
theorem d13_79 : decode prog_63_method_4_code 79 = .ok (.invokevirtual 32, 3) := by decide +kernel
theorem d13_82 : decode prog_63_method_4_code 82 = .ok (.ifCond .eq 6, 3) := by decide +kernel
theorem d13_85 : decode prog_63_method_4_code 85 = .ok (.goto 6, 3) := by decide +kernel
theorem d13_88 : decode prog_63_method_4_code 88 = .ok (.goto (-73), 3) := by decide +kernel
theorem d13_91 : decode prog_63_method_4_code 91 = .ok (.aload_n 0, 1) := by decide +kernel
theorem d13_92 : decode prog_63_method_4_code 92 = .ok (.iload 5, 2) := by decide +kernel
theorem d13_94 : decode prog_63_method_4_code 94 = .ok (.putfield 22, 3) := by decide +kernel
theorem d13_97 : decode prog_63_method_4_code 97 = .ok (.aload_n 0, 1) := by decide +kernel
theorem d13_98 : decode prog_63_method_4_code 98 = .ok (.iload 6, 2) := by decide +kernel
theorem d13_100 : decode prog_63_method_4_code 100 = .ok (.putfield 25, 3) := by decide +kernel
theorem d13_103 : decode prog_63_method_4_code 103 = .ok (.iload 7, 2) := by decide +kernel
theorem d13_105 : decode prog_63_method_4_code 105 = .ok (.ireturn, 1) := by decide +kernel
theorem pd_3 : parseMethodDescriptor "(I)Z" = some ⟨[.int], some .boolean⟩ := by decide +kernel
set_option maxRecDepth 65536 in
set_option maxHeartbeats 40000000 in
theorem rm13 (l : Launch) (Z : State) (a0 : Array Value) (n0 : Nat) (hw : ∀ d ∈ tables_1, d.before a0 Z = true) (ws : List Jvm.Cond) (a1 : Addr) (a2 : Addr) (p1 : Int32) (p2 : Int32) (a3 : Addr) (a1_a : Int32) (a1_b : Int32) (r1 : Addr) (bs : List Int32) (o : Nat) (l0 : Nat) (Ob : List OObj) (Ax : List OArr) (e1 : p1 = Int32.ofNat o) (e2 : p2 = (Int32.ofNat o) + (1 : Int32)) (hl : o + l0 < bs.length) (hb : bs.length ≤ 8) : Con l Z a0 n0 ws (⟨"com/example/ferrywire/ferrywire/core/RollingSum", "rollOn", "([BIILcom/example/ferrywire/ferrywire/core/WeakSumFilter;)I"⟩ : MethodName) prog_63_method_4_code 9 (some .int) ({ frames := 2, cells := 0, slots := 0, locals := 27 } : Room) #[(.ref a1), (.ref a2), (.int p1), (.int p2), (.ref a3)] ((a1, "com/example/ferrywire/ferrywire/core/RollingSum", [("com/example/ferrywire/ferrywire/core/RollingSum", "length", "I", (.int (Int32.ofNat l0))), ("com/example/ferrywire/ferrywire/core/RollingSum", "a", "I", (.int a1_a)), ("com/example/ferrywire/ferrywire/core/RollingSum", "b", "I", (.int a1_b))]) :: (a3, "com/example/ferrywire/ferrywire/core/WeakSumFilter", [("com/example/ferrywire/ferrywire/core/WeakSumFilter", "shift", "I", (.int (26 : Int32))), ("com/example/ferrywire/ferrywire/core/WeakSumFilter", "bits", "[J", (.ref r1))]) :: Ob, (a2, .byte, (bs.map Value.int)) :: (r1, .long, [(.long (0 : Int64))]) :: Ax) (Ret (some (.int ((Int32.ofNat o) + (1 : Int32)))) ((a3, "com/example/ferrywire/ferrywire/core/WeakSumFilter", [("com/example/ferrywire/ferrywire/core/WeakSumFilter", "shift", "I", (.int (26 : Int32))), ("com/example/ferrywire/ferrywire/core/WeakSumFilter", "bits", "[J", (.ref r1))]) :: (a1, "com/example/ferrywire/ferrywire/core/RollingSum", [("com/example/ferrywire/ferrywire/core/RollingSum", "length", "I", (.int (Int32.ofNat l0))), ("com/example/ferrywire/ferrywire/core/RollingSum", "a", "I", (.int (a1_a + (((bs.getD (o + l0) 0) &&& (255 : Int32)) - ((bs.getD o 0) &&& (255 : Int32)))))), ("com/example/ferrywire/ferrywire/core/RollingSum", "b", "I", (.int (a1_b + ((a1_a + (((bs.getD (o + l0) 0) &&& (255 : Int32)) - ((bs.getD o 0) &&& (255 : Int32)))) - ((Int32.ofNat l0) * ((bs.getD o 0) &&& (255 : Int32)))))))]) :: Ob, (r1, .long, [(.long (0 : Int64))]) :: (a2, .byte, (bs.map Value.int)) :: Ax)) := by
  refine Con.of_run (plainFor_of_name pn_3) (L0 := #[.val (.ref a1), .val (.ref a2), .val (.int p1), .val (.int p2), .val (.ref a3), .unset, .unset, .unset, .unset]) (fun m => by first | (simp [entryFrame, mkF, argsToLocals, Value.category]; done) | rfl) ?_
  intro p e s m below meth c K
  subst e1 e2
  refine Run.aloadN K d13_0 (pc' := 1) rfl rfl rfl ?_
  refine Run.getF K d13_1 (pc' := 4) rfl (hw _ (List.mem_of_getElem? (i := 63) rfl)) (i := 0) (j := 1) rfl rfl ?_
  refine Run.istore K d13_4 (pc' := 6) rfl (L' := #[.val (.ref a1), .val (.ref a2), .val (.int (Int32.ofNat o)), .val (.int ((Int32.ofNat o) + (1 : Int32))), .val (.ref a3), .val (.int a1_a), .unset, .unset, .unset]) rfl ?_
  refine Run.aloadN K d13_6 (pc' := 7) rfl rfl rfl ?_
  refine Run.getF K d13_7 (pc' := 10) rfl (hw _ (List.mem_of_getElem? (i := 65) rfl)) (i := 0) (j := 2) rfl rfl ?_
  refine Run.istore K d13_10 (pc' := 12) rfl (L' := #[.val (.ref a1), .val (.ref a2), .val (.int (Int32.ofNat o)), .val (.int ((Int32.ofNat o) + (1 : Int32))), .val (.ref a3), .val (.int a1_a), .val (.int a1_b), .unset, .unset]) rfl ?_
  refine Run.iloadN K d13_12 (pc' := 13) rfl rfl ?_
  refine Run.istore K d13_13 (pc' := 15) rfl (L' := #[.val (.ref a1), .val (.ref a2), .val (.int (Int32.ofNat o)), .val (.int ((Int32.ofNat o) + (1 : Int32))), .val (.ref a3), .val (.int a1_a), .val (.int a1_b), .val (.int (Int32.ofNat o)), .unset]) rfl ?_
  refine Run.iload K d13_15 (pc' := 17) rfl rfl ?_
  refine Run.iloadN K d13_17 (pc' := 18) rfl rfl ?_
  refine Run.icmpF K d13_18 (pT := 91) (pF := 21) (by decide) (by decide) rfl (show ¬ (((Int32.ofNat o) + (1 : Int32)) ≤ (Int32.ofNat o)) from by rw [own_succ, own_le (by omega) (by omega)]; omega) ?_
  refine Run.aloadN K d13_21 (pc' := 22) rfl rfl rfl ?_
  refine Run.iload K d13_22 (pc' := 24) rfl rfl ?_
  refine Run.baload K d13_24 (pc' := 25) rfl (i := 0) (q := o) rfl (own_nn (by omega)) (own_clamp (by omega)) (v := (.int (bs.getD o 0))) (own_at (by omega)) ?_
  refine Run.sipush K d13_25 (pc' := 28) rfl (v := (255 : Int32)) rfl ?_
  refine Run.iand K d13_28 (pc' := 29) rfl ?_
  refine Run.istore K d13_29 (pc' := 31) rfl (L' := #[.val (.ref a1), .val (.ref a2), .val (.int (Int32.ofNat o)), .val (.int ((Int32.ofNat o) + (1 : Int32))), .val (.ref a3), .val (.int a1_a), .val (.int a1_b), .val (.int (Int32.ofNat o)), .val (.int ((bs.getD o 0) &&& (255 : Int32)))]) rfl ?_
  refine Run.iload K d13_31 (pc' := 33) rfl rfl ?_
  refine Run.aloadN K d13_33 (pc' := 34) rfl rfl rfl ?_
  refine Run.iload K d13_34 (pc' := 36) rfl rfl ?_
  refine Run.aloadN K d13_36 (pc' := 37) rfl rfl rfl ?_
  refine Run.getF K d13_37 (pc' := 40) rfl (hw _ (List.mem_of_getElem? (i := 61) rfl)) (i := 0) (j := 0) rfl rfl ?_
  refine Run.iadd K d13_40 (pc' := 41) rfl ?_
  refine Run.baload K d13_41 (pc' := 42) rfl (i := 0) (q := (o + l0)) rfl (by rw [own_add]; exact own_nn (by omega)) (by rw [own_add]; exact own_clamp (by omega)) (v := (.int (bs.getD (o + l0) 0))) (own_at (by omega)) ?_
  refine Run.sipush K d13_42 (pc' := 45) rfl (v := (255 : Int32)) rfl ?_
  refine Run.iand K d13_45 (pc' := 46) rfl ?_
  refine Run.iload K d13_46 (pc' := 48) rfl rfl ?_
  refine Run.isub K d13_48 (pc' := 49) rfl ?_
  refine Run.iadd K d13_49 (pc' := 50) rfl ?_
  refine Run.istore K d13_50 (pc' := 52) rfl (L' := #[.val (.ref a1), .val (.ref a2), .val (.int (Int32.ofNat o)), .val (.int ((Int32.ofNat o) + (1 : Int32))), .val (.ref a3), .val (.int (a1_a + (((bs.getD (o + l0) 0) &&& (255 : Int32)) - ((bs.getD o 0) &&& (255 : Int32))))), .val (.int a1_b), .val (.int (Int32.ofNat o)), .val (.int ((bs.getD o 0) &&& (255 : Int32)))]) rfl ?_
  refine Run.iload K d13_52 (pc' := 54) rfl rfl ?_
  refine Run.iload K d13_54 (pc' := 56) rfl rfl ?_
  refine Run.aloadN K d13_56 (pc' := 57) rfl rfl rfl ?_
  refine Run.getF K d13_57 (pc' := 60) rfl (hw _ (List.mem_of_getElem? (i := 61) rfl)) (i := 0) (j := 0) rfl rfl ?_
  refine Run.iload K d13_60 (pc' := 62) rfl rfl ?_
  refine Run.imul K d13_62 (pc' := 63) rfl ?_
  refine Run.isub K d13_63 (pc' := 64) rfl ?_
  refine Run.iadd K d13_64 (pc' := 65) rfl ?_
  refine Run.istore K d13_65 (pc' := 67) rfl (L' := #[.val (.ref a1), .val (.ref a2), .val (.int (Int32.ofNat o)), .val (.int ((Int32.ofNat o) + (1 : Int32))), .val (.ref a3), .val (.int (a1_a + (((bs.getD (o + l0) 0) &&& (255 : Int32)) - ((bs.getD o 0) &&& (255 : Int32))))), .val (.int (a1_b + ((a1_a + (((bs.getD (o + l0) 0) &&& (255 : Int32)) - ((bs.getD o 0) &&& (255 : Int32)))) - ((Int32.ofNat l0) * ((bs.getD o 0) &&& (255 : Int32)))))), .val (.int (Int32.ofNat o)), .val (.int ((bs.getD o 0) &&& (255 : Int32)))]) rfl ?_
  refine Run.iinc K d13_67 (pc' := 70) rfl rfl (L' := #[.val (.ref a1), .val (.ref a2), .val (.int (Int32.ofNat o)), .val (.int ((Int32.ofNat o) + (1 : Int32))), .val (.ref a3), .val (.int (a1_a + (((bs.getD (o + l0) 0) &&& (255 : Int32)) - ((bs.getD o 0) &&& (255 : Int32))))), .val (.int (a1_b + ((a1_a + (((bs.getD (o + l0) 0) &&& (255 : Int32)) - ((bs.getD o 0) &&& (255 : Int32)))) - ((Int32.ofNat l0) * ((bs.getD o 0) &&& (255 : Int32)))))), .val (.int ((Int32.ofNat o) + (1 : Int32))), .val (.int ((bs.getD o 0) &&& (255 : Int32)))]) rfl ?_
  refine Run.aload K d13_70 (pc' := 72) rfl rfl rfl ?_
  refine Run.iload K d13_72 (pc' := 74) rfl rfl ?_
  refine Run.iload K d13_74 (pc' := 76) rfl rfl ?_
  refine Run.callS K d13_76 (pc' := 79) rfl (hw _ (List.mem_of_getElem? (i := 72) rfl)) (hw _ (List.mem_of_getElem? (i := 73) rfl)) (hw _ (List.mem_of_getElem? (i := 51) rfl)) (hw _ (List.mem_of_getElem? (i := 74) rfl)) (by decide) (rm10 l Z a0 n0 hw [] ((a1_a + (((bs.getD (o + l0) 0) &&& (255 : Int32)) - ((bs.getD o 0) &&& (255 : Int32))))) ((a1_b + ((a1_a + (((bs.getD (o + l0) 0) &&& (255 : Int32)) - ((bs.getD o 0) &&& (255 : Int32)))) - ((Int32.ofNat l0) * ((bs.getD o 0) &&& (255 : Int32)))))) ((a1, "com/example/ferrywire/ferrywire/core/RollingSum", [("com/example/ferrywire/ferrywire/core/RollingSum", "length", "I", (.int (Int32.ofNat l0))), ("com/example/ferrywire/ferrywire/core/RollingSum", "a", "I", (.int a1_a)), ("com/example/ferrywire/ferrywire/core/RollingSum", "b", "I", (.int a1_b))]) :: (a3, "com/example/ferrywire/ferrywire/core/WeakSumFilter", [("com/example/ferrywire/ferrywire/core/WeakSumFilter", "shift", "I", (.int (26 : Int32))), ("com/example/ferrywire/ferrywire/core/WeakSumFilter", "bits", "[J", (.ref r1))]) :: Ob) ((a2, .byte, (bs.map Value.int)) :: (r1, .long, [(.long (0 : Int64))]) :: Ax) ) (argsL := [(.int (a1_a + (((bs.getD (o + l0) 0) &&& (255 : Int32)) - ((bs.getD o 0) &&& (255 : Int32))))), (.int (a1_b + ((a1_a + (((bs.getD (o + l0) 0) &&& (255 : Int32)) - ((bs.getD o 0) &&& (255 : Int32)))) - ((Int32.ofNat l0) * ((bs.getD o 0) &&& (255 : Int32))))))]) (rest := [(.ref a3)]) rfl rfl pd_0 rfl (W := 1) rfl (by decide) (by decide) (cells' := 0) (slots' := 0) rfl rfl (by decide) (by decide) (Ret.k (S' := [(.int (((a1_b + ((a1_a + (((bs.getD (o + l0) 0) &&& (255 : Int32)) - ((bs.getD o 0) &&& (255 : Int32)))) - ((Int32.ofNat l0) * ((bs.getD o 0) &&& (255 : Int32))))) <<< ((16 : Int32) &&& 31)) ||| ((a1_a + (((bs.getD (o + l0) 0) &&& (255 : Int32)) - ((bs.getD o 0) &&& (255 : Int32)))) &&& (65535 : Int32)))), (.ref a3)]) rfl ?_)
  refine Run.as (D' := ((a1, "com/example/ferrywire/ferrywire/core/RollingSum", [("com/example/ferrywire/ferrywire/core/RollingSum", "length", "I", (.int (Int32.ofNat l0))), ("com/example/ferrywire/ferrywire/core/RollingSum", "a", "I", (.int a1_a)), ("com/example/ferrywire/ferrywire/core/RollingSum", "b", "I", (.int a1_b))]) :: (a3, "com/example/ferrywire/ferrywire/core/WeakSumFilter", [("com/example/ferrywire/ferrywire/core/WeakSumFilter", "shift", "I", (.int (26 : Int32))), ("com/example/ferrywire/ferrywire/core/WeakSumFilter", "bits", "[J", (.ref r1))]) :: Ob, (a2, .byte, (bs.map Value.int)) :: (r1, .long, [(.long (0 : Int64))]) :: Ax)) rfl ?_
  refine Run.bring 1 0 (D' := ((a3, "com/example/ferrywire/ferrywire/core/WeakSumFilter", [("com/example/ferrywire/ferrywire/core/WeakSumFilter", "shift", "I", (.int (26 : Int32))), ("com/example/ferrywire/ferrywire/core/WeakSumFilter", "bits", "[J", (.ref r1))]) :: (a1, "com/example/ferrywire/ferrywire/core/RollingSum", [("com/example/ferrywire/ferrywire/core/RollingSum", "length", "I", (.int (Int32.ofNat l0))), ("com/example/ferrywire/ferrywire/core/RollingSum", "a", "I", (.int a1_a)), ("com/example/ferrywire/ferrywire/core/RollingSum", "b", "I", (.int a1_b))]) :: Ob, (a2, .byte, (bs.map Value.int)) :: (r1, .long, [(.long (0 : Int64))]) :: Ax)) rfl ?_
  refine Run.bring 0 1 (D' := ((a3, "com/example/ferrywire/ferrywire/core/WeakSumFilter", [("com/example/ferrywire/ferrywire/core/WeakSumFilter", "shift", "I", (.int (26 : Int32))), ("com/example/ferrywire/ferrywire/core/WeakSumFilter", "bits", "[J", (.ref r1))]) :: (a1, "com/example/ferrywire/ferrywire/core/RollingSum", [("com/example/ferrywire/ferrywire/core/RollingSum", "length", "I", (.int (Int32.ofNat l0))), ("com/example/ferrywire/ferrywire/core/RollingSum", "a", "I", (.int a1_a)), ("com/example/ferrywire/ferrywire/core/RollingSum", "b", "I", (.int a1_b))]) :: Ob, (r1, .long, [(.long (0 : Int64))]) :: (a2, .byte, (bs.map Value.int)) :: Ax)) rfl ?_
  refine Run.callV K d13_79 (pc' := 82) rfl (a := a3) (z := (⟨"com/example/ferrywire/ferrywire/core/WeakSumFilter", "mayHold", "(I)Z"⟩ : MethodName)) (Cn := "com/example/ferrywire/ferrywire/core/WeakSumFilter") (i := 0) (hw _ (List.mem_of_getElem? (i := 88) rfl)) (hw _ (List.mem_of_getElem? (i := 89) rfl)) (hw _ (List.mem_of_getElem? (i := 91) rfl)) (hw _ (List.mem_of_getElem? (i := 90) rfl)) (hw _ (List.mem_of_getElem? (i := 31) rfl)) (hw _ (List.mem_of_getElem? (i := 92) rfl)) (by decide) rfl (rm14 l Z a0 n0 hw [] (a3) ((((a1_b + ((a1_a + (((bs.getD (o + l0) 0) &&& (255 : Int32)) - ((bs.getD o 0) &&& (255 : Int32)))) - ((Int32.ofNat l0) * ((bs.getD o 0) &&& (255 : Int32))))) <<< ((16 : Int32) &&& 31)) ||| ((a1_a + (((bs.getD (o + l0) 0) &&& (255 : Int32)) - ((bs.getD o 0) &&& (255 : Int32)))) &&& (65535 : Int32)))) (r1) ((a1, "com/example/ferrywire/ferrywire/core/RollingSum", [("com/example/ferrywire/ferrywire/core/RollingSum", "length", "I", (.int (Int32.ofNat l0))), ("com/example/ferrywire/ferrywire/core/RollingSum", "a", "I", (.int a1_a)), ("com/example/ferrywire/ferrywire/core/RollingSum", "b", "I", (.int a1_b))]) :: Ob) ((a2, .byte, (bs.map Value.int)) :: Ax) ) (argsL := [(.int (((a1_b + ((a1_a + (((bs.getD (o + l0) 0) &&& (255 : Int32)) - ((bs.getD o 0) &&& (255 : Int32)))) - ((Int32.ofNat l0) * ((bs.getD o 0) &&& (255 : Int32))))) <<< ((16 : Int32) &&& 31)) ||| ((a1_a + (((bs.getD (o + l0) 0) &&& (255 : Int32)) - ((bs.getD o 0) &&& (255 : Int32)))) &&& (65535 : Int32))))]) (rest := []) rfl rfl pd_3 rfl (W := 0) rfl (by decide) (by decide) (cells' := 0) (slots' := 0) rfl rfl (by decide) (by decide) (Ret.k (S' := [(.int (0 : Int32))]) rfl ?_)
  refine Run.as (D' := ((a3, "com/example/ferrywire/ferrywire/core/WeakSumFilter", [("com/example/ferrywire/ferrywire/core/WeakSumFilter", "shift", "I", (.int (26 : Int32))), ("com/example/ferrywire/ferrywire/core/WeakSumFilter", "bits", "[J", (.ref r1))]) :: (a1, "com/example/ferrywire/ferrywire/core/RollingSum", [("com/example/ferrywire/ferrywire/core/RollingSum", "length", "I", (.int (Int32.ofNat l0))), ("com/example/ferrywire/ferrywire/core/RollingSum", "a", "I", (.int a1_a)), ("com/example/ferrywire/ferrywire/core/RollingSum", "b", "I", (.int a1_b))]) :: Ob, (r1, .long, [(.long (0 : Int64))]) :: (a2, .byte, (bs.map Value.int)) :: Ax)) rfl ?_
  refine Run.ifcT K d13_82 (pT := 88) (pF := 85) (by decide) (by decide) rfl (show (0 : Int32) = (0 : Int32) from by decide) ?_
  refine Run.goto K d13_88 (pc' := 15) (by decide) (by decide) ?_
  refine Run.iload K d13_15 (pc' := 17) rfl rfl ?_
  refine Run.iloadN K d13_17 (pc' := 18) rfl rfl ?_
  refine Run.icmpT K d13_18 (pT := 91) (pF := 21) (by decide) (by decide) rfl (show ((Int32.ofNat o) + (1 : Int32)) ≤ ((Int32.ofNat o) + (1 : Int32)) from Int32.le_refl _) ?_
  refine Run.aloadN K d13_91 (pc' := 92) rfl rfl rfl ?_
  refine Run.iload K d13_92 (pc' := 94) rfl rfl ?_
  refine Run.putF K d13_94 (pc' := 97) rfl (hw _ (List.mem_of_getElem? (i := 63) rfl)) (Or.inl (hw _ (List.mem_of_getElem? (i := 64) rfl))) (hw _ (List.mem_of_getElem? (i := 50) rfl)) (ty := .int) (by decide) rfl rfl (i := 1) (j := 1) rfl rfl (D' := ((a3, "com/example/ferrywire/ferrywire/core/WeakSumFilter", [("com/example/ferrywire/ferrywire/core/WeakSumFilter", "shift", "I", (.int (26 : Int32))), ("com/example/ferrywire/ferrywire/core/WeakSumFilter", "bits", "[J", (.ref r1))]) :: (a1, "com/example/ferrywire/ferrywire/core/RollingSum", [("com/example/ferrywire/ferrywire/core/RollingSum", "length", "I", (.int (Int32.ofNat l0))), ("com/example/ferrywire/ferrywire/core/RollingSum", "a", "I", (.int (a1_a + (((bs.getD (o + l0) 0) &&& (255 : Int32)) - ((bs.getD o 0) &&& (255 : Int32)))))), ("com/example/ferrywire/ferrywire/core/RollingSum", "b", "I", (.int a1_b))]) :: Ob, (r1, .long, [(.long (0 : Int64))]) :: (a2, .byte, (bs.map Value.int)) :: Ax)) rfl ?_
  refine Run.aloadN K d13_97 (pc' := 98) rfl rfl rfl ?_
  refine Run.iload K d13_98 (pc' := 100) rfl rfl ?_
  refine Run.putF K d13_100 (pc' := 103) rfl (hw _ (List.mem_of_getElem? (i := 65) rfl)) (Or.inl (hw _ (List.mem_of_getElem? (i := 66) rfl))) (hw _ (List.mem_of_getElem? (i := 50) rfl)) (ty := .int) (by decide) rfl rfl (i := 1) (j := 2) rfl rfl (D' := ((a3, "com/example/ferrywire/ferrywire/core/WeakSumFilter", [("com/example/ferrywire/ferrywire/core/WeakSumFilter", "shift", "I", (.int (26 : Int32))), ("com/example/ferrywire/ferrywire/core/WeakSumFilter", "bits", "[J", (.ref r1))]) :: (a1, "com/example/ferrywire/ferrywire/core/RollingSum", [("com/example/ferrywire/ferrywire/core/RollingSum", "length", "I", (.int (Int32.ofNat l0))), ("com/example/ferrywire/ferrywire/core/RollingSum", "a", "I", (.int (a1_a + (((bs.getD (o + l0) 0) &&& (255 : Int32)) - ((bs.getD o 0) &&& (255 : Int32)))))), ("com/example/ferrywire/ferrywire/core/RollingSum", "b", "I", (.int (a1_b + ((a1_a + (((bs.getD (o + l0) 0) &&& (255 : Int32)) - ((bs.getD o 0) &&& (255 : Int32)))) - ((Int32.ofNat l0) * ((bs.getD o 0) &&& (255 : Int32)))))))]) :: Ob, (r1, .long, [(.long (0 : Int64))]) :: (a2, .byte, (bs.map Value.int)) :: Ax)) rfl ?_
  refine Run.iload K d13_103 (pc' := 105) rfl rfl ?_
  exact Run.retI K d13_105 rfl (by decide) (by decide) ⟨rfl, rfl⟩
theorem fs_0 {Z : State} {a0 : Array Value} (hw : ∀ d ∈ tables_1, d.before a0 Z = true) : FieldsOk Z a0 "com/example/ferrywire/ferrywire/protocol/Signature" [("com/example/ferrywire/ferrywire/protocol/Signature", "blockLength", "I", (.int (0 : Int32))), ("com/example/ferrywire/ferrywire/protocol/Signature", "size", "J", (.long (0 : Int64))), ("com/example/ferrywire/ferrywire/protocol/Signature", "blockCount", "I", (.int (0 : Int32))), ("com/example/ferrywire/ferrywire/protocol/Signature", "weak", "[I", .null), ("com/example/ferrywire/ferrywire/protocol/Signature", "strong", "[B", .null)] := (FieldsOk.cons (Or.inr (hw _ (List.mem_of_getElem? (i := 15) rfl))) (ty := .int) (by decide) rfl (by decide) (FieldsOk.cons (Or.inr (hw _ (List.mem_of_getElem? (i := 17) rfl))) (ty := .long) (by decide) rfl (by decide) (FieldsOk.cons (Or.inr (hw _ (List.mem_of_getElem? (i := 19) rfl))) (ty := .int) (by decide) rfl (by decide) (FieldsOk.cons (Or.inl (hw _ (List.mem_of_getElem? (i := 26) rfl))) (ty := (.array .int)) (by decide) rfl (by decide) (FieldsOk.cons (Or.inl (hw _ (List.mem_of_getElem? (i := 28) rfl))) (ty := (.array .byte)) (by decide) rfl (by decide) (FieldsOk.nil _))))))
theorem pd_4 : parseMethodDescriptor "(IJ)V" = some ⟨[.int, .long], none⟩ := by decide +kernel
theorem fs_1 {Z : State} {a0 : Array Value} (hw : ∀ d ∈ tables_1, d.before a0 Z = true) : FieldsOk Z a0 "com/example/ferrywire/ferrywire/core/WeakSumFilter" [("com/example/ferrywire/ferrywire/core/WeakSumFilter", "shift", "I", (.int (0 : Int32))), ("com/example/ferrywire/ferrywire/core/WeakSumFilter", "bits", "[J", .null)] := (FieldsOk.cons (Or.inr (hw _ (List.mem_of_getElem? (i := 45) rfl))) (ty := .int) (by decide) rfl (by decide) (FieldsOk.cons (Or.inr (hw _ (List.mem_of_getElem? (i := 48) rfl))) (ty := (.array .long)) (by decide) rfl (by decide) (FieldsOk.nil _)))
theorem pd_5 : parseMethodDescriptor "(Lcom/example/ferrywire/ferrywire/protocol/Signature;I)V" = some ⟨[(.object "com/example/ferrywire/ferrywire/protocol/Signature"), .int], none⟩ := by decide +kernel
theorem fs_2 {Z : State} {a0 : Array Value} (hw : ∀ d ∈ tables_1, d.before a0 Z = true) : FieldsOk Z a0 "com/example/ferrywire/ferrywire/core/RollingSum" [("com/example/ferrywire/ferrywire/core/RollingSum", "length", "I", (.int (0 : Int32))), ("com/example/ferrywire/ferrywire/core/RollingSum", "a", "I", (.int (0 : Int32))), ("com/example/ferrywire/ferrywire/core/RollingSum", "b", "I", (.int (0 : Int32)))] := (FieldsOk.cons (Or.inl (hw _ (List.mem_of_getElem? (i := 62) rfl))) (ty := .int) (by decide) rfl (by decide) (FieldsOk.cons (Or.inl (hw _ (List.mem_of_getElem? (i := 64) rfl))) (ty := .int) (by decide) rfl (by decide) (FieldsOk.cons (Or.inl (hw _ (List.mem_of_getElem? (i := 66) rfl))) (ty := .int) (by decide) rfl (by decide) (FieldsOk.nil _))))
theorem pd_6 : parseMethodDescriptor "()V" = some ⟨[], none⟩ := by decide +kernel
theorem pd_7 : parseMethodDescriptor "([BII)V" = some ⟨[(.array .byte), .int, .int], none⟩ := by decide +kernel
theorem pd_8 : parseMethodDescriptor "()I" = some ⟨[], some .int⟩ := by decide +kernel
theorem pd_9 : parseMethodDescriptor "([BII)I" = some ⟨[(.array .byte), .int, .int], some .int⟩ := by decide +kernel
theorem pd_10 : parseMethodDescriptor "([BIILcom/example/ferrywire/ferrywire/core/WeakSumFilter;)I" = some ⟨[(.array .byte), .int, .int, (.object "com/example/ferrywire/ferrywire/core/WeakSumFilter")], some .int⟩ := by decide +kernel
set_option maxRecDepth 65536 in
set_option maxHeartbeats 40000000 in
theorem rm0 (l : Launch) (Z : State) (a0 : Array Value) (n0 : Nat) (hw : ∀ d ∈ tables_1, d.before a0 Z = true) (ws : List Jvm.Cond) (p1 : Int64) (p2 : Int32) (p3 : Int32) (p4 : Int32) : Con l Z a0 n0 ws x code maxLocals ret room_1 #[(.long p1), (.int p2), (.int p3), (.int p4)] ([], []) (fun vq _ => vq = some (.int 1)) := by
  refine Con.of_run (plainFor_of_name pn_4) (L0 := #[.val (.long p1), .second, .val (.int p2), .val (.int p3), .val (.int p4), .unset, .unset, .unset, .unset, .unset, .unset, .unset, .unset, .unset, .unset]) (fun m => by first | (simp [entryFrame, mkF, argsToLocals, Value.category, maxLocals]; done) | rfl) ?_
  intro p e s m below meth c K
  refine Run.bipush K at_0 (pc' := 2) rfl (v := (8 : Int32)) rfl ?_
  refine Run.newA K at_2 (pc' := 4) rfl (ty := .byte) rfl (hw _ (List.mem_of_getElem? (i := 0) rfl)) (by decide) (vs := [(.int (0 : Int32)), (.int (0 : Int32)), (.int (0 : Int32)), (.int (0 : Int32)), (.int (0 : Int32)), (.int (0 : Int32)), (.int (0 : Int32)), (.int (0 : Int32))]) (rfl) (cap := 8) (by decide) (by decide) (cells' := 1) (slots' := 8) rfl rfl (by decide) (by decide) rfl (fun r37 => ?_)
  refine Run.as (D' := ([], [(r37, .byte, [(.int (0 : Int32)), (.int (0 : Int32)), (.int (0 : Int32)), (.int (0 : Int32)), (.int (0 : Int32)), (.int (0 : Int32)), (.int (0 : Int32)), (.int (0 : Int32))])])) rfl ?_
  refine Run.astore K at_4 (pc' := 6) rfl rfl (L' := #[.val (.long p1), .second, .val (.int p2), .val (.int p3), .val (.int p4), .val (.ref r37), .unset, .unset, .unset, .unset, .unset, .unset, .unset, .unset, .unset]) rfl ?_
  refine Run.aload K at_6 (pc' := 8) rfl rfl rfl ?_
  refine Run.iconst K at_8 (pc' := 9) rfl (v := (0 : Int32)) rfl ?_
  refine Run.lloadN K at_9 (pc' := 10) rfl rfl ?_
  refine Run.l2i K at_10 (pc' := 11) rfl ?_
  refine Run.i2b K at_11 (pc' := 12) rfl ?_
  refine Run.bastore K at_12 (pc' := 13) rfl (i := 0) (q := 0) rfl (by decide) (by decide) (v := (.int (0 : Int32))) (rfl) (D' := ([], [(r37, .byte, [(.int ((p1.toInt32).toInt8.toInt32).toInt8.toInt32), (.int (0 : Int32)), (.int (0 : Int32)), (.int (0 : Int32)), (.int (0 : Int32)), (.int (0 : Int32)), (.int (0 : Int32)), (.int (0 : Int32))])])) rfl ?_
  refine Run.aload K at_13 (pc' := 15) rfl rfl rfl ?_
  refine Run.iconst K at_15 (pc' := 16) rfl (v := (1 : Int32)) rfl ?_
  refine Run.lloadN K at_16 (pc' := 17) rfl rfl ?_
  refine Run.bipush K at_17 (pc' := 19) rfl (v := (8 : Int32)) rfl ?_
  refine Run.lushr K at_19 (pc' := 20) rfl ?_
  refine Run.l2i K at_20 (pc' := 21) rfl ?_
  refine Run.i2b K at_21 (pc' := 22) rfl ?_
  refine Run.bastore K at_22 (pc' := 23) rfl (i := 0) (q := 1) rfl (by decide) (by decide) (v := (.int (0 : Int32))) (rfl) (D' := ([], [(r37, .byte, [(.int ((p1.toInt32).toInt8.toInt32).toInt8.toInt32), (.int ((((p1.toUInt64 >>> ((8 : Int32) &&& 0x3f).toInt64.toUInt64).toInt64).toInt32).toInt8.toInt32).toInt8.toInt32), (.int (0 : Int32)), (.int (0 : Int32)), (.int (0 : Int32)), (.int (0 : Int32)), (.int (0 : Int32)), (.int (0 : Int32))])])) rfl ?_
  refine Run.aload K at_23 (pc' := 25) rfl rfl rfl ?_
  refine Run.iconst K at_25 (pc' := 26) rfl (v := (2 : Int32)) rfl ?_
  refine Run.lloadN K at_26 (pc' := 27) rfl rfl ?_
  refine Run.bipush K at_27 (pc' := 29) rfl (v := (16 : Int32)) rfl ?_
  refine Run.lushr K at_29 (pc' := 30) rfl ?_
  refine Run.l2i K at_30 (pc' := 31) rfl ?_
  refine Run.i2b K at_31 (pc' := 32) rfl ?_
  refine Run.bastore K at_32 (pc' := 33) rfl (i := 0) (q := 2) rfl (by decide) (by decide) (v := (.int (0 : Int32))) (rfl) (D' := ([], [(r37, .byte, [(.int ((p1.toInt32).toInt8.toInt32).toInt8.toInt32), (.int ((((p1.toUInt64 >>> ((8 : Int32) &&& 0x3f).toInt64.toUInt64).toInt64).toInt32).toInt8.toInt32).toInt8.toInt32), (.int ((((p1.toUInt64 >>> ((16 : Int32) &&& 0x3f).toInt64.toUInt64).toInt64).toInt32).toInt8.toInt32).toInt8.toInt32), (.int (0 : Int32)), (.int (0 : Int32)), (.int (0 : Int32)), (.int (0 : Int32)), (.int (0 : Int32))])])) rfl ?_
  refine Run.aload K at_33 (pc' := 35) rfl rfl rfl ?_
  refine Run.iconst K at_35 (pc' := 36) rfl (v := (3 : Int32)) rfl ?_
  refine Run.lloadN K at_36 (pc' := 37) rfl rfl ?_
  refine Run.bipush K at_37 (pc' := 39) rfl (v := (24 : Int32)) rfl ?_
  refine Run.lushr K at_39 (pc' := 40) rfl ?_
  refine Run.l2i K at_40 (pc' := 41) rfl ?_
  refine Run.i2b K at_41 (pc' := 42) rfl ?_
  refine Run.bastore K at_42 (pc' := 43) rfl (i := 0) (q := 3) rfl (by decide) (by decide) (v := (.int (0 : Int32))) (rfl) (D' := ([], [(r37, .byte, [(.int ((p1.toInt32).toInt8.toInt32).toInt8.toInt32), (.int ((((p1.toUInt64 >>> ((8 : Int32) &&& 0x3f).toInt64.toUInt64).toInt64).toInt32).toInt8.toInt32).toInt8.toInt32), (.int ((((p1.toUInt64 >>> ((16 : Int32) &&& 0x3f).toInt64.toUInt64).toInt64).toInt32).toInt8.toInt32).toInt8.toInt32), (.int ((((p1.toUInt64 >>> ((24 : Int32) &&& 0x3f).toInt64.toUInt64).toInt64).toInt32).toInt8.toInt32).toInt8.toInt32), (.int (0 : Int32)), (.int (0 : Int32)), (.int (0 : Int32)), (.int (0 : Int32))])])) rfl ?_
  refine Run.aload K at_43 (pc' := 45) rfl rfl rfl ?_
  refine Run.iconst K at_45 (pc' := 46) rfl (v := (4 : Int32)) rfl ?_
  refine Run.lloadN K at_46 (pc' := 47) rfl rfl ?_
  refine Run.bipush K at_47 (pc' := 49) rfl (v := (32 : Int32)) rfl ?_
  refine Run.lushr K at_49 (pc' := 50) rfl ?_
  refine Run.l2i K at_50 (pc' := 51) rfl ?_
  refine Run.i2b K at_51 (pc' := 52) rfl ?_
  refine Run.bastore K at_52 (pc' := 53) rfl (i := 0) (q := 4) rfl (by decide) (by decide) (v := (.int (0 : Int32))) (rfl) (D' := ([], [(r37, .byte, [(.int ((p1.toInt32).toInt8.toInt32).toInt8.toInt32), (.int ((((p1.toUInt64 >>> ((8 : Int32) &&& 0x3f).toInt64.toUInt64).toInt64).toInt32).toInt8.toInt32).toInt8.toInt32), (.int ((((p1.toUInt64 >>> ((16 : Int32) &&& 0x3f).toInt64.toUInt64).toInt64).toInt32).toInt8.toInt32).toInt8.toInt32), (.int ((((p1.toUInt64 >>> ((24 : Int32) &&& 0x3f).toInt64.toUInt64).toInt64).toInt32).toInt8.toInt32).toInt8.toInt32), (.int ((((p1.toUInt64 >>> ((32 : Int32) &&& 0x3f).toInt64.toUInt64).toInt64).toInt32).toInt8.toInt32).toInt8.toInt32), (.int (0 : Int32)), (.int (0 : Int32)), (.int (0 : Int32))])])) rfl ?_
  refine Run.aload K at_53 (pc' := 55) rfl rfl rfl ?_
  refine Run.iconst K at_55 (pc' := 56) rfl (v := (5 : Int32)) rfl ?_
  refine Run.lloadN K at_56 (pc' := 57) rfl rfl ?_
  refine Run.bipush K at_57 (pc' := 59) rfl (v := (40 : Int32)) rfl ?_
  refine Run.lushr K at_59 (pc' := 60) rfl ?_
  refine Run.l2i K at_60 (pc' := 61) rfl ?_
  refine Run.i2b K at_61 (pc' := 62) rfl ?_
  refine Run.bastore K at_62 (pc' := 63) rfl (i := 0) (q := 5) rfl (by decide) (by decide) (v := (.int (0 : Int32))) (rfl) (D' := ([], [(r37, .byte, [(.int ((p1.toInt32).toInt8.toInt32).toInt8.toInt32), (.int ((((p1.toUInt64 >>> ((8 : Int32) &&& 0x3f).toInt64.toUInt64).toInt64).toInt32).toInt8.toInt32).toInt8.toInt32), (.int ((((p1.toUInt64 >>> ((16 : Int32) &&& 0x3f).toInt64.toUInt64).toInt64).toInt32).toInt8.toInt32).toInt8.toInt32), (.int ((((p1.toUInt64 >>> ((24 : Int32) &&& 0x3f).toInt64.toUInt64).toInt64).toInt32).toInt8.toInt32).toInt8.toInt32), (.int ((((p1.toUInt64 >>> ((32 : Int32) &&& 0x3f).toInt64.toUInt64).toInt64).toInt32).toInt8.toInt32).toInt8.toInt32), (.int ((((p1.toUInt64 >>> ((40 : Int32) &&& 0x3f).toInt64.toUInt64).toInt64).toInt32).toInt8.toInt32).toInt8.toInt32), (.int (0 : Int32)), (.int (0 : Int32))])])) rfl ?_
  refine Run.aload K at_63 (pc' := 65) rfl rfl rfl ?_
  refine Run.bipush K at_65 (pc' := 67) rfl (v := (6 : Int32)) rfl ?_
  refine Run.lloadN K at_67 (pc' := 68) rfl rfl ?_
  refine Run.bipush K at_68 (pc' := 70) rfl (v := (48 : Int32)) rfl ?_
  refine Run.lushr K at_70 (pc' := 71) rfl ?_
  refine Run.l2i K at_71 (pc' := 72) rfl ?_
  refine Run.i2b K at_72 (pc' := 73) rfl ?_
  refine Run.bastore K at_73 (pc' := 74) rfl (i := 0) (q := 6) rfl (by decide) (by decide) (v := (.int (0 : Int32))) (rfl) (D' := ([], [(r37, .byte, [(.int ((p1.toInt32).toInt8.toInt32).toInt8.toInt32), (.int ((((p1.toUInt64 >>> ((8 : Int32) &&& 0x3f).toInt64.toUInt64).toInt64).toInt32).toInt8.toInt32).toInt8.toInt32), (.int ((((p1.toUInt64 >>> ((16 : Int32) &&& 0x3f).toInt64.toUInt64).toInt64).toInt32).toInt8.toInt32).toInt8.toInt32), (.int ((((p1.toUInt64 >>> ((24 : Int32) &&& 0x3f).toInt64.toUInt64).toInt64).toInt32).toInt8.toInt32).toInt8.toInt32), (.int ((((p1.toUInt64 >>> ((32 : Int32) &&& 0x3f).toInt64.toUInt64).toInt64).toInt32).toInt8.toInt32).toInt8.toInt32), (.int ((((p1.toUInt64 >>> ((40 : Int32) &&& 0x3f).toInt64.toUInt64).toInt64).toInt32).toInt8.toInt32).toInt8.toInt32), (.int ((((p1.toUInt64 >>> ((48 : Int32) &&& 0x3f).toInt64.toUInt64).toInt64).toInt32).toInt8.toInt32).toInt8.toInt32), (.int (0 : Int32))])])) rfl ?_
  refine Run.aload K at_74 (pc' := 76) rfl rfl rfl ?_
  refine Run.bipush K at_76 (pc' := 78) rfl (v := (7 : Int32)) rfl ?_
  refine Run.lloadN K at_78 (pc' := 79) rfl rfl ?_
  refine Run.bipush K at_79 (pc' := 81) rfl (v := (56 : Int32)) rfl ?_
  refine Run.lushr K at_81 (pc' := 82) rfl ?_
  refine Run.l2i K at_82 (pc' := 83) rfl ?_
  refine Run.i2b K at_83 (pc' := 84) rfl ?_
  refine Run.bastore K at_84 (pc' := 85) rfl (i := 0) (q := 7) rfl (by decide) (by decide) (v := (.int (0 : Int32))) (rfl) (D' := ([], [(r37, .byte, [(.int ((p1.toInt32).toInt8.toInt32).toInt8.toInt32), (.int ((((p1.toUInt64 >>> ((8 : Int32) &&& 0x3f).toInt64.toUInt64).toInt64).toInt32).toInt8.toInt32).toInt8.toInt32), (.int ((((p1.toUInt64 >>> ((16 : Int32) &&& 0x3f).toInt64.toUInt64).toInt64).toInt32).toInt8.toInt32).toInt8.toInt32), (.int ((((p1.toUInt64 >>> ((24 : Int32) &&& 0x3f).toInt64.toUInt64).toInt64).toInt32).toInt8.toInt32).toInt8.toInt32), (.int ((((p1.toUInt64 >>> ((32 : Int32) &&& 0x3f).toInt64.toUInt64).toInt64).toInt32).toInt8.toInt32).toInt8.toInt32), (.int ((((p1.toUInt64 >>> ((40 : Int32) &&& 0x3f).toInt64.toUInt64).toInt64).toInt32).toInt8.toInt32).toInt8.toInt32), (.int ((((p1.toUInt64 >>> ((48 : Int32) &&& 0x3f).toInt64.toUInt64).toInt64).toInt32).toInt8.toInt32).toInt8.toInt32), (.int ((((p1.toUInt64 >>> ((56 : Int32) &&& 0x3f).toInt64.toUInt64).toInt64).toInt32).toInt8.toInt32).toInt8.toInt32)])])) rfl ?_
  generalize ((p1.toInt32).toInt8.toInt32).toInt8.toInt32 = b0
  generalize ((((p1.toUInt64 >>> ((8 : Int32) &&& 0x3f).toInt64.toUInt64).toInt64).toInt32).toInt8.toInt32).toInt8.toInt32 = b1
  generalize ((((p1.toUInt64 >>> ((16 : Int32) &&& 0x3f).toInt64.toUInt64).toInt64).toInt32).toInt8.toInt32).toInt8.toInt32 = b2
  generalize ((((p1.toUInt64 >>> ((24 : Int32) &&& 0x3f).toInt64.toUInt64).toInt64).toInt32).toInt8.toInt32).toInt8.toInt32 = b3
  generalize ((((p1.toUInt64 >>> ((32 : Int32) &&& 0x3f).toInt64.toUInt64).toInt64).toInt32).toInt8.toInt32).toInt8.toInt32 = b4
  generalize ((((p1.toUInt64 >>> ((40 : Int32) &&& 0x3f).toInt64.toUInt64).toInt64).toInt32).toInt8.toInt32).toInt8.toInt32 = b5
  generalize ((((p1.toUInt64 >>> ((48 : Int32) &&& 0x3f).toInt64.toUInt64).toInt64).toInt32).toInt8.toInt32).toInt8.toInt32 = b6
  generalize ((((p1.toUInt64 >>> ((56 : Int32) &&& 0x3f).toInt64.toUInt64).toInt64).toInt32).toInt8.toInt32).toInt8.toInt32 = b7
  refine Run.iloadN K at_85 (pc' := 86) rfl rfl ?_
  refine Run.ldcI K at_86 (pc' := 88) rfl (v := (2147483647 : Int32)) (hw _ (List.mem_of_getElem? (i := 1) rfl)) ?_
  refine Run.iand K at_88 (pc' := 89) rfl ?_
  refine Run.bipush K at_89 (pc' := 91) rfl (v := (9 : Int32)) rfl ?_
  refine Run.irem K at_91 (pc' := 92) rfl (by decide) ?_
  obtain ⟨o38, hv39, hp40⟩ := own_off p2
  rw [hv39]
  refine Run.istore K at_92 (pc' := 94) rfl (L' := #[.val (.long p1), .second, .val (.int p2), .val (.int p3), .val (.int p4), .val (.ref r37), .val (.int (Int32.ofNat o38)), .unset, .unset, .unset, .unset, .unset, .unset, .unset, .unset]) rfl ?_
  refine Run.iloadN K at_94 (pc' := 95) rfl rfl ?_
  refine Run.ldcI K at_95 (pc' := 97) rfl (v := (2147483647 : Int32)) (hw _ (List.mem_of_getElem? (i := 1) rfl)) ?_
  refine Run.iand K at_97 (pc' := 98) rfl ?_
  refine Run.bipush K at_98 (pc' := 100) rfl (v := (9 : Int32)) rfl ?_
  refine Run.iload K at_100 (pc' := 102) rfl rfl ?_
  refine Run.isub K at_102 (pc' := 103) rfl ?_
  refine Run.irem K at_103 (pc' := 104) rfl (own_nz hp40) ?_
  obtain ⟨k41, hv42, hp43⟩ := own_lenN p3 o38 hp40
  rw [hv42]
  refine Run.istore K at_104 (pc' := 106) rfl (L' := #[.val (.long p1), .second, .val (.int p2), .val (.int p3), .val (.int p4), .val (.ref r37), .val (.int (Int32.ofNat o38)), .val (.int (Int32.ofNat k41)), .unset, .unset, .unset, .unset, .unset, .unset, .unset]) rfl ?_
  refine Run.iload K at_106 (pc' := 108) rfl rfl ?_
  refine Run.ldcI K at_108 (pc' := 110) rfl (v := (65535 : Int32)) (hw _ (List.mem_of_getElem? (i := 2) rfl)) ?_
  refine Run.iand K at_110 (pc' := 111) rfl ?_
  refine Run.bipush K at_111 (pc' := 113) rfl (v := (9 : Int32)) rfl ?_
  refine Run.irem K at_113 (pc' := 114) rfl (by decide) ?_
  obtain ⟨o44, hv45, hp46⟩ := own_off2 p4
  rw [hv45]
  refine Run.istore K at_114 (pc' := 116) rfl (L' := #[.val (.long p1), .second, .val (.int p2), .val (.int p3), .val (.int p4), .val (.ref r37), .val (.int (Int32.ofNat o38)), .val (.int (Int32.ofNat k41)), .val (.int (Int32.ofNat o44)), .unset, .unset, .unset, .unset, .unset, .unset]) rfl ?_
  refine Run.iload K at_116 (pc' := 118) rfl rfl ?_
  refine Run.bipush K at_118 (pc' := 120) rfl (v := (16 : Int32)) rfl ?_
  refine Run.iushr K at_120 (pc' := 121) rfl ?_
  refine Run.ldcI K at_121 (pc' := 123) rfl (v := (65535 : Int32)) (hw _ (List.mem_of_getElem? (i := 2) rfl)) ?_
  refine Run.iand K at_123 (pc' := 124) rfl ?_
  refine Run.bipush K at_124 (pc' := 126) rfl (v := (9 : Int32)) rfl ?_
  refine Run.iload K at_126 (pc' := 128) rfl rfl ?_
  refine Run.isub K at_128 (pc' := 129) rfl ?_
  refine Run.irem K at_129 (pc' := 130) rfl (own_nz hp46) ?_
  obtain ⟨k47, hv48, hp49⟩ := own_len2 _ o44 hp46
  rw [hv48]
  refine Run.istore K at_130 (pc' := 132) rfl (L' := #[.val (.long p1), .second, .val (.int p2), .val (.int p3), .val (.int p4), .val (.ref r37), .val (.int (Int32.ofNat o38)), .val (.int (Int32.ofNat k41)), .val (.int (Int32.ofNat o44)), .val (.int (Int32.ofNat k47)), .unset, .unset, .unset, .unset, .unset]) rfl ?_
  refine Run.newO K at_132 (pc' := 135) rfl (hw _ (List.mem_of_getElem? (i := 3) rfl)) (hw _ (List.mem_of_getElem? (i := 4) rfl)) (hw _ (List.mem_of_getElem? (i := 5) rfl)) (fs_0 hw) (cells' := 2) (slots' := 14) rfl rfl (by decide) (by decide) (fun n50 => ?_)
  refine Run.as (D' := ([(n50, "com/example/ferrywire/ferrywire/protocol/Signature", [("com/example/ferrywire/ferrywire/protocol/Signature", "blockLength", "I", (.int (0 : Int32))), ("com/example/ferrywire/ferrywire/protocol/Signature", "size", "J", (.long (0 : Int64))), ("com/example/ferrywire/ferrywire/protocol/Signature", "blockCount", "I", (.int (0 : Int32))), ("com/example/ferrywire/ferrywire/protocol/Signature", "weak", "[I", .null), ("com/example/ferrywire/ferrywire/protocol/Signature", "strong", "[B", .null)])], [(r37, .byte, [(.int b0), (.int b1), (.int b2), (.int b3), (.int b4), (.int b5), (.int b6), (.int b7)])])) rfl ?_
  refine Run.dup K at_135 (pc' := 136) rfl rfl ?_
  refine Run.iconst K at_136 (pc' := 137) rfl (v := (1 : Int32)) rfl ?_
  refine Run.lconst K at_137 (pc' := 138) rfl (v := (0 : Int64)) rfl ?_
  refine Run.callI K at_138 (pc' := 141) rfl rfl (hw _ (List.mem_of_getElem? (i := 6) rfl)) (hw _ (List.mem_of_getElem? (i := 7) rfl)) (hw _ (List.mem_of_getElem? (i := 5) rfl)) (hw _ (List.mem_of_getElem? (i := 8) rfl)) (by decide) (a := n50) (rm1 l Z a0 n0 hw [] (n50) ((1 : Int32)) ((0 : Int64)) ((0 : Int32)) ((0 : Int64)) ((0 : Int32)) (.null) (.null) ([]) ([(r37, .byte, [(.int b0), (.int b1), (.int b2), (.int b3), (.int b4), (.int b5), (.int b6), (.int b7)])]) (rfl) (rfl)) (argsL := [(.int (1 : Int32)), (.long (0 : Int64))]) (rest := [(.ref n50)]) rfl rfl pd_4 rfl (W := 1) rfl (by decide) (by decide) (cells' := 4) (slots' := 14) rfl rfl (by decide) (by decide) ?_
  intro vq Dq hq
  obtain ⟨c51, c52, rfl, rfl⟩ := hq
  refine Run.as2 (D' := ([(n50, "com/example/ferrywire/ferrywire/protocol/Signature", [("com/example/ferrywire/ferrywire/protocol/Signature", "blockLength", "I", (.int (1 : Int32))), ("com/example/ferrywire/ferrywire/protocol/Signature", "size", "J", (.long (0 : Int64))), ("com/example/ferrywire/ferrywire/protocol/Signature", "blockCount", "I", (.int (0 : Int32))), ("com/example/ferrywire/ferrywire/protocol/Signature", "weak", "[I", (.ref c51)), ("com/example/ferrywire/ferrywire/protocol/Signature", "strong", "[B", (.ref c52))])], [(c52, .byte, []), (c51, .int, []), (r37, .byte, [(.int b0), (.int b1), (.int b2), (.int b3), (.int b4), (.int b5), (.int b6), (.int b7)])])) (S' := [(.ref n50)]) rfl rfl ?_
  refine Run.astore K at_141 (pc' := 143) rfl rfl (L' := #[.val (.long p1), .second, .val (.int p2), .val (.int p3), .val (.int p4), .val (.ref r37), .val (.int (Int32.ofNat o38)), .val (.int (Int32.ofNat k41)), .val (.int (Int32.ofNat o44)), .val (.int (Int32.ofNat k47)), .val (.ref n50), .unset, .unset, .unset, .unset]) rfl ?_
  refine Run.newO K at_143 (pc' := 146) rfl (hw _ (List.mem_of_getElem? (i := 29) rfl)) (hw _ (List.mem_of_getElem? (i := 30) rfl)) (hw _ (List.mem_of_getElem? (i := 31) rfl)) (fs_1 hw) (cells' := 5) (slots' := 16) rfl rfl (by decide) (by decide) (fun n54 => ?_)
  refine Run.as (D' := ([(n54, "com/example/ferrywire/ferrywire/core/WeakSumFilter", [("com/example/ferrywire/ferrywire/core/WeakSumFilter", "shift", "I", (.int (0 : Int32))), ("com/example/ferrywire/ferrywire/core/WeakSumFilter", "bits", "[J", .null)]), (n50, "com/example/ferrywire/ferrywire/protocol/Signature", [("com/example/ferrywire/ferrywire/protocol/Signature", "blockLength", "I", (.int (1 : Int32))), ("com/example/ferrywire/ferrywire/protocol/Signature", "size", "J", (.long (0 : Int64))), ("com/example/ferrywire/ferrywire/protocol/Signature", "blockCount", "I", (.int (0 : Int32))), ("com/example/ferrywire/ferrywire/protocol/Signature", "weak", "[I", (.ref c51)), ("com/example/ferrywire/ferrywire/protocol/Signature", "strong", "[B", (.ref c52))])], [(c52, .byte, []), (c51, .int, []), (r37, .byte, [(.int b0), (.int b1), (.int b2), (.int b3), (.int b4), (.int b5), (.int b6), (.int b7)])])) rfl ?_
  refine Run.dup K at_146 (pc' := 147) rfl rfl ?_
  refine Run.aload K at_147 (pc' := 149) rfl rfl rfl ?_
  refine Run.iconst K at_149 (pc' := 150) rfl (v := (0 : Int32)) rfl ?_
  refine Run.callI K at_150 (pc' := 153) rfl rfl (hw _ (List.mem_of_getElem? (i := 32) rfl)) (hw _ (List.mem_of_getElem? (i := 33) rfl)) (hw _ (List.mem_of_getElem? (i := 31) rfl)) (hw _ (List.mem_of_getElem? (i := 34) rfl)) (by decide) (a := n54) (rm4 l Z a0 n0 hw [] (n54) (n50) ((0 : Int32)) ((0 : Int32)) (.null) ([(n50, "com/example/ferrywire/ferrywire/protocol/Signature", [("com/example/ferrywire/ferrywire/protocol/Signature", "blockLength", "I", (.int (1 : Int32))), ("com/example/ferrywire/ferrywire/protocol/Signature", "size", "J", (.long (0 : Int64))), ("com/example/ferrywire/ferrywire/protocol/Signature", "blockCount", "I", (.int (0 : Int32))), ("com/example/ferrywire/ferrywire/protocol/Signature", "weak", "[I", (.ref c51)), ("com/example/ferrywire/ferrywire/protocol/Signature", "strong", "[B", (.ref c52))])]) ([(c52, .byte, []), (c51, .int, []), (r37, .byte, [(.int b0), (.int b1), (.int b2), (.int b3), (.int b4), (.int b5), (.int b6), (.int b7)])]) (rfl)) (argsL := [(.ref n50), (.int (0 : Int32))]) (rest := [(.ref n54)]) rfl rfl pd_5 rfl (W := 1) rfl (by decide) (by decide) (cells' := 6) (slots' := 17) rfl rfl (by decide) (by decide) ?_
  intro vq Dq hq
  obtain ⟨c55, rfl, rfl⟩ := hq
  refine Run.as2 (D' := ([(n54, "com/example/ferrywire/ferrywire/core/WeakSumFilter", [("com/example/ferrywire/ferrywire/core/WeakSumFilter", "shift", "I", (.int (26 : Int32))), ("com/example/ferrywire/ferrywire/core/WeakSumFilter", "bits", "[J", (.ref c55))]), (n50, "com/example/ferrywire/ferrywire/protocol/Signature", [("com/example/ferrywire/ferrywire/protocol/Signature", "blockLength", "I", (.int (1 : Int32))), ("com/example/ferrywire/ferrywire/protocol/Signature", "size", "J", (.long (0 : Int64))), ("com/example/ferrywire/ferrywire/protocol/Signature", "blockCount", "I", (.int (0 : Int32))), ("com/example/ferrywire/ferrywire/protocol/Signature", "weak", "[I", (.ref c51)), ("com/example/ferrywire/ferrywire/protocol/Signature", "strong", "[B", (.ref c52))])], [(c55, .long, [(.long (0 : Int64))]), (c52, .byte, []), (c51, .int, []), (r37, .byte, [(.int b0), (.int b1), (.int b2), (.int b3), (.int b4), (.int b5), (.int b6), (.int b7)])])) (S' := [(.ref n54)]) rfl rfl ?_
  refine Run.astore K at_153 (pc' := 155) rfl rfl (L' := #[.val (.long p1), .second, .val (.int p2), .val (.int p3), .val (.int p4), .val (.ref r37), .val (.int (Int32.ofNat o38)), .val (.int (Int32.ofNat k41)), .val (.int (Int32.ofNat o44)), .val (.int (Int32.ofNat k47)), .val (.ref n50), .val (.ref n54), .unset, .unset, .unset]) rfl ?_
  refine Run.newO K at_155 (pc' := 158) rfl (hw _ (List.mem_of_getElem? (i := 49) rfl)) (hw _ (List.mem_of_getElem? (i := 50) rfl)) (hw _ (List.mem_of_getElem? (i := 51) rfl)) (fs_2 hw) (cells' := 7) (slots' := 20) rfl rfl (by decide) (by decide) (fun n57 => ?_)
  refine Run.as (D' := ([(n57, "com/example/ferrywire/ferrywire/core/RollingSum", [("com/example/ferrywire/ferrywire/core/RollingSum", "length", "I", (.int (0 : Int32))), ("com/example/ferrywire/ferrywire/core/RollingSum", "a", "I", (.int (0 : Int32))), ("com/example/ferrywire/ferrywire/core/RollingSum", "b", "I", (.int (0 : Int32)))]), (n54, "com/example/ferrywire/ferrywire/core/WeakSumFilter", [("com/example/ferrywire/ferrywire/core/WeakSumFilter", "shift", "I", (.int (26 : Int32))), ("com/example/ferrywire/ferrywire/core/WeakSumFilter", "bits", "[J", (.ref c55))]), (n50, "com/example/ferrywire/ferrywire/protocol/Signature", [("com/example/ferrywire/ferrywire/protocol/Signature", "blockLength", "I", (.int (1 : Int32))), ("com/example/ferrywire/ferrywire/protocol/Signature", "size", "J", (.long (0 : Int64))), ("com/example/ferrywire/ferrywire/protocol/Signature", "blockCount", "I", (.int (0 : Int32))), ("com/example/ferrywire/ferrywire/protocol/Signature", "weak", "[I", (.ref c51)), ("com/example/ferrywire/ferrywire/protocol/Signature", "strong", "[B", (.ref c52))])], [(c55, .long, [(.long (0 : Int64))]), (c52, .byte, []), (c51, .int, []), (r37, .byte, [(.int b0), (.int b1), (.int b2), (.int b3), (.int b4), (.int b5), (.int b6), (.int b7)])])) rfl ?_
  refine Run.dup K at_158 (pc' := 159) rfl rfl ?_
  refine Run.callI K at_159 (pc' := 162) rfl rfl (hw _ (List.mem_of_getElem? (i := 52) rfl)) (hw _ (List.mem_of_getElem? (i := 53) rfl)) (hw _ (List.mem_of_getElem? (i := 51) rfl)) (hw _ (List.mem_of_getElem? (i := 54) rfl)) (by decide) (a := n57) (rm7 l Z a0 n0 hw [] (n57) ([(n57, "com/example/ferrywire/ferrywire/core/RollingSum", [("com/example/ferrywire/ferrywire/core/RollingSum", "length", "I", (.int (0 : Int32))), ("com/example/ferrywire/ferrywire/core/RollingSum", "a", "I", (.int (0 : Int32))), ("com/example/ferrywire/ferrywire/core/RollingSum", "b", "I", (.int (0 : Int32)))]), (n54, "com/example/ferrywire/ferrywire/core/WeakSumFilter", [("com/example/ferrywire/ferrywire/core/WeakSumFilter", "shift", "I", (.int (26 : Int32))), ("com/example/ferrywire/ferrywire/core/WeakSumFilter", "bits", "[J", (.ref c55))]), (n50, "com/example/ferrywire/ferrywire/protocol/Signature", [("com/example/ferrywire/ferrywire/protocol/Signature", "blockLength", "I", (.int (1 : Int32))), ("com/example/ferrywire/ferrywire/protocol/Signature", "size", "J", (.long (0 : Int64))), ("com/example/ferrywire/ferrywire/protocol/Signature", "blockCount", "I", (.int (0 : Int32))), ("com/example/ferrywire/ferrywire/protocol/Signature", "weak", "[I", (.ref c51)), ("com/example/ferrywire/ferrywire/protocol/Signature", "strong", "[B", (.ref c52))])]) ([(c55, .long, [(.long (0 : Int64))]), (c52, .byte, []), (c51, .int, []), (r37, .byte, [(.int b0), (.int b1), (.int b2), (.int b3), (.int b4), (.int b5), (.int b6), (.int b7)])]) ) (argsL := []) (rest := [(.ref n57)]) rfl rfl pd_6 rfl (W := 1) rfl (by decide) (by decide) (cells' := 7) (slots' := 20) rfl rfl (by decide) (by decide) (Ret.k (S' := [(.ref n57)]) rfl ?_)
  refine Run.as (D' := ([(n57, "com/example/ferrywire/ferrywire/core/RollingSum", [("com/example/ferrywire/ferrywire/core/RollingSum", "length", "I", (.int (0 : Int32))), ("com/example/ferrywire/ferrywire/core/RollingSum", "a", "I", (.int (0 : Int32))), ("com/example/ferrywire/ferrywire/core/RollingSum", "b", "I", (.int (0 : Int32)))]), (n54, "com/example/ferrywire/ferrywire/core/WeakSumFilter", [("com/example/ferrywire/ferrywire/core/WeakSumFilter", "shift", "I", (.int (26 : Int32))), ("com/example/ferrywire/ferrywire/core/WeakSumFilter", "bits", "[J", (.ref c55))]), (n50, "com/example/ferrywire/ferrywire/protocol/Signature", [("com/example/ferrywire/ferrywire/protocol/Signature", "blockLength", "I", (.int (1 : Int32))), ("com/example/ferrywire/ferrywire/protocol/Signature", "size", "J", (.long (0 : Int64))), ("com/example/ferrywire/ferrywire/protocol/Signature", "blockCount", "I", (.int (0 : Int32))), ("com/example/ferrywire/ferrywire/protocol/Signature", "weak", "[I", (.ref c51)), ("com/example/ferrywire/ferrywire/protocol/Signature", "strong", "[B", (.ref c52))])], [(c55, .long, [(.long (0 : Int64))]), (c52, .byte, []), (c51, .int, []), (r37, .byte, [(.int b0), (.int b1), (.int b2), (.int b3), (.int b4), (.int b5), (.int b6), (.int b7)])])) rfl ?_
  refine Run.astore K at_162 (pc' := 164) rfl rfl (L' := #[.val (.long p1), .second, .val (.int p2), .val (.int p3), .val (.int p4), .val (.ref r37), .val (.int (Int32.ofNat o38)), .val (.int (Int32.ofNat k41)), .val (.int (Int32.ofNat o44)), .val (.int (Int32.ofNat k47)), .val (.ref n50), .val (.ref n54), .val (.ref n57), .unset, .unset]) rfl ?_
  refine Run.aload K at_164 (pc' := 166) rfl rfl rfl ?_
  refine Run.aload K at_166 (pc' := 168) rfl rfl rfl ?_
  refine Run.iload K at_168 (pc' := 170) rfl rfl ?_
  refine Run.iload K at_170 (pc' := 172) rfl rfl ?_
  refine Run.bring 0 3 (D' := ([(n57, "com/example/ferrywire/ferrywire/core/RollingSum", [("com/example/ferrywire/ferrywire/core/RollingSum", "length", "I", (.int (0 : Int32))), ("com/example/ferrywire/ferrywire/core/RollingSum", "a", "I", (.int (0 : Int32))), ("com/example/ferrywire/ferrywire/core/RollingSum", "b", "I", (.int (0 : Int32)))]), (n54, "com/example/ferrywire/ferrywire/core/WeakSumFilter", [("com/example/ferrywire/ferrywire/core/WeakSumFilter", "shift", "I", (.int (26 : Int32))), ("com/example/ferrywire/ferrywire/core/WeakSumFilter", "bits", "[J", (.ref c55))]), (n50, "com/example/ferrywire/ferrywire/protocol/Signature", [("com/example/ferrywire/ferrywire/protocol/Signature", "blockLength", "I", (.int (1 : Int32))), ("com/example/ferrywire/ferrywire/protocol/Signature", "size", "J", (.long (0 : Int64))), ("com/example/ferrywire/ferrywire/protocol/Signature", "blockCount", "I", (.int (0 : Int32))), ("com/example/ferrywire/ferrywire/protocol/Signature", "weak", "[I", (.ref c51)), ("com/example/ferrywire/ferrywire/protocol/Signature", "strong", "[B", (.ref c52))])], [(r37, .byte, [(.int b0), (.int b1), (.int b2), (.int b3), (.int b4), (.int b5), (.int b6), (.int b7)]), (c55, .long, [(.long (0 : Int64))]), (c52, .byte, []), (c51, .int, [])])) rfl ?_
  refine Run.callV K at_172 (pc' := 175) rfl (a := n57) (z := (⟨"com/example/ferrywire/ferrywire/core/RollingSum", "start", "([BII)V"⟩ : MethodName)) (Cn := "com/example/ferrywire/ferrywire/core/RollingSum") (i := 0) (hw _ (List.mem_of_getElem? (i := 56) rfl)) (hw _ (List.mem_of_getElem? (i := 57) rfl)) (hw _ (List.mem_of_getElem? (i := 59) rfl)) (hw _ (List.mem_of_getElem? (i := 58) rfl)) (hw _ (List.mem_of_getElem? (i := 51) rfl)) (hw _ (List.mem_of_getElem? (i := 60) rfl)) (by decide) rfl (rm8 l Z a0 n0 hw [] (n57) (r37) ((Int32.ofNat o44)) ((Int32.ofNat k47)) ((0 : Int32)) ((0 : Int32)) ((0 : Int32)) ([b0, b1, b2, b3, b4, b5, b6, b7]) (o44) (k47) ([(n54, "com/example/ferrywire/ferrywire/core/WeakSumFilter", [("com/example/ferrywire/ferrywire/core/WeakSumFilter", "shift", "I", (.int (26 : Int32))), ("com/example/ferrywire/ferrywire/core/WeakSumFilter", "bits", "[J", (.ref c55))]), (n50, "com/example/ferrywire/ferrywire/protocol/Signature", [("com/example/ferrywire/ferrywire/protocol/Signature", "blockLength", "I", (.int (1 : Int32))), ("com/example/ferrywire/ferrywire/protocol/Signature", "size", "J", (.long (0 : Int64))), ("com/example/ferrywire/ferrywire/protocol/Signature", "blockCount", "I", (.int (0 : Int32))), ("com/example/ferrywire/ferrywire/protocol/Signature", "weak", "[I", (.ref c51)), ("com/example/ferrywire/ferrywire/protocol/Signature", "strong", "[B", (.ref c52))])]) ([(c55, .long, [(.long (0 : Int64))]), (c52, .byte, []), (c51, .int, [])]) (rfl) (rfl) (hp49) (by simp)) (argsL := [(.ref r37), (.int (Int32.ofNat o44)), (.int (Int32.ofNat k47))]) (rest := []) rfl rfl pd_7 rfl (W := 0) rfl (by decide) (by decide) (cells' := 7) (slots' := 20) rfl rfl (by decide) (by decide) (Ret.k (S' := []) rfl ?_)
  refine Run.as (D' := ([(n57, "com/example/ferrywire/ferrywire/core/RollingSum", [("com/example/ferrywire/ferrywire/core/RollingSum", "length", "I", (.int (Int32.ofNat k47))), ("com/example/ferrywire/ferrywire/core/RollingSum", "a", "I", (.int (own_A [b0, b1, b2, b3, b4, b5, b6, b7] o44 k47))), ("com/example/ferrywire/ferrywire/core/RollingSum", "b", "I", (.int (own_B [b0, b1, b2, b3, b4, b5, b6, b7] o44 k47)))]), (n54, "com/example/ferrywire/ferrywire/core/WeakSumFilter", [("com/example/ferrywire/ferrywire/core/WeakSumFilter", "shift", "I", (.int (26 : Int32))), ("com/example/ferrywire/ferrywire/core/WeakSumFilter", "bits", "[J", (.ref c55))]), (n50, "com/example/ferrywire/ferrywire/protocol/Signature", [("com/example/ferrywire/ferrywire/protocol/Signature", "blockLength", "I", (.int (1 : Int32))), ("com/example/ferrywire/ferrywire/protocol/Signature", "size", "J", (.long (0 : Int64))), ("com/example/ferrywire/ferrywire/protocol/Signature", "blockCount", "I", (.int (0 : Int32))), ("com/example/ferrywire/ferrywire/protocol/Signature", "weak", "[I", (.ref c51)), ("com/example/ferrywire/ferrywire/protocol/Signature", "strong", "[B", (.ref c52))])], [(r37, .byte, [(.int b0), (.int b1), (.int b2), (.int b3), (.int b4), (.int b5), (.int b6), (.int b7)]), (c55, .long, [(.long (0 : Int64))]), (c52, .byte, []), (c51, .int, [])])) rfl ?_
  refine Run.aload K at_175 (pc' := 177) rfl rfl rfl ?_
  refine Run.aload K at_177 (pc' := 179) rfl rfl rfl ?_
  refine Run.iload K at_179 (pc' := 181) rfl rfl ?_
  refine Run.iload K at_181 (pc' := 183) rfl rfl ?_
  refine Run.callV K at_183 (pc' := 186) rfl (a := n57) (z := (⟨"com/example/ferrywire/ferrywire/core/RollingSum", "start", "([BII)V"⟩ : MethodName)) (Cn := "com/example/ferrywire/ferrywire/core/RollingSum") (i := 0) (hw _ (List.mem_of_getElem? (i := 56) rfl)) (hw _ (List.mem_of_getElem? (i := 57) rfl)) (hw _ (List.mem_of_getElem? (i := 59) rfl)) (hw _ (List.mem_of_getElem? (i := 58) rfl)) (hw _ (List.mem_of_getElem? (i := 51) rfl)) (hw _ (List.mem_of_getElem? (i := 60) rfl)) (by decide) rfl (rm8 l Z a0 n0 hw [] (n57) (r37) ((Int32.ofNat o38)) ((Int32.ofNat k41)) ((Int32.ofNat k47)) ((own_A [b0, b1, b2, b3, b4, b5, b6, b7] o44 k47)) ((own_B [b0, b1, b2, b3, b4, b5, b6, b7] o44 k47)) ([b0, b1, b2, b3, b4, b5, b6, b7]) (o38) (k41) ([(n54, "com/example/ferrywire/ferrywire/core/WeakSumFilter", [("com/example/ferrywire/ferrywire/core/WeakSumFilter", "shift", "I", (.int (26 : Int32))), ("com/example/ferrywire/ferrywire/core/WeakSumFilter", "bits", "[J", (.ref c55))]), (n50, "com/example/ferrywire/ferrywire/protocol/Signature", [("com/example/ferrywire/ferrywire/protocol/Signature", "blockLength", "I", (.int (1 : Int32))), ("com/example/ferrywire/ferrywire/protocol/Signature", "size", "J", (.long (0 : Int64))), ("com/example/ferrywire/ferrywire/protocol/Signature", "blockCount", "I", (.int (0 : Int32))), ("com/example/ferrywire/ferrywire/protocol/Signature", "weak", "[I", (.ref c51)), ("com/example/ferrywire/ferrywire/protocol/Signature", "strong", "[B", (.ref c52))])]) ([(c55, .long, [(.long (0 : Int64))]), (c52, .byte, []), (c51, .int, [])]) (rfl) (rfl) (hp43) (by simp)) (argsL := [(.ref r37), (.int (Int32.ofNat o38)), (.int (Int32.ofNat k41))]) (rest := []) rfl rfl pd_7 rfl (W := 0) rfl (by decide) (by decide) (cells' := 7) (slots' := 20) rfl rfl (by decide) (by decide) (Ret.k (S' := []) rfl ?_)
  refine Run.as (D' := ([(n57, "com/example/ferrywire/ferrywire/core/RollingSum", [("com/example/ferrywire/ferrywire/core/RollingSum", "length", "I", (.int (Int32.ofNat k41))), ("com/example/ferrywire/ferrywire/core/RollingSum", "a", "I", (.int (own_A [b0, b1, b2, b3, b4, b5, b6, b7] o38 k41))), ("com/example/ferrywire/ferrywire/core/RollingSum", "b", "I", (.int (own_B [b0, b1, b2, b3, b4, b5, b6, b7] o38 k41)))]), (n54, "com/example/ferrywire/ferrywire/core/WeakSumFilter", [("com/example/ferrywire/ferrywire/core/WeakSumFilter", "shift", "I", (.int (26 : Int32))), ("com/example/ferrywire/ferrywire/core/WeakSumFilter", "bits", "[J", (.ref c55))]), (n50, "com/example/ferrywire/ferrywire/protocol/Signature", [("com/example/ferrywire/ferrywire/protocol/Signature", "blockLength", "I", (.int (1 : Int32))), ("com/example/ferrywire/ferrywire/protocol/Signature", "size", "J", (.long (0 : Int64))), ("com/example/ferrywire/ferrywire/protocol/Signature", "blockCount", "I", (.int (0 : Int32))), ("com/example/ferrywire/ferrywire/protocol/Signature", "weak", "[I", (.ref c51)), ("com/example/ferrywire/ferrywire/protocol/Signature", "strong", "[B", (.ref c52))])], [(r37, .byte, [(.int b0), (.int b1), (.int b2), (.int b3), (.int b4), (.int b5), (.int b6), (.int b7)]), (c55, .long, [(.long (0 : Int64))]), (c52, .byte, []), (c51, .int, [])])) rfl ?_
  refine Run.aload K at_186 (pc' := 188) rfl rfl rfl ?_
  refine Run.callV K at_188 (pc' := 191) rfl (a := n57) (z := (⟨"com/example/ferrywire/ferrywire/core/RollingSum", "value", "()I"⟩ : MethodName)) (Cn := "com/example/ferrywire/ferrywire/core/RollingSum") (i := 0) (hw _ (List.mem_of_getElem? (i := 67) rfl)) (hw _ (List.mem_of_getElem? (i := 68) rfl)) (hw _ (List.mem_of_getElem? (i := 70) rfl)) (hw _ (List.mem_of_getElem? (i := 69) rfl)) (hw _ (List.mem_of_getElem? (i := 51) rfl)) (hw _ (List.mem_of_getElem? (i := 71) rfl)) (by decide) rfl (rm9 l Z a0 n0 hw [] (n57) ((Int32.ofNat k41)) ((own_A [b0, b1, b2, b3, b4, b5, b6, b7] o38 k41)) ((own_B [b0, b1, b2, b3, b4, b5, b6, b7] o38 k41)) ([(n54, "com/example/ferrywire/ferrywire/core/WeakSumFilter", [("com/example/ferrywire/ferrywire/core/WeakSumFilter", "shift", "I", (.int (26 : Int32))), ("com/example/ferrywire/ferrywire/core/WeakSumFilter", "bits", "[J", (.ref c55))]), (n50, "com/example/ferrywire/ferrywire/protocol/Signature", [("com/example/ferrywire/ferrywire/protocol/Signature", "blockLength", "I", (.int (1 : Int32))), ("com/example/ferrywire/ferrywire/protocol/Signature", "size", "J", (.long (0 : Int64))), ("com/example/ferrywire/ferrywire/protocol/Signature", "blockCount", "I", (.int (0 : Int32))), ("com/example/ferrywire/ferrywire/protocol/Signature", "weak", "[I", (.ref c51)), ("com/example/ferrywire/ferrywire/protocol/Signature", "strong", "[B", (.ref c52))])]) ([(r37, .byte, [(.int b0), (.int b1), (.int b2), (.int b3), (.int b4), (.int b5), (.int b6), (.int b7)]), (c55, .long, [(.long (0 : Int64))]), (c52, .byte, []), (c51, .int, [])]) ) (argsL := []) (rest := []) rfl rfl pd_8 rfl (W := 0) rfl (by decide) (by decide) (cells' := 7) (slots' := 20) rfl rfl (by decide) (by decide) (Ret.k (S' := [(.int (((own_B [b0, b1, b2, b3, b4, b5, b6, b7] o38 k41) <<< ((16 : Int32) &&& 31)) ||| ((own_A [b0, b1, b2, b3, b4, b5, b6, b7] o38 k41) &&& (65535 : Int32))))]) rfl ?_)
  refine Run.as (D' := ([(n57, "com/example/ferrywire/ferrywire/core/RollingSum", [("com/example/ferrywire/ferrywire/core/RollingSum", "length", "I", (.int (Int32.ofNat k41))), ("com/example/ferrywire/ferrywire/core/RollingSum", "a", "I", (.int (own_A [b0, b1, b2, b3, b4, b5, b6, b7] o38 k41))), ("com/example/ferrywire/ferrywire/core/RollingSum", "b", "I", (.int (own_B [b0, b1, b2, b3, b4, b5, b6, b7] o38 k41)))]), (n54, "com/example/ferrywire/ferrywire/core/WeakSumFilter", [("com/example/ferrywire/ferrywire/core/WeakSumFilter", "shift", "I", (.int (26 : Int32))), ("com/example/ferrywire/ferrywire/core/WeakSumFilter", "bits", "[J", (.ref c55))]), (n50, "com/example/ferrywire/ferrywire/protocol/Signature", [("com/example/ferrywire/ferrywire/protocol/Signature", "blockLength", "I", (.int (1 : Int32))), ("com/example/ferrywire/ferrywire/protocol/Signature", "size", "J", (.long (0 : Int64))), ("com/example/ferrywire/ferrywire/protocol/Signature", "blockCount", "I", (.int (0 : Int32))), ("com/example/ferrywire/ferrywire/protocol/Signature", "weak", "[I", (.ref c51)), ("com/example/ferrywire/ferrywire/protocol/Signature", "strong", "[B", (.ref c52))])], [(r37, .byte, [(.int b0), (.int b1), (.int b2), (.int b3), (.int b4), (.int b5), (.int b6), (.int b7)]), (c55, .long, [(.long (0 : Int64))]), (c52, .byte, []), (c51, .int, [])])) rfl ?_
  refine Run.aload K at_191 (pc' := 193) rfl rfl rfl ?_
  refine Run.iload K at_193 (pc' := 195) rfl rfl ?_
  refine Run.iload K at_195 (pc' := 197) rfl rfl ?_
  refine Run.callS K at_197 (pc' := 200) rfl (hw _ (List.mem_of_getElem? (i := 76) rfl)) (hw _ (List.mem_of_getElem? (i := 77) rfl)) (hw _ (List.mem_of_getElem? (i := 78) rfl)) (hw _ (List.mem_of_getElem? (i := 79) rfl)) (by decide) (rm11 l Z a0 n0 hw [] (r37) ((Int32.ofNat o38)) ((Int32.ofNat k41)) ([b0, b1, b2, b3, b4, b5, b6, b7]) (o38) (k41) ([(n57, "com/example/ferrywire/ferrywire/core/RollingSum", [("com/example/ferrywire/ferrywire/core/RollingSum", "length", "I", (.int (Int32.ofNat k41))), ("com/example/ferrywire/ferrywire/core/RollingSum", "a", "I", (.int (own_A [b0, b1, b2, b3, b4, b5, b6, b7] o38 k41))), ("com/example/ferrywire/ferrywire/core/RollingSum", "b", "I", (.int (own_B [b0, b1, b2, b3, b4, b5, b6, b7] o38 k41)))]), (n54, "com/example/ferrywire/ferrywire/core/WeakSumFilter", [("com/example/ferrywire/ferrywire/core/WeakSumFilter", "shift", "I", (.int (26 : Int32))), ("com/example/ferrywire/ferrywire/core/WeakSumFilter", "bits", "[J", (.ref c55))]), (n50, "com/example/ferrywire/ferrywire/protocol/Signature", [("com/example/ferrywire/ferrywire/protocol/Signature", "blockLength", "I", (.int (1 : Int32))), ("com/example/ferrywire/ferrywire/protocol/Signature", "size", "J", (.long (0 : Int64))), ("com/example/ferrywire/ferrywire/protocol/Signature", "blockCount", "I", (.int (0 : Int32))), ("com/example/ferrywire/ferrywire/protocol/Signature", "weak", "[I", (.ref c51)), ("com/example/ferrywire/ferrywire/protocol/Signature", "strong", "[B", (.ref c52))])]) ([(c55, .long, [(.long (0 : Int64))]), (c52, .byte, []), (c51, .int, [])]) (rfl) (rfl) (hp43) (by simp)) (argsL := [(.ref r37), (.int (Int32.ofNat o38)), (.int (Int32.ofNat k41))]) (rest := [(.int (((own_B [b0, b1, b2, b3, b4, b5, b6, b7] o38 k41) <<< ((16 : Int32) &&& 31)) ||| ((own_A [b0, b1, b2, b3, b4, b5, b6, b7] o38 k41) &&& (65535 : Int32))))]) rfl rfl pd_9 rfl (W := 1) rfl (by decide) (by decide) (cells' := 7) (slots' := 20) rfl rfl (by decide) (by decide) (Ret.k (S' := [(.int (((((((((((Int32.ofNat k41) * (own_u [b0, b1, b2, b3, b4, b5, b6, b7] o38 k41 0)) + (((Int32.ofNat k41) - (1 : Int32)) * (own_u [b0, b1, b2, b3, b4, b5, b6, b7] o38 k41 1))) + (((Int32.ofNat k41) - (2 : Int32)) * (own_u [b0, b1, b2, b3, b4, b5, b6, b7] o38 k41 2))) + (((Int32.ofNat k41) - (3 : Int32)) * (own_u [b0, b1, b2, b3, b4, b5, b6, b7] o38 k41 3))) + (((Int32.ofNat k41) - (4 : Int32)) * (own_u [b0, b1, b2, b3, b4, b5, b6, b7] o38 k41 4))) + (((Int32.ofNat k41) - (5 : Int32)) * (own_u [b0, b1, b2, b3, b4, b5, b6, b7] o38 k41 5))) + (((Int32.ofNat k41) - (6 : Int32)) * (own_u [b0, b1, b2, b3, b4, b5, b6, b7] o38 k41 6))) + (((Int32.ofNat k41) - (7 : Int32)) * (own_u [b0, b1, b2, b3, b4, b5, b6, b7] o38 k41 7))) <<< ((16 : Int32) &&& 31)) ||| (((((((((own_u [b0, b1, b2, b3, b4, b5, b6, b7] o38 k41 0) + (own_u [b0, b1, b2, b3, b4, b5, b6, b7] o38 k41 1)) + (own_u [b0, b1, b2, b3, b4, b5, b6, b7] o38 k41 2)) + (own_u [b0, b1, b2, b3, b4, b5, b6, b7] o38 k41 3)) + (own_u [b0, b1, b2, b3, b4, b5, b6, b7] o38 k41 4)) + (own_u [b0, b1, b2, b3, b4, b5, b6, b7] o38 k41 5)) + (own_u [b0, b1, b2, b3, b4, b5, b6, b7] o38 k41 6)) + (own_u [b0, b1, b2, b3, b4, b5, b6, b7] o38 k41 7)) &&& (65535 : Int32)))), (.int (((own_B [b0, b1, b2, b3, b4, b5, b6, b7] o38 k41) <<< ((16 : Int32) &&& 31)) ||| ((own_A [b0, b1, b2, b3, b4, b5, b6, b7] o38 k41) &&& (65535 : Int32))))]) rfl ?_)
  refine Run.as (D' := ([(n57, "com/example/ferrywire/ferrywire/core/RollingSum", [("com/example/ferrywire/ferrywire/core/RollingSum", "length", "I", (.int (Int32.ofNat k41))), ("com/example/ferrywire/ferrywire/core/RollingSum", "a", "I", (.int (own_A [b0, b1, b2, b3, b4, b5, b6, b7] o38 k41))), ("com/example/ferrywire/ferrywire/core/RollingSum", "b", "I", (.int (own_B [b0, b1, b2, b3, b4, b5, b6, b7] o38 k41)))]), (n54, "com/example/ferrywire/ferrywire/core/WeakSumFilter", [("com/example/ferrywire/ferrywire/core/WeakSumFilter", "shift", "I", (.int (26 : Int32))), ("com/example/ferrywire/ferrywire/core/WeakSumFilter", "bits", "[J", (.ref c55))]), (n50, "com/example/ferrywire/ferrywire/protocol/Signature", [("com/example/ferrywire/ferrywire/protocol/Signature", "blockLength", "I", (.int (1 : Int32))), ("com/example/ferrywire/ferrywire/protocol/Signature", "size", "J", (.long (0 : Int64))), ("com/example/ferrywire/ferrywire/protocol/Signature", "blockCount", "I", (.int (0 : Int32))), ("com/example/ferrywire/ferrywire/protocol/Signature", "weak", "[I", (.ref c51)), ("com/example/ferrywire/ferrywire/protocol/Signature", "strong", "[B", (.ref c52))])], [(r37, .byte, [(.int b0), (.int b1), (.int b2), (.int b3), (.int b4), (.int b5), (.int b6), (.int b7)]), (c55, .long, [(.long (0 : Int64))]), (c52, .byte, []), (c51, .int, [])])) rfl ?_
  refine Run.icmpF K at_200 (pT := 207) (pF := 203) (by decide) (by decide) rfl (show ¬ ((((own_B [b0, b1, b2, b3, b4, b5, b6, b7] o38 k41) <<< ((16 : Int32) &&& 31)) ||| ((own_A [b0, b1, b2, b3, b4, b5, b6, b7] o38 k41) &&& (65535 : Int32))) ≠ (((((((((((Int32.ofNat k41) * (own_u [b0, b1, b2, b3, b4, b5, b6, b7] o38 k41 0)) + (((Int32.ofNat k41) - (1 : Int32)) * (own_u [b0, b1, b2, b3, b4, b5, b6, b7] o38 k41 1))) + (((Int32.ofNat k41) - (2 : Int32)) * (own_u [b0, b1, b2, b3, b4, b5, b6, b7] o38 k41 2))) + (((Int32.ofNat k41) - (3 : Int32)) * (own_u [b0, b1, b2, b3, b4, b5, b6, b7] o38 k41 3))) + (((Int32.ofNat k41) - (4 : Int32)) * (own_u [b0, b1, b2, b3, b4, b5, b6, b7] o38 k41 4))) + (((Int32.ofNat k41) - (5 : Int32)) * (own_u [b0, b1, b2, b3, b4, b5, b6, b7] o38 k41 5))) + (((Int32.ofNat k41) - (6 : Int32)) * (own_u [b0, b1, b2, b3, b4, b5, b6, b7] o38 k41 6))) + (((Int32.ofNat k41) - (7 : Int32)) * (own_u [b0, b1, b2, b3, b4, b5, b6, b7] o38 k41 7))) <<< ((16 : Int32) &&& 31)) ||| (((((((((own_u [b0, b1, b2, b3, b4, b5, b6, b7] o38 k41 0) + (own_u [b0, b1, b2, b3, b4, b5, b6, b7] o38 k41 1)) + (own_u [b0, b1, b2, b3, b4, b5, b6, b7] o38 k41 2)) + (own_u [b0, b1, b2, b3, b4, b5, b6, b7] o38 k41 3)) + (own_u [b0, b1, b2, b3, b4, b5, b6, b7] o38 k41 4)) + (own_u [b0, b1, b2, b3, b4, b5, b6, b7] o38 k41 5)) + (own_u [b0, b1, b2, b3, b4, b5, b6, b7] o38 k41 6)) + (own_u [b0, b1, b2, b3, b4, b5, b6, b7] o38 k41 7)) &&& (65535 : Int32)))) from fun h => h (own_eq1 [b0, b1, b2, b3, b4, b5, b6, b7] o38 k41 (own_l8 hp43))) ?_
  refine Run.iconst K at_203 (pc' := 204) rfl (v := (1 : Int32)) rfl ?_
  refine Run.goto K at_204 (pc' := 208) (by decide) (by decide) ?_
  refine Run.istore K at_208 (pc' := 210) rfl (L' := #[.val (.long p1), .second, .val (.int p2), .val (.int p3), .val (.int p4), .val (.ref r37), .val (.int (Int32.ofNat o38)), .val (.int (Int32.ofNat k41)), .val (.int (Int32.ofNat o44)), .val (.int (Int32.ofNat k47)), .val (.ref n50), .val (.ref n54), .val (.ref n57), .val (.int (1 : Int32)), .unset]) rfl ?_
  refine Run.iload K at_210 (pc' := 212) rfl rfl ?_
  refine Run.iload K at_212 (pc' := 214) rfl rfl ?_
  refine Run.iadd K at_214 (pc' := 215) rfl ?_
  refine Run.bipush K at_215 (pc' := 217) rfl (v := (8 : Int32)) rfl ?_
  refine Run.icmp K at_217 (pT := 277) (pF := 220) (by decide) (by decide) rfl (fun (h217_57 : (8 : Int32) ≤ ((Int32.ofNat o38) + (Int32.ofNat k41))) => ?_) (fun (h217_57 : ¬ ((8 : Int32) ≤ ((Int32.ofNat o38) + (Int32.ofNat k41)))) => ?_)
  · skip
    refine Run.iload K at_277 (pc' := 279) rfl rfl ?_
    exact Run.retN K at_279 (w := (1 : Int32)) rfl (by decide) (by decide) (by decide) (by decide) rfl
  · skip
    refine Run.aload K at_220 (pc' := 222) rfl rfl rfl ?_
    refine Run.aload K at_222 (pc' := 224) rfl rfl rfl ?_
    refine Run.iload K at_224 (pc' := 226) rfl rfl ?_
    refine Run.iload K at_226 (pc' := 228) rfl rfl ?_
    refine Run.iconst K at_228 (pc' := 229) rfl (v := (1 : Int32)) rfl ?_
    refine Run.iadd K at_229 (pc' := 230) rfl ?_
    refine Run.aload K at_230 (pc' := 232) rfl rfl rfl ?_
    refine Run.bring 1 0 (D' := ([(n54, "com/example/ferrywire/ferrywire/core/WeakSumFilter", [("com/example/ferrywire/ferrywire/core/WeakSumFilter", "shift", "I", (.int (26 : Int32))), ("com/example/ferrywire/ferrywire/core/WeakSumFilter", "bits", "[J", (.ref c55))]), (n57, "com/example/ferrywire/ferrywire/core/RollingSum", [("com/example/ferrywire/ferrywire/core/RollingSum", "length", "I", (.int (Int32.ofNat k41))), ("com/example/ferrywire/ferrywire/core/RollingSum", "a", "I", (.int (own_A [b0, b1, b2, b3, b4, b5, b6, b7] o38 k41))), ("com/example/ferrywire/ferrywire/core/RollingSum", "b", "I", (.int (own_B [b0, b1, b2, b3, b4, b5, b6, b7] o38 k41)))]), (n50, "com/example/ferrywire/ferrywire/protocol/Signature", [("com/example/ferrywire/ferrywire/protocol/Signature", "blockLength", "I", (.int (1 : Int32))), ("com/example/ferrywire/ferrywire/protocol/Signature", "size", "J", (.long (0 : Int64))), ("com/example/ferrywire/ferrywire/protocol/Signature", "blockCount", "I", (.int (0 : Int32))), ("com/example/ferrywire/ferrywire/protocol/Signature", "weak", "[I", (.ref c51)), ("com/example/ferrywire/ferrywire/protocol/Signature", "strong", "[B", (.ref c52))])], [(r37, .byte, [(.int b0), (.int b1), (.int b2), (.int b3), (.int b4), (.int b5), (.int b6), (.int b7)]), (c55, .long, [(.long (0 : Int64))]), (c52, .byte, []), (c51, .int, [])])) rfl ?_
    refine Run.bring 1 0 (D' := ([(n57, "com/example/ferrywire/ferrywire/core/RollingSum", [("com/example/ferrywire/ferrywire/core/RollingSum", "length", "I", (.int (Int32.ofNat k41))), ("com/example/ferrywire/ferrywire/core/RollingSum", "a", "I", (.int (own_A [b0, b1, b2, b3, b4, b5, b6, b7] o38 k41))), ("com/example/ferrywire/ferrywire/core/RollingSum", "b", "I", (.int (own_B [b0, b1, b2, b3, b4, b5, b6, b7] o38 k41)))]), (n54, "com/example/ferrywire/ferrywire/core/WeakSumFilter", [("com/example/ferrywire/ferrywire/core/WeakSumFilter", "shift", "I", (.int (26 : Int32))), ("com/example/ferrywire/ferrywire/core/WeakSumFilter", "bits", "[J", (.ref c55))]), (n50, "com/example/ferrywire/ferrywire/protocol/Signature", [("com/example/ferrywire/ferrywire/protocol/Signature", "blockLength", "I", (.int (1 : Int32))), ("com/example/ferrywire/ferrywire/protocol/Signature", "size", "J", (.long (0 : Int64))), ("com/example/ferrywire/ferrywire/protocol/Signature", "blockCount", "I", (.int (0 : Int32))), ("com/example/ferrywire/ferrywire/protocol/Signature", "weak", "[I", (.ref c51)), ("com/example/ferrywire/ferrywire/protocol/Signature", "strong", "[B", (.ref c52))])], [(r37, .byte, [(.int b0), (.int b1), (.int b2), (.int b3), (.int b4), (.int b5), (.int b6), (.int b7)]), (c55, .long, [(.long (0 : Int64))]), (c52, .byte, []), (c51, .int, [])])) rfl ?_
    refine Run.bring 0 1 (D' := ([(n57, "com/example/ferrywire/ferrywire/core/RollingSum", [("com/example/ferrywire/ferrywire/core/RollingSum", "length", "I", (.int (Int32.ofNat k41))), ("com/example/ferrywire/ferrywire/core/RollingSum", "a", "I", (.int (own_A [b0, b1, b2, b3, b4, b5, b6, b7] o38 k41))), ("com/example/ferrywire/ferrywire/core/RollingSum", "b", "I", (.int (own_B [b0, b1, b2, b3, b4, b5, b6, b7] o38 k41)))]), (n54, "com/example/ferrywire/ferrywire/core/WeakSumFilter", [("com/example/ferrywire/ferrywire/core/WeakSumFilter", "shift", "I", (.int (26 : Int32))), ("com/example/ferrywire/ferrywire/core/WeakSumFilter", "bits", "[J", (.ref c55))]), (n50, "com/example/ferrywire/ferrywire/protocol/Signature", [("com/example/ferrywire/ferrywire/protocol/Signature", "blockLength", "I", (.int (1 : Int32))), ("com/example/ferrywire/ferrywire/protocol/Signature", "size", "J", (.long (0 : Int64))), ("com/example/ferrywire/ferrywire/protocol/Signature", "blockCount", "I", (.int (0 : Int32))), ("com/example/ferrywire/ferrywire/protocol/Signature", "weak", "[I", (.ref c51)), ("com/example/ferrywire/ferrywire/protocol/Signature", "strong", "[B", (.ref c52))])], [(c55, .long, [(.long (0 : Int64))]), (r37, .byte, [(.int b0), (.int b1), (.int b2), (.int b3), (.int b4), (.int b5), (.int b6), (.int b7)]), (c52, .byte, []), (c51, .int, [])])) rfl ?_
    refine Run.bring 0 1 (D' := ([(n57, "com/example/ferrywire/ferrywire/core/RollingSum", [("com/example/ferrywire/ferrywire/core/RollingSum", "length", "I", (.int (Int32.ofNat k41))), ("com/example/ferrywire/ferrywire/core/RollingSum", "a", "I", (.int (own_A [b0, b1, b2, b3, b4, b5, b6, b7] o38 k41))), ("com/example/ferrywire/ferrywire/core/RollingSum", "b", "I", (.int (own_B [b0, b1, b2, b3, b4, b5, b6, b7] o38 k41)))]), (n54, "com/example/ferrywire/ferrywire/core/WeakSumFilter", [("com/example/ferrywire/ferrywire/core/WeakSumFilter", "shift", "I", (.int (26 : Int32))), ("com/example/ferrywire/ferrywire/core/WeakSumFilter", "bits", "[J", (.ref c55))]), (n50, "com/example/ferrywire/ferrywire/protocol/Signature", [("com/example/ferrywire/ferrywire/protocol/Signature", "blockLength", "I", (.int (1 : Int32))), ("com/example/ferrywire/ferrywire/protocol/Signature", "size", "J", (.long (0 : Int64))), ("com/example/ferrywire/ferrywire/protocol/Signature", "blockCount", "I", (.int (0 : Int32))), ("com/example/ferrywire/ferrywire/protocol/Signature", "weak", "[I", (.ref c51)), ("com/example/ferrywire/ferrywire/protocol/Signature", "strong", "[B", (.ref c52))])], [(r37, .byte, [(.int b0), (.int b1), (.int b2), (.int b3), (.int b4), (.int b5), (.int b6), (.int b7)]), (c55, .long, [(.long (0 : Int64))]), (c52, .byte, []), (c51, .int, [])])) rfl ?_
    refine Run.callV K at_232 (pc' := 235) rfl (a := n57) (z := (⟨"com/example/ferrywire/ferrywire/core/RollingSum", "rollOn", "([BIILcom/example/ferrywire/ferrywire/core/WeakSumFilter;)I"⟩ : MethodName)) (Cn := "com/example/ferrywire/ferrywire/core/RollingSum") (i := 0) (hw _ (List.mem_of_getElem? (i := 83) rfl)) (hw _ (List.mem_of_getElem? (i := 84) rfl)) (hw _ (List.mem_of_getElem? (i := 86) rfl)) (hw _ (List.mem_of_getElem? (i := 85) rfl)) (hw _ (List.mem_of_getElem? (i := 51) rfl)) (hw _ (List.mem_of_getElem? (i := 87) rfl)) (by decide) rfl (rm13 l Z a0 n0 hw [] (n57) (r37) ((Int32.ofNat o38)) (((Int32.ofNat o38) + (1 : Int32))) (n54) ((own_A [b0, b1, b2, b3, b4, b5, b6, b7] o38 k41)) ((own_B [b0, b1, b2, b3, b4, b5, b6, b7] o38 k41)) (c55) ([b0, b1, b2, b3, b4, b5, b6, b7]) (o38) (k41) ([(n50, "com/example/ferrywire/ferrywire/protocol/Signature", [("com/example/ferrywire/ferrywire/protocol/Signature", "blockLength", "I", (.int (1 : Int32))), ("com/example/ferrywire/ferrywire/protocol/Signature", "size", "J", (.long (0 : Int64))), ("com/example/ferrywire/ferrywire/protocol/Signature", "blockCount", "I", (.int (0 : Int32))), ("com/example/ferrywire/ferrywire/protocol/Signature", "weak", "[I", (.ref c51)), ("com/example/ferrywire/ferrywire/protocol/Signature", "strong", "[B", (.ref c52))])]) ([(c52, .byte, []), (c51, .int, [])]) (rfl) (rfl) (own_in8 hp43 h217_57) (by simp)) (argsL := [(.ref r37), (.int (Int32.ofNat o38)), (.int ((Int32.ofNat o38) + (1 : Int32))), (.ref n54)]) (rest := []) rfl rfl pd_10 rfl (W := 0) rfl (by decide) (by decide) (cells' := 7) (slots' := 20) rfl rfl (by decide) (by decide) (Ret.k (S' := [(.int ((Int32.ofNat o38) + (1 : Int32)))]) rfl ?_)
    refine Run.as (D' := ([(n54, "com/example/ferrywire/ferrywire/core/WeakSumFilter", [("com/example/ferrywire/ferrywire/core/WeakSumFilter", "shift", "I", (.int (26 : Int32))), ("com/example/ferrywire/ferrywire/core/WeakSumFilter", "bits", "[J", (.ref c55))]), (n57, "com/example/ferrywire/ferrywire/core/RollingSum", [("com/example/ferrywire/ferrywire/core/RollingSum", "length", "I", (.int (Int32.ofNat k41))), ("com/example/ferrywire/ferrywire/core/RollingSum", "a", "I", (.int ((own_A [b0, b1, b2, b3, b4, b5, b6, b7] o38 k41) + ((([b0, b1, b2, b3, b4, b5, b6, b7].getD (o38 + k41) 0) &&& (255 : Int32)) - (([b0, b1, b2, b3, b4, b5, b6, b7].getD o38 0) &&& (255 : Int32)))))), ("com/example/ferrywire/ferrywire/core/RollingSum", "b", "I", (.int ((own_B [b0, b1, b2, b3, b4, b5, b6, b7] o38 k41) + (((own_A [b0, b1, b2, b3, b4, b5, b6, b7] o38 k41) + ((([b0, b1, b2, b3, b4, b5, b6, b7].getD (o38 + k41) 0) &&& (255 : Int32)) - (([b0, b1, b2, b3, b4, b5, b6, b7].getD o38 0) &&& (255 : Int32)))) - ((Int32.ofNat k41) * (([b0, b1, b2, b3, b4, b5, b6, b7].getD o38 0) &&& (255 : Int32)))))))]), (n50, "com/example/ferrywire/ferrywire/protocol/Signature", [("com/example/ferrywire/ferrywire/protocol/Signature", "blockLength", "I", (.int (1 : Int32))), ("com/example/ferrywire/ferrywire/protocol/Signature", "size", "J", (.long (0 : Int64))), ("com/example/ferrywire/ferrywire/protocol/Signature", "blockCount", "I", (.int (0 : Int32))), ("com/example/ferrywire/ferrywire/protocol/Signature", "weak", "[I", (.ref c51)), ("com/example/ferrywire/ferrywire/protocol/Signature", "strong", "[B", (.ref c52))])], [(c55, .long, [(.long (0 : Int64))]), (r37, .byte, ([b0, b1, b2, b3, b4, b5, b6, b7].map Value.int)), (c52, .byte, []), (c51, .int, [])])) rfl ?_
    refine Run.istore K at_235 (pc' := 237) rfl (L' := #[.val (.long p1), .second, .val (.int p2), .val (.int p3), .val (.int p4), .val (.ref r37), .val (.int (Int32.ofNat o38)), .val (.int (Int32.ofNat k41)), .val (.int (Int32.ofNat o44)), .val (.int (Int32.ofNat k47)), .val (.ref n50), .val (.ref n54), .val (.ref n57), .val (.int (1 : Int32)), .val (.int ((Int32.ofNat o38) + (1 : Int32)))]) rfl ?_
    refine Run.iload K at_237 (pc' := 239) rfl rfl ?_
    refine Run.ifcF K at_239 (pT := 274) (pF := 242) (by decide) (by decide) rfl (show ¬ ((1 : Int32) = (0 : Int32)) from by decide) ?_
    refine Run.iload K at_242 (pc' := 244) rfl rfl ?_
    refine Run.iload K at_244 (pc' := 246) rfl rfl ?_
    refine Run.iconst K at_246 (pc' := 247) rfl (v := (1 : Int32)) rfl ?_
    refine Run.iadd K at_247 (pc' := 248) rfl ?_
    refine Run.icmpF K at_248 (pT := 274) (pF := 251) (by decide) (by decide) rfl (show ¬ (((Int32.ofNat o38) + (1 : Int32)) ≠ ((Int32.ofNat o38) + (1 : Int32))) from fun h => h rfl) ?_
    refine Run.aload K at_251 (pc' := 253) rfl rfl rfl ?_
    refine Run.bring 1 0 (D' := ([(n57, "com/example/ferrywire/ferrywire/core/RollingSum", [("com/example/ferrywire/ferrywire/core/RollingSum", "length", "I", (.int (Int32.ofNat k41))), ("com/example/ferrywire/ferrywire/core/RollingSum", "a", "I", (.int ((own_A [b0, b1, b2, b3, b4, b5, b6, b7] o38 k41) + ((([b0, b1, b2, b3, b4, b5, b6, b7].getD (o38 + k41) 0) &&& (255 : Int32)) - (([b0, b1, b2, b3, b4, b5, b6, b7].getD o38 0) &&& (255 : Int32)))))), ("com/example/ferrywire/ferrywire/core/RollingSum", "b", "I", (.int ((own_B [b0, b1, b2, b3, b4, b5, b6, b7] o38 k41) + (((own_A [b0, b1, b2, b3, b4, b5, b6, b7] o38 k41) + ((([b0, b1, b2, b3, b4, b5, b6, b7].getD (o38 + k41) 0) &&& (255 : Int32)) - (([b0, b1, b2, b3, b4, b5, b6, b7].getD o38 0) &&& (255 : Int32)))) - ((Int32.ofNat k41) * (([b0, b1, b2, b3, b4, b5, b6, b7].getD o38 0) &&& (255 : Int32)))))))]), (n54, "com/example/ferrywire/ferrywire/core/WeakSumFilter", [("com/example/ferrywire/ferrywire/core/WeakSumFilter", "shift", "I", (.int (26 : Int32))), ("com/example/ferrywire/ferrywire/core/WeakSumFilter", "bits", "[J", (.ref c55))]), (n50, "com/example/ferrywire/ferrywire/protocol/Signature", [("com/example/ferrywire/ferrywire/protocol/Signature", "blockLength", "I", (.int (1 : Int32))), ("com/example/ferrywire/ferrywire/protocol/Signature", "size", "J", (.long (0 : Int64))), ("com/example/ferrywire/ferrywire/protocol/Signature", "blockCount", "I", (.int (0 : Int32))), ("com/example/ferrywire/ferrywire/protocol/Signature", "weak", "[I", (.ref c51)), ("com/example/ferrywire/ferrywire/protocol/Signature", "strong", "[B", (.ref c52))])], [(c55, .long, [(.long (0 : Int64))]), (r37, .byte, ([b0, b1, b2, b3, b4, b5, b6, b7].map Value.int)), (c52, .byte, []), (c51, .int, [])])) rfl ?_
    refine Run.callV K at_253 (pc' := 256) rfl (a := n57) (z := (⟨"com/example/ferrywire/ferrywire/core/RollingSum", "value", "()I"⟩ : MethodName)) (Cn := "com/example/ferrywire/ferrywire/core/RollingSum") (i := 0) (hw _ (List.mem_of_getElem? (i := 67) rfl)) (hw _ (List.mem_of_getElem? (i := 68) rfl)) (hw _ (List.mem_of_getElem? (i := 70) rfl)) (hw _ (List.mem_of_getElem? (i := 69) rfl)) (hw _ (List.mem_of_getElem? (i := 51) rfl)) (hw _ (List.mem_of_getElem? (i := 71) rfl)) (by decide) rfl (rm9 l Z a0 n0 hw [] (n57) ((Int32.ofNat k41)) (((own_A [b0, b1, b2, b3, b4, b5, b6, b7] o38 k41) + ((([b0, b1, b2, b3, b4, b5, b6, b7].getD (o38 + k41) 0) &&& (255 : Int32)) - (([b0, b1, b2, b3, b4, b5, b6, b7].getD o38 0) &&& (255 : Int32))))) (((own_B [b0, b1, b2, b3, b4, b5, b6, b7] o38 k41) + (((own_A [b0, b1, b2, b3, b4, b5, b6, b7] o38 k41) + ((([b0, b1, b2, b3, b4, b5, b6, b7].getD (o38 + k41) 0) &&& (255 : Int32)) - (([b0, b1, b2, b3, b4, b5, b6, b7].getD o38 0) &&& (255 : Int32)))) - ((Int32.ofNat k41) * (([b0, b1, b2, b3, b4, b5, b6, b7].getD o38 0) &&& (255 : Int32)))))) ([(n54, "com/example/ferrywire/ferrywire/core/WeakSumFilter", [("com/example/ferrywire/ferrywire/core/WeakSumFilter", "shift", "I", (.int (26 : Int32))), ("com/example/ferrywire/ferrywire/core/WeakSumFilter", "bits", "[J", (.ref c55))]), (n50, "com/example/ferrywire/ferrywire/protocol/Signature", [("com/example/ferrywire/ferrywire/protocol/Signature", "blockLength", "I", (.int (1 : Int32))), ("com/example/ferrywire/ferrywire/protocol/Signature", "size", "J", (.long (0 : Int64))), ("com/example/ferrywire/ferrywire/protocol/Signature", "blockCount", "I", (.int (0 : Int32))), ("com/example/ferrywire/ferrywire/protocol/Signature", "weak", "[I", (.ref c51)), ("com/example/ferrywire/ferrywire/protocol/Signature", "strong", "[B", (.ref c52))])]) ([(c55, .long, [(.long (0 : Int64))]), (r37, .byte, ([b0, b1, b2, b3, b4, b5, b6, b7].map Value.int)), (c52, .byte, []), (c51, .int, [])]) ) (argsL := []) (rest := []) rfl rfl pd_8 rfl (W := 0) rfl (by decide) (by decide) (cells' := 7) (slots' := 20) rfl rfl (by decide) (by decide) (Ret.k (S' := [(.int ((((own_B [b0, b1, b2, b3, b4, b5, b6, b7] o38 k41) + (((own_A [b0, b1, b2, b3, b4, b5, b6, b7] o38 k41) + ((([b0, b1, b2, b3, b4, b5, b6, b7].getD (o38 + k41) 0) &&& (255 : Int32)) - (([b0, b1, b2, b3, b4, b5, b6, b7].getD o38 0) &&& (255 : Int32)))) - ((Int32.ofNat k41) * (([b0, b1, b2, b3, b4, b5, b6, b7].getD o38 0) &&& (255 : Int32))))) <<< ((16 : Int32) &&& 31)) ||| (((own_A [b0, b1, b2, b3, b4, b5, b6, b7] o38 k41) + ((([b0, b1, b2, b3, b4, b5, b6, b7].getD (o38 + k41) 0) &&& (255 : Int32)) - (([b0, b1, b2, b3, b4, b5, b6, b7].getD o38 0) &&& (255 : Int32)))) &&& (65535 : Int32))))]) rfl ?_)
    refine Run.as (D' := ([(n57, "com/example/ferrywire/ferrywire/core/RollingSum", [("com/example/ferrywire/ferrywire/core/RollingSum", "length", "I", (.int (Int32.ofNat k41))), ("com/example/ferrywire/ferrywire/core/RollingSum", "a", "I", (.int ((own_A [b0, b1, b2, b3, b4, b5, b6, b7] o38 k41) + ((([b0, b1, b2, b3, b4, b5, b6, b7].getD (o38 + k41) 0) &&& (255 : Int32)) - (([b0, b1, b2, b3, b4, b5, b6, b7].getD o38 0) &&& (255 : Int32)))))), ("com/example/ferrywire/ferrywire/core/RollingSum", "b", "I", (.int ((own_B [b0, b1, b2, b3, b4, b5, b6, b7] o38 k41) + (((own_A [b0, b1, b2, b3, b4, b5, b6, b7] o38 k41) + ((([b0, b1, b2, b3, b4, b5, b6, b7].getD (o38 + k41) 0) &&& (255 : Int32)) - (([b0, b1, b2, b3, b4, b5, b6, b7].getD o38 0) &&& (255 : Int32)))) - ((Int32.ofNat k41) * (([b0, b1, b2, b3, b4, b5, b6, b7].getD o38 0) &&& (255 : Int32)))))))]), (n54, "com/example/ferrywire/ferrywire/core/WeakSumFilter", [("com/example/ferrywire/ferrywire/core/WeakSumFilter", "shift", "I", (.int (26 : Int32))), ("com/example/ferrywire/ferrywire/core/WeakSumFilter", "bits", "[J", (.ref c55))]), (n50, "com/example/ferrywire/ferrywire/protocol/Signature", [("com/example/ferrywire/ferrywire/protocol/Signature", "blockLength", "I", (.int (1 : Int32))), ("com/example/ferrywire/ferrywire/protocol/Signature", "size", "J", (.long (0 : Int64))), ("com/example/ferrywire/ferrywire/protocol/Signature", "blockCount", "I", (.int (0 : Int32))), ("com/example/ferrywire/ferrywire/protocol/Signature", "weak", "[I", (.ref c51)), ("com/example/ferrywire/ferrywire/protocol/Signature", "strong", "[B", (.ref c52))])], [(c55, .long, [(.long (0 : Int64))]), (r37, .byte, ([b0, b1, b2, b3, b4, b5, b6, b7].map Value.int)), (c52, .byte, []), (c51, .int, [])])) rfl ?_
    refine Run.aload K at_256 (pc' := 258) rfl rfl rfl ?_
    refine Run.iload K at_258 (pc' := 260) rfl rfl ?_
    refine Run.iconst K at_260 (pc' := 261) rfl (v := (1 : Int32)) rfl ?_
    refine Run.iadd K at_261 (pc' := 262) rfl ?_
    refine Run.iload K at_262 (pc' := 264) rfl rfl ?_
    refine Run.bring 0 1 (D' := ([(n57, "com/example/ferrywire/ferrywire/core/RollingSum", [("com/example/ferrywire/ferrywire/core/RollingSum", "length", "I", (.int (Int32.ofNat k41))), ("com/example/ferrywire/ferrywire/core/RollingSum", "a", "I", (.int ((own_A [b0, b1, b2, b3, b4, b5, b6, b7] o38 k41) + ((([b0, b1, b2, b3, b4, b5, b6, b7].getD (o38 + k41) 0) &&& (255 : Int32)) - (([b0, b1, b2, b3, b4, b5, b6, b7].getD o38 0) &&& (255 : Int32)))))), ("com/example/ferrywire/ferrywire/core/RollingSum", "b", "I", (.int ((own_B [b0, b1, b2, b3, b4, b5, b6, b7] o38 k41) + (((own_A [b0, b1, b2, b3, b4, b5, b6, b7] o38 k41) + ((([b0, b1, b2, b3, b4, b5, b6, b7].getD (o38 + k41) 0) &&& (255 : Int32)) - (([b0, b1, b2, b3, b4, b5, b6, b7].getD o38 0) &&& (255 : Int32)))) - ((Int32.ofNat k41) * (([b0, b1, b2, b3, b4, b5, b6, b7].getD o38 0) &&& (255 : Int32)))))))]), (n54, "com/example/ferrywire/ferrywire/core/WeakSumFilter", [("com/example/ferrywire/ferrywire/core/WeakSumFilter", "shift", "I", (.int (26 : Int32))), ("com/example/ferrywire/ferrywire/core/WeakSumFilter", "bits", "[J", (.ref c55))]), (n50, "com/example/ferrywire/ferrywire/protocol/Signature", [("com/example/ferrywire/ferrywire/protocol/Signature", "blockLength", "I", (.int (1 : Int32))), ("com/example/ferrywire/ferrywire/protocol/Signature", "size", "J", (.long (0 : Int64))), ("com/example/ferrywire/ferrywire/protocol/Signature", "blockCount", "I", (.int (0 : Int32))), ("com/example/ferrywire/ferrywire/protocol/Signature", "weak", "[I", (.ref c51)), ("com/example/ferrywire/ferrywire/protocol/Signature", "strong", "[B", (.ref c52))])], [(r37, .byte, ([b0, b1, b2, b3, b4, b5, b6, b7].map Value.int)), (c55, .long, [(.long (0 : Int64))]), (c52, .byte, []), (c51, .int, [])])) rfl ?_
    refine Run.callS K at_264 (pc' := 267) rfl (hw _ (List.mem_of_getElem? (i := 76) rfl)) (hw _ (List.mem_of_getElem? (i := 77) rfl)) (hw _ (List.mem_of_getElem? (i := 78) rfl)) (hw _ (List.mem_of_getElem? (i := 79) rfl)) (by decide) (rm11 l Z a0 n0 hw [] (r37) (((Int32.ofNat o38) + (1 : Int32))) ((Int32.ofNat k41)) ([b0, b1, b2, b3, b4, b5, b6, b7]) ((o38 + 1)) (k41) ([(n57, "com/example/ferrywire/ferrywire/core/RollingSum", [("com/example/ferrywire/ferrywire/core/RollingSum", "length", "I", (.int (Int32.ofNat k41))), ("com/example/ferrywire/ferrywire/core/RollingSum", "a", "I", (.int ((own_A [b0, b1, b2, b3, b4, b5, b6, b7] o38 k41) + ((([b0, b1, b2, b3, b4, b5, b6, b7].getD (o38 + k41) 0) &&& (255 : Int32)) - (([b0, b1, b2, b3, b4, b5, b6, b7].getD o38 0) &&& (255 : Int32)))))), ("com/example/ferrywire/ferrywire/core/RollingSum", "b", "I", (.int ((own_B [b0, b1, b2, b3, b4, b5, b6, b7] o38 k41) + (((own_A [b0, b1, b2, b3, b4, b5, b6, b7] o38 k41) + ((([b0, b1, b2, b3, b4, b5, b6, b7].getD (o38 + k41) 0) &&& (255 : Int32)) - (([b0, b1, b2, b3, b4, b5, b6, b7].getD o38 0) &&& (255 : Int32)))) - ((Int32.ofNat k41) * (([b0, b1, b2, b3, b4, b5, b6, b7].getD o38 0) &&& (255 : Int32)))))))]), (n54, "com/example/ferrywire/ferrywire/core/WeakSumFilter", [("com/example/ferrywire/ferrywire/core/WeakSumFilter", "shift", "I", (.int (26 : Int32))), ("com/example/ferrywire/ferrywire/core/WeakSumFilter", "bits", "[J", (.ref c55))]), (n50, "com/example/ferrywire/ferrywire/protocol/Signature", [("com/example/ferrywire/ferrywire/protocol/Signature", "blockLength", "I", (.int (1 : Int32))), ("com/example/ferrywire/ferrywire/protocol/Signature", "size", "J", (.long (0 : Int64))), ("com/example/ferrywire/ferrywire/protocol/Signature", "blockCount", "I", (.int (0 : Int32))), ("com/example/ferrywire/ferrywire/protocol/Signature", "weak", "[I", (.ref c51)), ("com/example/ferrywire/ferrywire/protocol/Signature", "strong", "[B", (.ref c52))])]) ([(c55, .long, [(.long (0 : Int64))]), (c52, .byte, []), (c51, .int, [])]) (own_succ _) (rfl) (own_up8 hp43 h217_57) (by simp)) (argsL := [(.ref r37), (.int ((Int32.ofNat o38) + (1 : Int32))), (.int (Int32.ofNat k41))]) (rest := [(.int ((((own_B [b0, b1, b2, b3, b4, b5, b6, b7] o38 k41) + (((own_A [b0, b1, b2, b3, b4, b5, b6, b7] o38 k41) + ((([b0, b1, b2, b3, b4, b5, b6, b7].getD (o38 + k41) 0) &&& (255 : Int32)) - (([b0, b1, b2, b3, b4, b5, b6, b7].getD o38 0) &&& (255 : Int32)))) - ((Int32.ofNat k41) * (([b0, b1, b2, b3, b4, b5, b6, b7].getD o38 0) &&& (255 : Int32))))) <<< ((16 : Int32) &&& 31)) ||| (((own_A [b0, b1, b2, b3, b4, b5, b6, b7] o38 k41) + ((([b0, b1, b2, b3, b4, b5, b6, b7].getD (o38 + k41) 0) &&& (255 : Int32)) - (([b0, b1, b2, b3, b4, b5, b6, b7].getD o38 0) &&& (255 : Int32)))) &&& (65535 : Int32))))]) rfl rfl pd_9 rfl (W := 1) rfl (by decide) (by decide) (cells' := 7) (slots' := 20) rfl rfl (by decide) (by decide) (Ret.k (S' := [(.int (((((((((((Int32.ofNat k41) * (own_u [b0, b1, b2, b3, b4, b5, b6, b7] (o38 + 1) k41 0)) + (((Int32.ofNat k41) - (1 : Int32)) * (own_u [b0, b1, b2, b3, b4, b5, b6, b7] (o38 + 1) k41 1))) + (((Int32.ofNat k41) - (2 : Int32)) * (own_u [b0, b1, b2, b3, b4, b5, b6, b7] (o38 + 1) k41 2))) + (((Int32.ofNat k41) - (3 : Int32)) * (own_u [b0, b1, b2, b3, b4, b5, b6, b7] (o38 + 1) k41 3))) + (((Int32.ofNat k41) - (4 : Int32)) * (own_u [b0, b1, b2, b3, b4, b5, b6, b7] (o38 + 1) k41 4))) + (((Int32.ofNat k41) - (5 : Int32)) * (own_u [b0, b1, b2, b3, b4, b5, b6, b7] (o38 + 1) k41 5))) + (((Int32.ofNat k41) - (6 : Int32)) * (own_u [b0, b1, b2, b3, b4, b5, b6, b7] (o38 + 1) k41 6))) + (((Int32.ofNat k41) - (7 : Int32)) * (own_u [b0, b1, b2, b3, b4, b5, b6, b7] (o38 + 1) k41 7))) <<< ((16 : Int32) &&& 31)) ||| (((((((((own_u [b0, b1, b2, b3, b4, b5, b6, b7] (o38 + 1) k41 0) + (own_u [b0, b1, b2, b3, b4, b5, b6, b7] (o38 + 1) k41 1)) + (own_u [b0, b1, b2, b3, b4, b5, b6, b7] (o38 + 1) k41 2)) + (own_u [b0, b1, b2, b3, b4, b5, b6, b7] (o38 + 1) k41 3)) + (own_u [b0, b1, b2, b3, b4, b5, b6, b7] (o38 + 1) k41 4)) + (own_u [b0, b1, b2, b3, b4, b5, b6, b7] (o38 + 1) k41 5)) + (own_u [b0, b1, b2, b3, b4, b5, b6, b7] (o38 + 1) k41 6)) + (own_u [b0, b1, b2, b3, b4, b5, b6, b7] (o38 + 1) k41 7)) &&& (65535 : Int32)))), (.int ((((own_B [b0, b1, b2, b3, b4, b5, b6, b7] o38 k41) + (((own_A [b0, b1, b2, b3, b4, b5, b6, b7] o38 k41) + ((([b0, b1, b2, b3, b4, b5, b6, b7].getD (o38 + k41) 0) &&& (255 : Int32)) - (([b0, b1, b2, b3, b4, b5, b6, b7].getD o38 0) &&& (255 : Int32)))) - ((Int32.ofNat k41) * (([b0, b1, b2, b3, b4, b5, b6, b7].getD o38 0) &&& (255 : Int32))))) <<< ((16 : Int32) &&& 31)) ||| (((own_A [b0, b1, b2, b3, b4, b5, b6, b7] o38 k41) + ((([b0, b1, b2, b3, b4, b5, b6, b7].getD (o38 + k41) 0) &&& (255 : Int32)) - (([b0, b1, b2, b3, b4, b5, b6, b7].getD o38 0) &&& (255 : Int32)))) &&& (65535 : Int32))))]) rfl ?_)
    refine Run.as (D' := ([(n57, "com/example/ferrywire/ferrywire/core/RollingSum", [("com/example/ferrywire/ferrywire/core/RollingSum", "length", "I", (.int (Int32.ofNat k41))), ("com/example/ferrywire/ferrywire/core/RollingSum", "a", "I", (.int ((own_A [b0, b1, b2, b3, b4, b5, b6, b7] o38 k41) + ((([b0, b1, b2, b3, b4, b5, b6, b7].getD (o38 + k41) 0) &&& (255 : Int32)) - (([b0, b1, b2, b3, b4, b5, b6, b7].getD o38 0) &&& (255 : Int32)))))), ("com/example/ferrywire/ferrywire/core/RollingSum", "b", "I", (.int ((own_B [b0, b1, b2, b3, b4, b5, b6, b7] o38 k41) + (((own_A [b0, b1, b2, b3, b4, b5, b6, b7] o38 k41) + ((([b0, b1, b2, b3, b4, b5, b6, b7].getD (o38 + k41) 0) &&& (255 : Int32)) - (([b0, b1, b2, b3, b4, b5, b6, b7].getD o38 0) &&& (255 : Int32)))) - ((Int32.ofNat k41) * (([b0, b1, b2, b3, b4, b5, b6, b7].getD o38 0) &&& (255 : Int32)))))))]), (n54, "com/example/ferrywire/ferrywire/core/WeakSumFilter", [("com/example/ferrywire/ferrywire/core/WeakSumFilter", "shift", "I", (.int (26 : Int32))), ("com/example/ferrywire/ferrywire/core/WeakSumFilter", "bits", "[J", (.ref c55))]), (n50, "com/example/ferrywire/ferrywire/protocol/Signature", [("com/example/ferrywire/ferrywire/protocol/Signature", "blockLength", "I", (.int (1 : Int32))), ("com/example/ferrywire/ferrywire/protocol/Signature", "size", "J", (.long (0 : Int64))), ("com/example/ferrywire/ferrywire/protocol/Signature", "blockCount", "I", (.int (0 : Int32))), ("com/example/ferrywire/ferrywire/protocol/Signature", "weak", "[I", (.ref c51)), ("com/example/ferrywire/ferrywire/protocol/Signature", "strong", "[B", (.ref c52))])], [(r37, .byte, ([b0, b1, b2, b3, b4, b5, b6, b7].map Value.int)), (c55, .long, [(.long (0 : Int64))]), (c52, .byte, []), (c51, .int, [])])) rfl ?_
    refine Run.icmpF K at_267 (pT := 274) (pF := 270) (by decide) (by decide) rfl (show ¬ (((((own_B [b0, b1, b2, b3, b4, b5, b6, b7] o38 k41) + (((own_A [b0, b1, b2, b3, b4, b5, b6, b7] o38 k41) + ((([b0, b1, b2, b3, b4, b5, b6, b7].getD (o38 + k41) 0) &&& (255 : Int32)) - (([b0, b1, b2, b3, b4, b5, b6, b7].getD o38 0) &&& (255 : Int32)))) - ((Int32.ofNat k41) * (([b0, b1, b2, b3, b4, b5, b6, b7].getD o38 0) &&& (255 : Int32))))) <<< ((16 : Int32) &&& 31)) ||| (((own_A [b0, b1, b2, b3, b4, b5, b6, b7] o38 k41) + ((([b0, b1, b2, b3, b4, b5, b6, b7].getD (o38 + k41) 0) &&& (255 : Int32)) - (([b0, b1, b2, b3, b4, b5, b6, b7].getD o38 0) &&& (255 : Int32)))) &&& (65535 : Int32))) ≠ (((((((((((Int32.ofNat k41) * (own_u [b0, b1, b2, b3, b4, b5, b6, b7] (o38 + 1) k41 0)) + (((Int32.ofNat k41) - (1 : Int32)) * (own_u [b0, b1, b2, b3, b4, b5, b6, b7] (o38 + 1) k41 1))) + (((Int32.ofNat k41) - (2 : Int32)) * (own_u [b0, b1, b2, b3, b4, b5, b6, b7] (o38 + 1) k41 2))) + (((Int32.ofNat k41) - (3 : Int32)) * (own_u [b0, b1, b2, b3, b4, b5, b6, b7] (o38 + 1) k41 3))) + (((Int32.ofNat k41) - (4 : Int32)) * (own_u [b0, b1, b2, b3, b4, b5, b6, b7] (o38 + 1) k41 4))) + (((Int32.ofNat k41) - (5 : Int32)) * (own_u [b0, b1, b2, b3, b4, b5, b6, b7] (o38 + 1) k41 5))) + (((Int32.ofNat k41) - (6 : Int32)) * (own_u [b0, b1, b2, b3, b4, b5, b6, b7] (o38 + 1) k41 6))) + (((Int32.ofNat k41) - (7 : Int32)) * (own_u [b0, b1, b2, b3, b4, b5, b6, b7] (o38 + 1) k41 7))) <<< ((16 : Int32) &&& 31)) ||| (((((((((own_u [b0, b1, b2, b3, b4, b5, b6, b7] (o38 + 1) k41 0) + (own_u [b0, b1, b2, b3, b4, b5, b6, b7] (o38 + 1) k41 1)) + (own_u [b0, b1, b2, b3, b4, b5, b6, b7] (o38 + 1) k41 2)) + (own_u [b0, b1, b2, b3, b4, b5, b6, b7] (o38 + 1) k41 3)) + (own_u [b0, b1, b2, b3, b4, b5, b6, b7] (o38 + 1) k41 4)) + (own_u [b0, b1, b2, b3, b4, b5, b6, b7] (o38 + 1) k41 5)) + (own_u [b0, b1, b2, b3, b4, b5, b6, b7] (o38 + 1) k41 6)) + (own_u [b0, b1, b2, b3, b4, b5, b6, b7] (o38 + 1) k41 7)) &&& (65535 : Int32)))) from fun h => h (own_eq2 [b0, b1, b2, b3, b4, b5, b6, b7] o38 k41 (own_l8 hp43))) ?_
    refine Run.iconst K at_270 (pc' := 271) rfl (v := (1 : Int32)) rfl ?_
    refine Run.goto K at_271 (pc' := 275) (by decide) (by decide) ?_
    refine Run.istore K at_275 (pc' := 277) rfl (L' := #[.val (.long p1), .second, .val (.int p2), .val (.int p3), .val (.int p4), .val (.ref r37), .val (.int (Int32.ofNat o38)), .val (.int (Int32.ofNat k41)), .val (.int (Int32.ofNat o44)), .val (.int (Int32.ofNat k47)), .val (.ref n50), .val (.ref n54), .val (.ref n57), .val (.int (1 : Int32)), .val (.int ((Int32.ofNat o38) + (1 : Int32)))]) rfl ?_
    refine Run.iload K at_277 (pc' := 279) rfl rfl ?_
    exact Run.retN K at_279 (w := (1 : Int32)) rfl (by decide) (by decide) (by decide) (by decide) rfl
set_option maxRecDepth 65536 in
set_option maxHeartbeats 40000000 in
theorem comes_1 {Post : Tables → Env → Array Value → State → Outcome → State → Prop} (hpost : ∀ tb e args s v u, (limb_1_1.after args s (.returned v) u = true ∧ limb_1_2.after args s (.returned v) u = true ∧ True) → FrameEnd s (.returned v) u (Jvm.fieldLocs frame_1_writes args s ++ Jvm.arrayLocs frame_1_arrays args s ++ Jvm.staticLocs frame_1_statics s) 24 128 → Post tb e args s (.returned v) u) :
    ArmFor flags0 classFile x code maxLocals ret World_1 tables_1 room_1 Calls_1 rest_1 Pre_1 Post := by
  intro l hfl _ _ p e ha hc hk s m args below hf hA hF happ hP
  obtain ⟨hcalls, hrest, hpre⟩ := hP
  obtain ⟨-, -, -, hnamed, -, -, -, hat⟩ := (Spec.applies_iff hf).mp happ
  obtain ⟨hg, hn⟩ := and_e (Cond.before_iff.mp (show (Jvm.Cond.and given_1 narrow_1).before args s = true from hpre))
  obtain ⟨g0, q0⟩ := and_e hg
  obtain ⟨w0, w1, w2, w3, rfl⟩ : ∃ w0 w1 w2 w3 : Value, args = #[w0, w1, w2, w3] := by
    have hs : args.size = 4 := by simpa [Cond.value, given_1] using g0
    obtain ⟨L⟩ := args
    match L, hs with
    | [w0, w1, w2, w3], _ => exact ⟨w0, w1, w2, w3, rfl⟩
  have hw := fun d (hd : d ∈ tables_1) => atoms_spec (ws := Jvm.Cond.code x code maxLocals ret :: tables_1) hat d (List.mem_cons_of_mem _ hd)
  obtain ⟨f0, q1⟩ := and_e q0
  obtain ⟨i0, e0⟩ := isL_v f0
  obtain rfl : w0 = (.long i0) := Option.some.inj e0
  obtain ⟨f1, q2⟩ := and_e q1
  obtain ⟨i1, e1⟩ := is_v f1
  obtain rfl : w1 = (.int i1) := Option.some.inj e1
  obtain ⟨f2, q3⟩ := and_e q2
  obtain ⟨i2, e2⟩ := is_v f2
  obtain rfl : w2 = (.int i2) := Option.some.inj e2
  obtain ⟨i3, e3⟩ := is_v q3
  obtain rfl : w3 = (.int i3) := Option.some.inj e3
  obtain ⟨n, o, h1, h2, h3, _, L, rfl, ⟨N, D', rfl, -⟩, hq⟩ := rm0 l s _ s.heap.size hw tables_1 i0 i1 i2 i3 s.heap ⟨Old.start s, fun _ h => (nomatch h), fun _ h => (nomatch h), List.nodup_nil⟩ p e ha hc hk s m _ below hf ((Spec.applies_iff_loose hf).mp happ).1 ⟨rfl, State.Warmed39.refl s, rfl⟩ trivial
  refine ⟨n, _, h1, h2, h3, hpost _ _ _ _ _ _ ⟨Cond.after_iff.mpr rfl, Cond.after_iff.mpr (eq_i res_at (Term.int_eval (1)) rfl), trivial⟩ ⟨hq.1, hq.2.1, (hq.2.2.sift fun y hy => Or.inr (N y hy)).mono (by decide) (by decide)⟩⟩
theorem main_1_1 : Claimed_1_1 := comes_1 fun _ _ _ _ _ _ h hF => ⟨h.1, hF⟩
theorem main_1_2 : Claimed_1_2 := comes_1 fun _ _ _ _ _ _ h hF => ⟨h.2.1, hF⟩
end Jvm.Pilot.@@N@@
namespace Jvm.Pilot.@@N@@
open Jvm Jvm.ClassFile Sem Op Lib Jvm.Free Jvm.Stand Jvm.Pilot.@@N@@.Jvm.D
/-! MADE BY PROGRAM (witnessworld.py) out of the Statement's table words and the real class files: 19 classes; the members and pool entries that the words name. The judged class is class 1, her method 3. -/
namespace start1
open Jvm.ClassFile
def u (s : String) : CpInfo := .utf8 (stringToUtf16 s)
/-- a pool by its gaps: so many unusable entries, then the entry; so many at the end -/
def gap : Nat → List CpInfo → List CpInfo
  | 0, r => r
  | n + 1, r => .unusable :: gap n r
def poolList (es : List (Nat × CpInfo)) (last : Nat) : List CpInfo := es.foldr (fun e r => gap e.1 (e.2 :: r)) (gap last [])
def pool (es : List (Nat × CpInfo)) (last : Nat) : Array CpInfo := ⟨poolList es last⟩
def fileOf (pool : Array CpInfo) (this : Nat) (attrs : Array Attribute := #[]) (ms : Array MethodInfo := #[]) (fl : Nat := 33) (sup : Nat := 0) (ifs : Array Nat := #[]) (fds : Array FieldInfo := #[]) : ClassFile where
  minorVersion := 0
  majorVersion := 65
  constantPool := pool
  accessFlags := fl
  thisClass := this
  superClass := sup
  interfaces := ifs
  fields := fds
  methods := ms
  attributes := attrs
def plain (name : String) (sup : Option ClassId) : Class where
  name := name
  kind := .ordinary
  loader := none
  accessFlags := 33
  super := sup
  interfaces := #[]
  cf := none
  fields := #[]
  methods := #[]
  instanceTypes := #[]
  staticTypes := #[]
  resolved := #[]
  callSites := []
  init := .initialized
  statics := none
  mirror := none

def pool0 : Array CpInfo := pool [(5, u "<init>"), (0, u "()V"), (1, .class_ 10), (1, u "java/lang/Object")] 113

def k0c0 : Code := { maxStack := 0, maxLocals := 1, code := object_method_1_code, exceptionTable := #[], attributes := #[] }
def k0m0 : Method := { name := "<init>", desc := "()V", sig := { parameters := [], returnType := none }, accessFlags := 1, code := some k0c0 }
/-- java/lang/Object -/
def k0 : Class := { plain "java/lang/Object" none with
  accessFlags := 33
  interfaces := #[]
  cf := some (fileOf pool0 8 #[] #[{ accessFlags := 1, nameIndex := 5, descriptorIndex := 6, attributes := #[] }] 33 0 #[] #[])
  fields := #[]
  methods := #[k0m0]
  instanceTypes := #[]
  staticTypes := #[]
  resolved := Array.replicate 124 none
  statics := none }

def pool1 : Array CpInfo := pool [(2, .class_ 4), (0, .nameAndType 5 6), (0, u "java/lang/Object"), (0, u "<init>"), (0, u "()V"), (0, .methodref 8 9), (0, .class_ 10), (0, .nameAndType 11 12), (0, u "com/example/ferrywire/ferrywire/core/RollingSumStartPinLaw"), (0, u "u"), (0, u "([BIII)I"), (0, .integer 65535), (0, .integer 2147483647), (0, .class_ 16), (0, u "com/example/ferrywire/ferrywire/protocol/Signature"), (0, .methodref 15 18), (0, .nameAndType 5 19), (0, u "(IJ)V"), (0, .class_ 21), (0, u "com/example/ferrywire/ferrywire/core/WeakSumFilter"), (0, .methodref 20 23), (0, .nameAndType 5 24), (0, u "(Lcom/example/ferrywire/ferrywire/protocol/Signature;I)V"), (0, .class_ 26), (0, u "com/example/ferrywire/ferrywire/core/RollingSum"), (0, .methodref 25 3), (0, .methodref 25 29), (0, .nameAndType 30 31), (0, u "start"), (0, u "([BII)V"), (0, .methodref 25 33), (0, .nameAndType 34 35), (0, u "value"), (0, u "()I"), (0, .methodref 8 37), (0, .nameAndType 38 39), (0, u "weak"), (0, u "([BII)I"), (0, .methodref 25 41), (0, .nameAndType 42 43), (0, u "rollOn"), (0, u "([BIILcom/example/ferrywire/ferrywire/core/WeakSumFilter;)I"), (3, u "law"), (0, u "(JIII)Z")] 7

def k1m0 : Method := { name := "<init>", desc := "()V", sig := { parameters := [], returnType := none }, accessFlags := 1, code := none }
def k1c1 : Code := { maxStack := 3, maxLocals := 4, code := method_2_code, exceptionTable := #[], attributes := #[] }
def k1m1 : Method := { name := "u", desc := "([BIII)I", sig := { parameters := [(.array .byte), .int, .int, .int], returnType := some .int }, accessFlags := 10, code := some k1c1 }
def k1c2 : Code := { maxStack := 4, maxLocals := 13, code := method_3_code, exceptionTable := #[], attributes := #[] }
def k1m2 : Method := { name := "weak", desc := "([BII)I", sig := { parameters := [(.array .byte), .int, .int], returnType := some .int }, accessFlags := 10, code := some k1c2 }
def k1c3 : Code := { maxStack := 5, maxLocals := 15, code := code, exceptionTable := #[], attributes := #[] }
def k1m3 : Method := { name := "law", desc := "(JIII)Z", sig := { parameters := [.long, .int, .int, .int], returnType := some .boolean }, accessFlags := 9, code := some k1c3 }
/-- com/example/ferrywire/ferrywire/core/RollingSumStartPinLaw -/
def k1 : Class := { plain "com/example/ferrywire/ferrywire/core/RollingSumStartPinLaw" (some 0) with
  accessFlags := 49
  interfaces := #[]
  cf := some (fileOf pool1 8 #[] #[{ accessFlags := 1, nameIndex := 5, descriptorIndex := 6, attributes := #[] }, { accessFlags := 10, nameIndex := 11, descriptorIndex := 12, attributes := #[] }, { accessFlags := 10, nameIndex := 38, descriptorIndex := 39, attributes := #[] }, { accessFlags := 9, nameIndex := 47, descriptorIndex := 48, attributes := #[] }] 49 2 #[] #[])
  fields := #[]
  methods := #[k1m0, k1m1, k1m2, k1m3]
  instanceTypes := #[]
  staticTypes := #[]
  resolved := Array.replicate 56 none
  statics := none }

def pool2 : Array CpInfo := pool [(1, .methodref 2 3), (0, .class_ 4), (0, .nameAndType 5 6), (0, u "java/lang/Object"), (0, u "<init>"), (0, u "()V"), (2, .integer 1048576), (15, .long 18446744073709551615), (1, .long 4194304), (9, .fieldref 38 39), (0, .class_ 40), (0, .nameAndType 41 42), (0, u "com/example/ferrywire/ferrywire/protocol/Signature"), (0, u "blockLength"), (0, u "I"), (0, .fieldref 38 44), (0, .nameAndType 45 46), (0, u "size"), (0, u "J"), (0, .fieldref 38 48), (0, .nameAndType 49 42), (0, u "blockCount"), (0, .methodref 51 52), (0, .class_ 53), (0, .nameAndType 54 55), (0, u "java/lang/Math"), (0, u "min"), (0, u "(II)I"), (0, .fieldref 38 57), (0, .nameAndType 58 59), (0, u "weak"), (0, u "[I"), (0, .fieldref 38 61), (0, .nameAndType 62 63), (0, u "strong"), (0, u "[B"), (9, u "count"), (60, u "FIRST_CAPACITY"), (2, u "(IJ)V")] 40

def k2c0 : Code := { maxStack := 4, maxLocals := 6, code := prog_188_method_1_code, exceptionTable := #[], attributes := #[] }
def k2m0 : Method := { name := "<init>", desc := "(IJ)V", sig := { parameters := [.int, .long], returnType := none }, accessFlags := 1, code := some k2c0 }
/-- com/example/ferrywire/ferrywire/protocol/Signature -/
def k2 : Class := { plain "com/example/ferrywire/ferrywire/protocol/Signature" (some 0) with
  accessFlags := 49
  interfaces := #[]
  cf := some (fileOf pool2 38 #[] #[{ accessFlags := 1, nameIndex := 5, descriptorIndex := 137, attributes := #[] }] 49 2 #[] #[{ accessFlags := 26, nameIndex := 134, descriptorIndex := 42, attributes := #[] }, { accessFlags := 18, nameIndex := 41, descriptorIndex := 42, attributes := #[] }, { accessFlags := 18, nameIndex := 45, descriptorIndex := 46, attributes := #[] }, { accessFlags := 18, nameIndex := 49, descriptorIndex := 42, attributes := #[] }, { accessFlags := 2, nameIndex := 58, descriptorIndex := 59, attributes := #[] }, { accessFlags := 2, nameIndex := 62, descriptorIndex := 63, attributes := #[] }, { accessFlags := 2, nameIndex := 73, descriptorIndex := 42, attributes := #[] }])
  fields := #[{ name := "FIRST_CAPACITY", type := .int, accessFlags := 26, slot := 0, constantValue := 0 }, { name := "blockLength", type := .int, accessFlags := 18, slot := 0, constantValue := 0 }, { name := "size", type := .long, accessFlags := 18, slot := 1, constantValue := 0 }, { name := "blockCount", type := .int, accessFlags := 18, slot := 2, constantValue := 0 }, { name := "weak", type := (.array .int), accessFlags := 2, slot := 3, constantValue := 0 }, { name := "strong", type := (.array .byte), accessFlags := 2, slot := 4, constantValue := 0 }, { name := "count", type := .int, accessFlags := 2, slot := 5, constantValue := 0 }]
  methods := #[k2m0]
  instanceTypes := #[.int, .long, .int, (.array .int), (.array .byte), .int]
  staticTypes := #[.int]
  resolved := Array.replicate 178 none
  statics := none }

def pool3 : Array CpInfo := pool [(1, .class_ 2), (0, u "java/lang/Math"), (1, .class_ 6), (1, u "java/lang/Object"), (0, u "<init>"), (0, u "()V"), (89, .class_ 100), (1, u "java/lang/Math$RandomNumberGeneratorHolder"), (71, u "negativeZeroFloatBits"), (0, u "J"), (2, u "negativeZeroDoubleBits"), (21, u "max"), (2, u "min"), (43, u "$assertionsDisabled"), (0, u "Z"), (88, u "(II)I"), (2, u "twoToTheDoubleScaleDown"), (0, u "D"), (4, u "twoToTheDoubleScaleUp"), (9, u "E"), (3, u "PI"), (2, u "TAU"), (2, u "DEGREES_TO_RADIANS"), (0, u "RADIANS_TO_DEGREES")] 94

def k3m0 : Method := { name := "<init>", desc := "()V", sig := { parameters := [], returnType := none }, accessFlags := 2, code := none }
def k3c1 : Code := { maxStack := 2, maxLocals := 2, code := jdk_29_method_65_code, exceptionTable := #[], attributes := #[] }
def k3m1 : Method := { name := "max", desc := "(II)I", sig := { parameters := [.int, .int], returnType := some .int }, accessFlags := 9, code := some k3c1 }
def k3c2 : Code := { maxStack := 2, maxLocals := 2, code := jdk_29_method_69_code, exceptionTable := #[], attributes := #[] }
def k3m2 : Method := { name := "min", desc := "(II)I", sig := { parameters := [.int, .int], returnType := some .int }, accessFlags := 9, code := some k3c2 }
/-- java/lang/Math -/
def k3 : Class := { plain "java/lang/Math" (some 0) with
  accessFlags := 49
  interfaces := #[]
  cf := some (fileOf pool3 1 #[.nestMembers #[98]] #[{ accessFlags := 2, nameIndex := 7, descriptorIndex := 8, attributes := #[] }, { accessFlags := 9, nameIndex := 198, descriptorIndex := 335, attributes := #[] }, { accessFlags := 9, nameIndex := 201, descriptorIndex := 335, attributes := #[] }] 49 4 #[] #[{ accessFlags := 25, nameIndex := 354, descriptorIndex := 339, attributes := #[] }, { accessFlags := 25, nameIndex := 358, descriptorIndex := 339, attributes := #[] }, { accessFlags := 25, nameIndex := 361, descriptorIndex := 339, attributes := #[] }, { accessFlags := 26, nameIndex := 364, descriptorIndex := 339, attributes := #[] }, { accessFlags := 26, nameIndex := 365, descriptorIndex := 339, attributes := #[] }, { accessFlags := 26, nameIndex := 172, descriptorIndex := 173, attributes := #[] }, { accessFlags := 26, nameIndex := 176, descriptorIndex := 173, attributes := #[] }, { accessFlags := 8, nameIndex := 344, descriptorIndex := 339, attributes := #[] }, { accessFlags := 8, nameIndex := 338, descriptorIndex := 339, attributes := #[] }, { accessFlags := 4120, nameIndex := 245, descriptorIndex := 246, attributes := #[] }])
  fields := #[{ name := "E", type := .double, accessFlags := 25, slot := 0, constantValue := 0 }, { name := "PI", type := .double, accessFlags := 25, slot := 1, constantValue := 0 }, { name := "TAU", type := .double, accessFlags := 25, slot := 2, constantValue := 0 }, { name := "DEGREES_TO_RADIANS", type := .double, accessFlags := 26, slot := 3, constantValue := 0 }, { name := "RADIANS_TO_DEGREES", type := .double, accessFlags := 26, slot := 4, constantValue := 0 }, { name := "negativeZeroFloatBits", type := .long, accessFlags := 26, slot := 5, constantValue := 0 }, { name := "negativeZeroDoubleBits", type := .long, accessFlags := 26, slot := 6, constantValue := 0 }, { name := "twoToTheDoubleScaleUp", type := .double, accessFlags := 8, slot := 7, constantValue := 0 }, { name := "twoToTheDoubleScaleDown", type := .double, accessFlags := 8, slot := 8, constantValue := 0 }, { name := "$assertionsDisabled", type := .boolean, accessFlags := 4120, slot := 9, constantValue := 0 }]
  methods := #[k3m0, k3m1, k3m2]
  instanceTypes := #[]
  staticTypes := #[.double, .double, .double, .double, .double, .long, .long, .double, .double, .boolean]
  resolved := Array.replicate 460 none
  statics := none }

def pool4 : Array CpInfo := pool [(1, .methodref 2 3), (0, .class_ 4), (0, .nameAndType 5 6), (0, u "java/lang/Object"), (0, u "<init>"), (0, u "()V"), (0, .methodref 8 9), (0, .class_ 10), (0, .nameAndType 11 12), (0, u "java/lang/Math"), (0, u "max"), (0, u "(II)I"), (0, .methodref 14 15), (0, .class_ 16), (0, .nameAndType 17 18), (0, u "java/lang/Integer"), (0, u "numberOfLeadingZeros"), (0, u "(I)I"), (0, .class_ 20), (0, u "com/example/ferrywire/ferrywire/core/WeakSumFilter"), (0, .methodref 8 22), (0, .nameAndType 23 12), (0, u "min"), (0, .fieldref 19 25), (0, .nameAndType 26 27), (0, u "shift"), (0, u "I"), (2, .fieldref 19 31), (0, .nameAndType 32 33), (0, u "bits"), (0, u "[J"), (5, .methodref 19 40), (0, .nameAndType 41 12), (0, u "spread"), (0, .integer 2654435769), (0, u "MOST_BITS_LOG"), (2, u "BITS_PER_BLOCK_LOG"), (1, u "(Lcom/example/ferrywire/ferrywire/protocol/Signature;I)V"), (3, u "mayHold"), (0, u "(I)Z")] 2

def k4c0 : Code := { maxStack := 7, maxLocals := 7, code := prog_84_method_1_code, exceptionTable := #[], attributes := #[] }
def k4m0 : Method := { name := "<init>", desc := "(Lcom/example/ferrywire/ferrywire/protocol/Signature;I)V", sig := { parameters := [(.object "com/example/ferrywire/ferrywire/protocol/Signature"), .int], returnType := none }, accessFlags := 0, code := some k4c0 }
def k4c1 : Code := { maxStack := 5, maxLocals := 3, code := prog_84_method_2_code, exceptionTable := #[], attributes := #[] }
def k4m1 : Method := { name := "mayHold", desc := "(I)Z", sig := { parameters := [.int], returnType := some .boolean }, accessFlags := 0, code := some k4c1 }
def k4c2 : Code := { maxStack := 2, maxLocals := 2, code := prog_84_method_3_code, exceptionTable := #[], attributes := #[] }
def k4m2 : Method := { name := "spread", desc := "(II)I", sig := { parameters := [.int, .int], returnType := some .int }, accessFlags := 8, code := some k4c2 }
/-- com/example/ferrywire/ferrywire/core/WeakSumFilter -/
def k4 : Class := { plain "com/example/ferrywire/ferrywire/core/WeakSumFilter" (some 0) with
  accessFlags := 48
  interfaces := #[]
  cf := some (fileOf pool4 19 #[] #[{ accessFlags := 0, nameIndex := 5, descriptorIndex := 48, attributes := #[] }, { accessFlags := 0, nameIndex := 52, descriptorIndex := 53, attributes := #[] }, { accessFlags := 8, nameIndex := 41, descriptorIndex := 12, attributes := #[] }] 48 2 #[] #[{ accessFlags := 26, nameIndex := 43, descriptorIndex := 27, attributes := #[] }, { accessFlags := 26, nameIndex := 46, descriptorIndex := 27, attributes := #[] }, { accessFlags := 18, nameIndex := 32, descriptorIndex := 33, attributes := #[] }, { accessFlags := 18, nameIndex := 26, descriptorIndex := 27, attributes := #[] }])
  fields := #[{ name := "MOST_BITS_LOG", type := .int, accessFlags := 26, slot := 0, constantValue := 0 }, { name := "BITS_PER_BLOCK_LOG", type := .int, accessFlags := 26, slot := 1, constantValue := 0 }, { name := "bits", type := (.array .long), accessFlags := 18, slot := 0, constantValue := 0 }, { name := "shift", type := .int, accessFlags := 18, slot := 1, constantValue := 0 }]
  methods := #[k4m0, k4m1, k4m2]
  instanceTypes := #[(.array .long), .int]
  staticTypes := #[.int, .int]
  resolved := Array.replicate 56 none
  statics := none }

def pool5 : Array CpInfo := pool [(1, .class_ 2), (0, u "java/io/Serializable"), (0, .class_ 4), (0, u "java/lang/Object")] 2

/-- java/io/Serializable -/
def k5 : Class := { plain "java/io/Serializable" (some 0) with
  accessFlags := 1537
  interfaces := #[]
  cf := some (fileOf pool5 1 #[] #[] 1537 3 #[] #[])
  fields := #[]
  methods := #[]
  instanceTypes := #[]
  staticTypes := #[]
  resolved := Array.replicate 7 none
  statics := none }

def pool6 : Array CpInfo := pool [(2, .class_ 4), (1, u "java/lang/Object"), (0, u "<init>"), (0, u "()V"), (1, .class_ 10), (1, u "java/lang/Number"), (2, .class_ 14), (0, u "java/io/Serializable"), (0, u "serialVersionUID"), (0, u "J")] 20

def k6m0 : Method := { name := "<init>", desc := "()V", sig := { parameters := [], returnType := none }, accessFlags := 1, code := none }
/-- java/lang/Number -/
def k6 : Class := { plain "java/lang/Number" (some 0) with
  accessFlags := 1057
  interfaces := #[5]
  cf := some (fileOf pool6 8 #[] #[{ accessFlags := 1, nameIndex := 5, descriptorIndex := 6, attributes := #[] }] 1057 2 #[13] #[{ accessFlags := 26, nameIndex := 15, descriptorIndex := 16, attributes := #[] }])
  fields := #[{ name := "serialVersionUID", type := .long, accessFlags := 26, slot := 0, constantValue := 0 }]
  methods := #[k6m0]
  instanceTypes := #[]
  staticTypes := #[.long]
  resolved := Array.replicate 37 none
  statics := none }

def pool7 : Array CpInfo := pool [(1, .class_ 2), (0, u "java/lang/Comparable"), (0, .class_ 4), (0, u "java/lang/Object")] 7

/-- java/lang/Comparable -/
def k7 : Class := { plain "java/lang/Comparable" (some 0) with
  accessFlags := 1537
  interfaces := #[]
  cf := some (fileOf pool7 1 #[] #[] 1537 3 #[] #[])
  fields := #[]
  methods := #[]
  instanceTypes := #[]
  staticTypes := #[]
  resolved := Array.replicate 12 none
  statics := none }

def pool8 : Array CpInfo := pool [(1, .class_ 2), (0, u "java/lang/constant/Constable"), (0, .class_ 4), (0, u "java/lang/Object")] 6

/-- java/lang/constant/Constable -/
def k8 : Class := { plain "java/lang/constant/Constable" (some 0) with
  accessFlags := 1537
  interfaces := #[]
  cf := some (fileOf pool8 1 #[] #[] 1537 3 #[] #[])
  fields := #[]
  methods := #[]
  instanceTypes := #[]
  staticTypes := #[]
  resolved := Array.replicate 11 none
  statics := none }

def pool9 : Array CpInfo := pool [(1, .class_ 2), (0, u "java/lang/constant/ConstantDesc"), (0, .class_ 4), (0, u "java/lang/Object")] 32

/-- java/lang/constant/ConstantDesc -/
def k9 : Class := { plain "java/lang/constant/ConstantDesc" (some 0) with
  accessFlags := 1537
  interfaces := #[]
  cf := some (fileOf pool9 1 #[] #[] 1537 3 #[] #[])
  fields := #[]
  methods := #[]
  instanceTypes := #[]
  staticTypes := #[]
  resolved := Array.replicate 37 none
  statics := none }

def pool10 : Array CpInfo := pool [(1, .class_ 2), (0, u "java/lang/Integer"), (16, u "digits"), (0, u "[C"), (32, u "numberOfLeadingZeros"), (0, u "(I)I"), (30, u "DigitOnes"), (0, u "[B"), (2, u "DigitTens"), (99, .class_ 190), (0, u "java/lang/Integer$IntegerCache"), (3, u "I"), (8, .class_ 204), (0, u "java/lang/Number"), (2, u "value"), (94, u "TYPE"), (0, u "Ljava/lang/Class;"), (0, .class_ 305), (0, u "java/lang/Comparable"), (0, .class_ 307), (0, u "java/lang/constant/Constable"), (0, .class_ 309), (0, u "java/lang/constant/ConstantDesc"), (0, u "MIN_VALUE"), (1, u "MAX_VALUE"), (3, u "SIZE"), (1, u "BYTES"), (1, u "serialVersionUID"), (0, u "J")] 131

def k10c0 : Code := { maxStack := 3, maxLocals := 2, code := jdk_33_method_47_code, exceptionTable := #[], attributes := #[] }
def k10m0 : Method := { name := "numberOfLeadingZeros", desc := "(I)I", sig := { parameters := [.int], returnType := some .int }, accessFlags := 9, code := some k10c0 }
/-- java/lang/Integer -/
def k10 : Class := { plain "java/lang/Integer" (some 6) with
  accessFlags := 49
  interfaces := #[7, 8, 9]
  cf := some (fileOf pool10 1 #[.nestMembers #[189]] #[{ accessFlags := 9, nameIndex := 53, descriptorIndex := 54, attributes := #[] }] 49 203 #[304, 306, 308] #[{ accessFlags := 25, nameIndex := 310, descriptorIndex := 194, attributes := #[] }, { accessFlags := 25, nameIndex := 312, descriptorIndex := 194, attributes := #[] }, { accessFlags := 25, nameIndex := 302, descriptorIndex := 303, attributes := #[] }, { accessFlags := 24, nameIndex := 19, descriptorIndex := 20, attributes := #[] }, { accessFlags := 24, nameIndex := 89, descriptorIndex := 86, attributes := #[] }, { accessFlags := 24, nameIndex := 85, descriptorIndex := 86, attributes := #[] }, { accessFlags := 18, nameIndex := 207, descriptorIndex := 194, attributes := #[] }, { accessFlags := 25, nameIndex := 316, descriptorIndex := 194, attributes := #[] }, { accessFlags := 25, nameIndex := 318, descriptorIndex := 194, attributes := #[] }, { accessFlags := 26, nameIndex := 320, descriptorIndex := 321, attributes := #[] }])
  fields := #[{ name := "MIN_VALUE", type := .int, accessFlags := 25, slot := 0, constantValue := 0 }, { name := "MAX_VALUE", type := .int, accessFlags := 25, slot := 1, constantValue := 0 }, { name := "TYPE", type := (.object "java/lang/Class"), accessFlags := 25, slot := 2, constantValue := 0 }, { name := "digits", type := (.array .char), accessFlags := 24, slot := 3, constantValue := 0 }, { name := "DigitTens", type := (.array .byte), accessFlags := 24, slot := 4, constantValue := 0 }, { name := "DigitOnes", type := (.array .byte), accessFlags := 24, slot := 5, constantValue := 0 }, { name := "value", type := .int, accessFlags := 18, slot := 0, constantValue := 0 }, { name := "SIZE", type := .int, accessFlags := 25, slot := 6, constantValue := 0 }, { name := "BYTES", type := .int, accessFlags := 25, slot := 7, constantValue := 0 }, { name := "serialVersionUID", type := .long, accessFlags := 26, slot := 8, constantValue := 0 }]
  methods := #[k10m0]
  instanceTypes := #[.int]
  staticTypes := #[.int, .int, (.object "java/lang/Class"), (.array .char), (.array .byte), (.array .byte), .int, .int, .long]
  resolved := Array.replicate 453 none
  statics := none }

def pool11 : Array CpInfo := pool [(1, .methodref 2 3), (0, .class_ 4), (0, .nameAndType 5 6), (0, u "java/lang/Object"), (0, u "<init>"), (0, u "()V"), (0, .class_ 8), (0, u "com/example/ferrywire/ferrywire/core/RollingSum"), (3, u "start"), (0, u "([BII)V"), (2, u "value"), (0, u "()I"), (0, .fieldref 7 19), (0, .nameAndType 20 21), (0, u "length"), (0, u "I"), (0, .fieldref 7 23), (0, .nameAndType 24 21), (0, u "a"), (0, .fieldref 7 26), (0, .nameAndType 27 21), (0, u "b"), (0, .methodref 7 29), (0, .nameAndType 30 31), (0, u "sum"), (0, u "(II)I"), (0, .methodref 33 34), (0, .class_ 35), (0, .nameAndType 36 37), (0, u "com/example/ferrywire/ferrywire/core/WeakSumFilter"), (0, u "mayHold"), (0, u "(I)Z"), (0, .integer 65535), (5, u "rollOn"), (0, u "([BIILcom/example/ferrywire/ferrywire/core/WeakSumFilter;)I")] 2

def k11c0 : Code := { maxStack := 1, maxLocals := 1, code := prog_63_method_1_code, exceptionTable := #[], attributes := #[] }
def k11m0 : Method := { name := "<init>", desc := "()V", sig := { parameters := [], returnType := none }, accessFlags := 0, code := some k11c0 }
def k11c1 : Code := { maxStack := 3, maxLocals := 7, code := prog_63_method_3_code, exceptionTable := #[], attributes := #[] }
def k11m1 : Method := { name := "start", desc := "([BII)V", sig := { parameters := [(.array .byte), .int, .int], returnType := none }, accessFlags := 0, code := some k11c1 }
def k11c2 : Code := { maxStack := 4, maxLocals := 9, code := prog_63_method_4_code, exceptionTable := #[], attributes := #[] }
def k11m2 : Method := { name := "rollOn", desc := "([BIILcom/example/ferrywire/ferrywire/core/WeakSumFilter;)I", sig := { parameters := [(.array .byte), .int, .int, (.object "com/example/ferrywire/ferrywire/core/WeakSumFilter")], returnType := some .int }, accessFlags := 0, code := some k11c2 }
def k11c3 : Code := { maxStack := 2, maxLocals := 1, code := prog_63_method_5_code, exceptionTable := #[], attributes := #[] }
def k11m3 : Method := { name := "value", desc := "()I", sig := { parameters := [], returnType := some .int }, accessFlags := 0, code := some k11c3 }
def k11c4 : Code := { maxStack := 3, maxLocals := 2, code := prog_63_method_6_code, exceptionTable := #[], attributes := #[] }
def k11m4 : Method := { name := "sum", desc := "(II)I", sig := { parameters := [.int, .int], returnType := some .int }, accessFlags := 10, code := some k11c4 }
/-- com/example/ferrywire/ferrywire/core/RollingSum -/
def k11 : Class := { plain "com/example/ferrywire/ferrywire/core/RollingSum" (some 0) with
  accessFlags := 48
  interfaces := #[]
  cf := some (fileOf pool11 7 #[] #[{ accessFlags := 0, nameIndex := 5, descriptorIndex := 6, attributes := #[] }, { accessFlags := 0, nameIndex := 12, descriptorIndex := 13, attributes := #[] }, { accessFlags := 0, nameIndex := 44, descriptorIndex := 45, attributes := #[] }, { accessFlags := 0, nameIndex := 16, descriptorIndex := 17, attributes := #[] }, { accessFlags := 10, nameIndex := 30, descriptorIndex := 31, attributes := #[] }] 48 2 #[] #[{ accessFlags := 2, nameIndex := 20, descriptorIndex := 21, attributes := #[] }, { accessFlags := 2, nameIndex := 24, descriptorIndex := 21, attributes := #[] }, { accessFlags := 2, nameIndex := 27, descriptorIndex := 21, attributes := #[] }])
  fields := #[{ name := "length", type := .int, accessFlags := 2, slot := 0, constantValue := 0 }, { name := "a", type := .int, accessFlags := 2, slot := 1, constantValue := 0 }, { name := "b", type := .int, accessFlags := 2, slot := 2, constantValue := 0 }]
  methods := #[k11m0, k11m1, k11m2, k11m3, k11m4]
  instanceTypes := #[.int, .int, .int]
  staticTypes := #[]
  resolved := Array.replicate 48 none
  statics := none }

def pool12 : Array CpInfo := pool [(1, u "java/lang/Cloneable"), (0, .class_ 1), (0, u "java/lang/Object"), (0, .class_ 3)] 3

/-- java/lang/Cloneable -/
def k12 : Class := { plain "java/lang/Cloneable" (some 0) with
  accessFlags := 1537
  interfaces := #[]
  cf := some (fileOf pool12 2 #[] #[] 1537 4 #[] #[])
  fields := #[]
  methods := #[]
  instanceTypes := #[]
  staticTypes := #[]
  resolved := Array.replicate 8 none
  statics := none }

/-- the primitive byte -/
def k13 : Class := { plain "byte" none with kind := .primitive 'B', accessFlags := 0x411 }
/-- [B -/
def k14 : Class := { plain "[B" (some 0) with kind := .array 13 .byte, interfaces := #[12, 5], accessFlags := 1041 }

/-- the primitive int -/
def k15 : Class := { plain "int" none with kind := .primitive 'I', accessFlags := 0x411 }
/-- [I -/
def k16 : Class := { plain "[I" (some 0) with kind := .array 15 .int, interfaces := #[12, 5], accessFlags := 1041 }

/-- the primitive long -/
def k17 : Class := { plain "long" none with kind := .primitive 'J', accessFlags := 0x411 }
/-- [J -/
def k18 : Class := { plain "[J" (some 0) with kind := .array 17 .long, interfaces := #[12, 5], accessFlags := 1041 }

def heap : Heap := #[]
def classes : Array Class := #[k0, k1, k2, k3, k4, k5, k6, k7, k8, k9, k10, k11, k12, k13, k14, k15, k16, k17, k18]
def interned : List (Array UInt16 × Addr) := []
def slotsUsed : Nat := 0
def theMethod : MethodId := ⟨1, 3⟩
def args0 : Array Value := #[.long 5, .int 5, .int 5, .int 5]
def aboutOver (below : List Frame) : State where
  vm := { classes := classes, interned := interned.toArray }
  heap := heap
  slotsUsed := slotsUsed
  threads := #[{ frames := .invoking theMethod args0 :: below }]
def below0 : List Frame := [.native { method := ⟨0, 0⟩, args := #[] }]
def about1 : State := aboutOver below0
def p0 : Program := .bare "" "" ""
def e0 : Env := launch0.env 0 0 0
theorem w_frames : about1.frames = Frame.invoking theMethod args0 :: below0 := rfl
set_option maxRecDepth 65536 in
theorem w_args : argsFit about1.vm theMethod args0 = true := by decide +kernel
set_option maxRecDepth 65536 in
theorem w_heap : heapFits about1 = true := by decide +kernel
set_option maxRecDepth 65536 in
theorem w_runnable : about1.curStatus? = some .runnable := by decide +kernel
set_option maxRecDepth 65536 in
theorem w_alone : about1.alone = true := by decide +kernel
set_option maxRecDepth 65536 in
theorem w_named : about1.methodNamed? x = some theMethod := by decide +kernel
set_option maxRecDepth 65536 in
theorem w_hears : about1.hears theMethod below0 = true := by decide +kernel
set_option maxRecDepth 65536 in
theorem w_ripe : about1.ripe theMethod args0 below0 = true := by decide +kernel
theorem w_running : about1.status = .running := rfl
set_option maxRecDepth 65536 in
theorem w_room : about1.hasRoom e0.platform room_1 = true :=
  launch0.hasRoom_least _ room_1 (by decide +kernel) (by decide +kernel) (by decide +kernel) (by decide +kernel) (by decide +kernel) (by decide +kernel)
theorem allAtoms_all (ts : List Jvm.Cond) (a : Array Jvm.Value) (st : Jvm.State) : (allAtoms ts).before a st = ts.all (fun c => c.before a st) := by
  induction ts with
  | nil => rfl
  | cons c t ih =>
    show (Jvm.Cond.and c (allAtoms t)).before a st = _
    rw [Jvm.Cond.before_and, ih, List.all_cons]
def words1 : List Jvm.Cond := Jvm.Cond.code x code maxLocals ret :: tables_1
/-- a 'code' word, met by the world's own term for the bytes: nothing is compared byte by byte -/
theorem code_word {y : MethodName} {bytes : ByteArray} {mx : Nat} {rt : Option FieldType} {a : Array Value} {s : State} {m : MethodId} {meth : Method} {c : Code} (h1 : s.methodNamed? y = some m) (h2 : s.vm.method? m = some meth) (h3 : meth.code = some c) (h4 : c.code = bytes)
    (h5 : (c.maxLocals == mx && c.exceptionTable.isEmpty && decide (c.maxStack ≤ mostOperands) && decide (meth.sig.returnType = rt) && !meth.locks && decide (parseMethodDescriptor y.desc = some meth.sig)) = true) : (Jvm.Cond.code y bytes mx rt).before a s = true := by
  simp only [Bool.and_eq_true, beq_iff_eq, Bool.not_eq_true', decide_eq_true_eq] at h5
  obtain ⟨⟨⟨⟨⟨g1, g2⟩, g3⟩, g4⟩, g5⟩, g6⟩ := h5
  simp [Cond.before, Cond.holds, Cond.value, h1, h2, h3, h4, g1, g2, g3, g4, g5, g6]
def isCode : Jvm.Cond → Bool
  | .code _ _ _ _ => true
  | _ => false
theorem all_split {L : List Jvm.Cond} {P : Jvm.Cond → Bool} (h1 : L.all (fun c => isCode c || P c) = true) (h2 : ∀ c ∈ L.filter isCode, P c = true) : L.all P = true := by
  refine List.all_eq_true.mpr fun c hc => ?_
  have h := List.all_eq_true.mp h1 c hc
  rcases Bool.eq_false_or_eq_true (isCode c) with hi | hi
  · exact h2 c (List.mem_filter.mpr ⟨hc, hi⟩)
  · simpa [hi] using h
set_option maxRecDepth 65536 in
theorem w_c0 : (Jvm.Cond.code x code maxLocals ret).before args0 about1 = true := code_word (m := ⟨1, 3⟩) (meth := k1m3) (c := k1c3) (by decide +kernel) rfl rfl rfl (by decide +kernel)
set_option maxRecDepth 65536 in
theorem w_c1 : (Jvm.Cond.code ({ cls := "com/example/ferrywire/ferrywire/protocol/Signature", name := "<init>", desc := "(IJ)V" } : Jvm.MethodName) prog_188_method_1_code (6 : Nat) (Option.none : Option Jvm.ClassFile.FieldType)).before args0 about1 = true := code_word (m := ⟨2, 0⟩) (meth := k2m0) (c := k2c0) (by decide +kernel) rfl rfl rfl (by decide +kernel)
set_option maxRecDepth 65536 in
theorem w_c2 : (Jvm.Cond.code ({ cls := "java/lang/Object", name := "<init>", desc := "()V" } : Jvm.MethodName) object_method_1_code (1 : Nat) (Option.none : Option Jvm.ClassFile.FieldType)).before args0 about1 = true := code_word (m := ⟨0, 0⟩) (meth := k0m0) (c := k0c0) (by decide +kernel) rfl rfl rfl (by decide +kernel)
set_option maxRecDepth 65536 in
theorem w_c3 : (Jvm.Cond.code ({ cls := "java/lang/Math", name := "min", desc := "(II)I" } : Jvm.MethodName) jdk_29_method_69_code (2 : Nat) (Option.some Jvm.ClassFile.FieldType.int)).before args0 about1 = true := code_word (m := ⟨3, 2⟩) (meth := k3m2) (c := k3c2) (by decide +kernel) rfl rfl rfl (by decide +kernel)
set_option maxRecDepth 65536 in
theorem w_c4 : (Jvm.Cond.code ({ cls := "com/example/ferrywire/ferrywire/core/WeakSumFilter", name := "<init>", desc := "(Lcom/example/ferrywire/ferrywire/protocol/Signature;I)V" } : Jvm.MethodName) prog_84_method_1_code (7 : Nat) (Option.none : Option Jvm.ClassFile.FieldType)).before args0 about1 = true := code_word (m := ⟨4, 0⟩) (meth := k4m0) (c := k4c0) (by decide +kernel) rfl rfl rfl (by decide +kernel)
set_option maxRecDepth 65536 in
theorem w_c5 : (Jvm.Cond.code ({ cls := "java/lang/Math", name := "max", desc := "(II)I" } : Jvm.MethodName) jdk_29_method_65_code (2 : Nat) (Option.some Jvm.ClassFile.FieldType.int)).before args0 about1 = true := code_word (m := ⟨3, 1⟩) (meth := k3m1) (c := k3c1) (by decide +kernel) rfl rfl rfl (by decide +kernel)
set_option maxRecDepth 65536 in
theorem w_c6 : (Jvm.Cond.code ({ cls := "java/lang/Integer", name := "numberOfLeadingZeros", desc := "(I)I" } : Jvm.MethodName) jdk_33_method_47_code (2 : Nat) (Option.some Jvm.ClassFile.FieldType.int)).before args0 about1 = true := code_word (m := ⟨10, 0⟩) (meth := k10m0) (c := k10c0) (by decide +kernel) rfl rfl rfl (by decide +kernel)
set_option maxRecDepth 65536 in
theorem w_c7 : (Jvm.Cond.code ({ cls := "com/example/ferrywire/ferrywire/core/RollingSum", name := "<init>", desc := "()V" } : Jvm.MethodName) prog_63_method_1_code (1 : Nat) (Option.none : Option Jvm.ClassFile.FieldType)).before args0 about1 = true := code_word (m := ⟨11, 0⟩) (meth := k11m0) (c := k11c0) (by decide +kernel) rfl rfl rfl (by decide +kernel)
set_option maxRecDepth 65536 in
theorem w_c8 : (Jvm.Cond.code ({ cls := "com/example/ferrywire/ferrywire/core/RollingSum", name := "start", desc := "([BII)V" } : Jvm.MethodName) prog_63_method_3_code (7 : Nat) (Option.none : Option Jvm.ClassFile.FieldType)).before args0 about1 = true := code_word (m := ⟨11, 1⟩) (meth := k11m1) (c := k11c1) (by decide +kernel) rfl rfl rfl (by decide +kernel)
set_option maxRecDepth 65536 in
theorem w_c9 : (Jvm.Cond.code ({ cls := "com/example/ferrywire/ferrywire/core/RollingSum", name := "value", desc := "()I" } : Jvm.MethodName) prog_63_method_5_code (1 : Nat) (Option.some Jvm.ClassFile.FieldType.int)).before args0 about1 = true := code_word (m := ⟨11, 3⟩) (meth := k11m3) (c := k11c3) (by decide +kernel) rfl rfl rfl (by decide +kernel)
set_option maxRecDepth 65536 in
theorem w_c10 : (Jvm.Cond.code ({ cls := "com/example/ferrywire/ferrywire/core/RollingSum", name := "sum", desc := "(II)I" } : Jvm.MethodName) prog_63_method_6_code (2 : Nat) (Option.some Jvm.ClassFile.FieldType.int)).before args0 about1 = true := code_word (m := ⟨11, 4⟩) (meth := k11m4) (c := k11c4) (by decide +kernel) rfl rfl rfl (by decide +kernel)
set_option maxRecDepth 65536 in
theorem w_c11 : (Jvm.Cond.code ({ cls := "com/example/ferrywire/ferrywire/core/RollingSumStartPinLaw", name := "weak", desc := "([BII)I" } : Jvm.MethodName) method_3_code (13 : Nat) (Option.some Jvm.ClassFile.FieldType.int)).before args0 about1 = true := code_word (m := ⟨1, 2⟩) (meth := k1m2) (c := k1c2) (by decide +kernel) rfl rfl rfl (by decide +kernel)
set_option maxRecDepth 65536 in
theorem w_c12 : (Jvm.Cond.code ({ cls := "com/example/ferrywire/ferrywire/core/RollingSumStartPinLaw", name := "u", desc := "([BIII)I" } : Jvm.MethodName) method_2_code (4 : Nat) (Option.some Jvm.ClassFile.FieldType.int)).before args0 about1 = true := code_word (m := ⟨1, 1⟩) (meth := k1m1) (c := k1c1) (by decide +kernel) rfl rfl rfl (by decide +kernel)
set_option maxRecDepth 65536 in
theorem w_c13 : (Jvm.Cond.code ({ cls := "com/example/ferrywire/ferrywire/core/RollingSum", name := "rollOn", desc := "([BIILcom/example/ferrywire/ferrywire/core/WeakSumFilter;)I" } : Jvm.MethodName) prog_63_method_4_code (9 : Nat) (Option.some Jvm.ClassFile.FieldType.int)).before args0 about1 = true := code_word (m := ⟨11, 2⟩) (meth := k11m2) (c := k11c2) (by decide +kernel) rfl rfl rfl (by decide +kernel)
set_option maxRecDepth 65536 in
theorem w_c14 : (Jvm.Cond.code ({ cls := "com/example/ferrywire/ferrywire/core/WeakSumFilter", name := "mayHold", desc := "(I)Z" } : Jvm.MethodName) prog_84_method_2_code (3 : Nat) (Option.some Jvm.ClassFile.FieldType.boolean)).before args0 about1 = true := code_word (m := ⟨4, 1⟩) (meth := k4m1) (c := k4c1) (by decide +kernel) rfl rfl rfl (by decide +kernel)
set_option maxRecDepth 65536 in
theorem w_c15 : (Jvm.Cond.code ({ cls := "com/example/ferrywire/ferrywire/core/WeakSumFilter", name := "spread", desc := "(II)I" } : Jvm.MethodName) prog_84_method_3_code (2 : Nat) (Option.some Jvm.ClassFile.FieldType.int)).before args0 about1 = true := code_word (m := ⟨4, 2⟩) (meth := k4m2) (c := k4c2) (by decide +kernel) rfl rfl rfl (by decide +kernel)
def codes1 : List Jvm.Cond := [Jvm.Cond.code x code maxLocals ret, Jvm.Cond.code ({ cls := "com/example/ferrywire/ferrywire/protocol/Signature", name := "<init>", desc := "(IJ)V" } : Jvm.MethodName) prog_188_method_1_code (6 : Nat) (Option.none : Option Jvm.ClassFile.FieldType), Jvm.Cond.code ({ cls := "java/lang/Object", name := "<init>", desc := "()V" } : Jvm.MethodName) object_method_1_code (1 : Nat) (Option.none : Option Jvm.ClassFile.FieldType), Jvm.Cond.code ({ cls := "java/lang/Math", name := "min", desc := "(II)I" } : Jvm.MethodName) jdk_29_method_69_code (2 : Nat) (Option.some Jvm.ClassFile.FieldType.int), Jvm.Cond.code ({ cls := "com/example/ferrywire/ferrywire/core/WeakSumFilter", name := "<init>", desc := "(Lcom/example/ferrywire/ferrywire/protocol/Signature;I)V" } : Jvm.MethodName) prog_84_method_1_code (7 : Nat) (Option.none : Option Jvm.ClassFile.FieldType), Jvm.Cond.code ({ cls := "java/lang/Math", name := "max", desc := "(II)I" } : Jvm.MethodName) jdk_29_method_65_code (2 : Nat) (Option.some Jvm.ClassFile.FieldType.int), Jvm.Cond.code ({ cls := "java/lang/Integer", name := "numberOfLeadingZeros", desc := "(I)I" } : Jvm.MethodName) jdk_33_method_47_code (2 : Nat) (Option.some Jvm.ClassFile.FieldType.int), Jvm.Cond.code ({ cls := "com/example/ferrywire/ferrywire/core/RollingSum", name := "<init>", desc := "()V" } : Jvm.MethodName) prog_63_method_1_code (1 : Nat) (Option.none : Option Jvm.ClassFile.FieldType), Jvm.Cond.code ({ cls := "com/example/ferrywire/ferrywire/core/RollingSum", name := "start", desc := "([BII)V" } : Jvm.MethodName) prog_63_method_3_code (7 : Nat) (Option.none : Option Jvm.ClassFile.FieldType), Jvm.Cond.code ({ cls := "com/example/ferrywire/ferrywire/core/RollingSum", name := "value", desc := "()I" } : Jvm.MethodName) prog_63_method_5_code (1 : Nat) (Option.some Jvm.ClassFile.FieldType.int), Jvm.Cond.code ({ cls := "com/example/ferrywire/ferrywire/core/RollingSum", name := "sum", desc := "(II)I" } : Jvm.MethodName) prog_63_method_6_code (2 : Nat) (Option.some Jvm.ClassFile.FieldType.int), Jvm.Cond.code ({ cls := "com/example/ferrywire/ferrywire/core/RollingSumStartPinLaw", name := "weak", desc := "([BII)I" } : Jvm.MethodName) method_3_code (13 : Nat) (Option.some Jvm.ClassFile.FieldType.int), Jvm.Cond.code ({ cls := "com/example/ferrywire/ferrywire/core/RollingSumStartPinLaw", name := "u", desc := "([BIII)I" } : Jvm.MethodName) method_2_code (4 : Nat) (Option.some Jvm.ClassFile.FieldType.int), Jvm.Cond.code ({ cls := "com/example/ferrywire/ferrywire/core/RollingSum", name := "rollOn", desc := "([BIILcom/example/ferrywire/ferrywire/core/WeakSumFilter;)I" } : Jvm.MethodName) prog_63_method_4_code (9 : Nat) (Option.some Jvm.ClassFile.FieldType.int), Jvm.Cond.code ({ cls := "com/example/ferrywire/ferrywire/core/WeakSumFilter", name := "mayHold", desc := "(I)Z" } : Jvm.MethodName) prog_84_method_2_code (3 : Nat) (Option.some Jvm.ClassFile.FieldType.boolean), Jvm.Cond.code ({ cls := "com/example/ferrywire/ferrywire/core/WeakSumFilter", name := "spread", desc := "(II)I" } : Jvm.MethodName) prog_84_method_3_code (2 : Nat) (Option.some Jvm.ClassFile.FieldType.int)]
set_option maxRecDepth 65536 in
theorem codes_eq : words1.filter isCode = codes1 := rfl
theorem w_codes : ∀ c ∈ words1.filter isCode, c.before args0 about1 = true := by
  rw [codes_eq]
  intro c hc
  simp only [codes1, List.mem_cons, List.not_mem_nil, or_false] at hc
  rcases hc with rfl | rfl | rfl | rfl | rfl | rfl | rfl | rfl | rfl | rfl | rfl | rfl | rfl | rfl | rfl | rfl
  · exact w_c0
  · exact w_c1
  · exact w_c2
  · exact w_c3
  · exact w_c4
  · exact w_c5
  · exact w_c6
  · exact w_c7
  · exact w_c8
  · exact w_c9
  · exact w_c10
  · exact w_c11
  · exact w_c12
  · exact w_c13
  · exact w_c14
  · exact w_c15
set_option maxRecDepth 65536 in
theorem w_t1 : (words1.take 24).all (fun c => isCode c || c.before args0 about1) = true := by decide +kernel
set_option maxRecDepth 65536 in
theorem w_t2 : ((words1.drop 24).take 24).all (fun c => isCode c || c.before args0 about1) = true := by decide +kernel
set_option maxRecDepth 65536 in
theorem w_t3 : (((words1.drop 24).drop 24).take 24).all (fun c => isCode c || c.before args0 about1) = true := by decide +kernel
set_option maxRecDepth 65536 in
theorem w_t4 : ((((words1.drop 24).drop 24).drop 24).take 24).all (fun c => isCode c || c.before args0 about1) = true := by decide +kernel
set_option maxRecDepth 65536 in
theorem w_t5 : ((((words1.drop 24).drop 24).drop 24).drop 24).all (fun c => isCode c || c.before args0 about1) = true := by decide +kernel
theorem w_tables : (allAtoms (Jvm.Cond.code x code maxLocals ret :: tables_1)).before args0 about1 = true := by
  rw [allAtoms_all]
  show words1.all (fun c => c.before args0 about1) = true
  refine all_split ?_ w_codes
  rw [← List.take_append_drop 24 words1, List.all_append, w_t1, ← List.take_append_drop 24 (words1.drop 24), List.all_append, w_t2, ← List.take_append_drop 24 ((words1.drop 24).drop 24), List.all_append, w_t3, ← List.take_append_drop 24 (((words1.drop 24).drop 24).drop 24), List.all_append, w_t4, w_t5]
  rfl
set_option maxRecDepth 65536 in
theorem w_case : (Jvm.Cond.and given_1 narrow_1).before args0 about1 = true := by decide +kernel
theorem w_applies : (headSpec (Jvm.Cond.code x code maxLocals ret :: tables_1) room_1).applies x e0.platform about1 = true :=
  (Spec.applies_iff w_frames).mpr ⟨w_running, w_runnable, w_alone, w_named, w_hears, w_ripe, w_room, w_tables⟩
theorem atStart : AtStart classFile x code maxLocals ret World_1 tables_1 room_1 Calls_1 rest_1 Pre_1 launch0 p0 e0 about1 theMethod args0 below0 :=
  ⟨lists_1, trivial, launch0.admits_env _ _ _, launch0.least_env, fairChoices_fair.cas, fairChoices_fair.clock, w_frames, w_args, w_heap, w_applies, trivial, trivial, w_case⟩
end start1
theorem witness_1 : WitnessClaimed_1 := ⟨start1.p0, start1.e0, start1.about1, start1.theMethod, start1.args0, start1.below0, start1.atStart⟩
end Jvm.Pilot.@@N@@
