import JvmDerived
import JvmDerived.Pilot.@@N@@Statement
import JvmDerived.Pilot.@@N@@Code
set_option linter.unusedVariables false
set_option linter.unusedSimpArgs false
namespace Jvm.Pilot.@@N@@
open Jvm Jvm.ClassFile Sem Op Lib Jvm.Free Jvm.Stand Jvm.LawKit Jvm.RoadKit Bundle Jvm.Pilot.@@N@@.Jvm.D
/-! ## the own layer: a picture of the heap, one fact for where a walk stands, steps in continuation form -/
abbrev Ob : Type := Sum (String × List ((String × String × String) × Value)) (FieldType × List Value)
abbrev Obs : Type := List (Addr × Ob)
def Ara (Z : State) (h : Heap) (a : Addr) (ty : FieldType) (vs : List Value) : Prop :=
  ∃ c : Cell, Arr Z h a c ty ∧ c.slots = vs.toArray ∧ vs.length < 2 ^ 31 ∧ (∀ v ∈ vs, fits ty v = true) ∧ Exa Z h a ("[" ++ ty.toString)
def Is (Z : State) (h : Heap) (a : Addr) (o : Ob) : Prop :=
  match o with
  | .inl q => Exa Z h a q.1 ∧ ∀ f ∈ q.2, Fld Z h a f.1.1 f.1.2.1 f.1.2.2 f.2
  | .inr q => Ara Z h a q.1 q.2
def Pic (Z : State) (n0 : Nat) (h : Heap) (L : Obs) : Prop := (∀ q ∈ L, n0 ≤ q.1 ∧ Is Z h q.1 q.2) ∧ (L.map Prod.fst).Nodup
def Lays (Z : State) (a0 : Array Value) (C : String) (fn : List (String × String × String)) : Prop :=
  (∀ q ∈ fn, Laid Z a0 C q.1 q.2.1 q.2.2 ∧ ∃ t, parseFieldDescriptor q.2.2 = some t) ∧ (fn.map fun q => q.2.1).Nodup
section Pics
variable {Z : State} {h h' : Heap} {a b : Addr} {o o' : Ob} {n0 : Nat} {L L' : Obs} {sl : Nat} {v : Value} {a0 : Array Value}
theorem Is.lt (I : Is Z h a o) : a < h.size := by
  cases o with
  | inl q => exact I.1.lt
  | inr q => obtain ⟨c, A, _⟩ := I; exact A.lt
theorem Is.ext (E : Ext h h') (I : Is Z h a o) : Is Z h' a o := by
  cases o with
  | inl q => exact ⟨I.1.ext E, fun f hf => (I.2 f hf).ext E⟩
  | inr q => obtain ⟨c, A, r1, r2, r3, r4⟩ := I; exact ⟨c, A.ext E, r1, r2, r3, r4.ext E⟩
theorem Is.other (W : Wr h h' b sl v) (ne : a ≠ b) (I : Is Z h a o) : Is Z h' a o := by
  cases o with
  | inl q => exact ⟨I.1.wr W, fun f hf => (I.2 f hf).other W (Or.inl ne)⟩
  | inr q => obtain ⟨c, A, r1, r2, r3, r4⟩ := I; exact ⟨c, A.other W ne, r1, r2, r3, r4.wr W⟩
theorem nodup_get {α : Type} : ∀ {l : List α} {i j : Nat} {x : α}, l.Nodup → l[i]? = some x → l[j]? = some x → i = j
  | [], i, j, x, _, h, _ => by simp at h
  | y :: t, 0, 0, x, _, _, _ => rfl
  | y :: t, 0, j + 1, x, hn, h1, h2 => by
    simp at h1 h2; subst h1
    exact absurd (List.mem_of_getElem? h2) (List.nodup_cons.mp hn).1
  | y :: t, i + 1, 0, x, hn, h1, h2 => by
    simp at h1 h2; subst h2
    exact absurd (List.mem_of_getElem? h1) (List.nodup_cons.mp hn).1
  | y :: t, i + 1, j + 1, x, hn, h1, h2 => by
    simp at h1 h2
    rw [nodup_get (List.nodup_cons.mp hn).2 h1 h2]
theorem mem_set_get {α : Type} {l : List α} {i : Nat} {x q : α} (h : q ∈ l.set i x) : q = x ∨ ∃ j, j ≠ i ∧ l[j]? = some q := by
  obtain ⟨j, hj⟩ := List.mem_iff_getElem?.mp h
  by_cases e : j = i
  · subst e
    rw [List.getElem?_set] at hj
    by_cases hl : j < l.length
    · simp [hl] at hj; exact Or.inl hj.symm
    · simp [hl] at hj
  · rw [List.getElem?_set_ne (Ne.symm e)] at hj
    exact Or.inr ⟨j, e, hj⟩
theorem Pic.new (P : Pic Z n0 h L) (E : Ext h h') (Z0 : n0 ≤ h.size) (I : Is Z h' h.size o) : Pic Z n0 h' ((h.size, o) :: L) := by
  refine ⟨fun q hq => ?_, ?_⟩
  · rcases List.mem_cons.mp hq with rfl | hq
    · exact ⟨Z0, I⟩
    · exact ⟨(P.1 q hq).1, (P.1 q hq).2.ext E⟩
  · show (h.size :: L.map Prod.fst).Nodup
    refine List.nodup_cons.mpr ⟨fun hm => ?_, P.2⟩
    obtain ⟨q, hq, e⟩ := List.mem_map.mp hm
    have lt := (P.1 q hq).2.lt
    rw [e] at lt
    exact Nat.lt_irrefl _ lt
theorem map_set_same {α β : Type} (f : α → β) : ∀ {l : List α} {i : Nat} {x y : α}, l[i]? = some x → f y = f x → (l.set i y).map f = l.map f
  | [], i, x, y, h, _ => by simp at h
  | z :: t, 0, x, y, h, e => by simp at h; subst h; simp [e]
  | z :: t, i + 1, x, y, h, e => by simp at h; simp [map_set_same f h e]
theorem Pic.set {i : Nat} (P : Pic Z n0 h L) (W : Wr h h' a sl v) (hi : L[i]? = some (a, o)) (I : Is Z h' a o') : Pic Z n0 h' (L.set i (a, o')) := by
  refine ⟨fun q hq => ?_, ?_⟩
  · rcases mem_set_get hq with rfl | ⟨j, ne, hj⟩
    · exact ⟨(P.1 _ (List.mem_of_getElem? hi)).1, I⟩
    · refine ⟨(P.1 _ (List.mem_of_getElem? hj)).1, (P.1 _ (List.mem_of_getElem? hj)).2.other W fun e => ne ?_⟩
      refine nodup_get P.2 (x := a) ?_ ?_
      · rw [List.getElem?_map, hj]; simp [e]
      · rw [List.getElem?_map, hi]; simp
  · rw [map_set_same Prod.fst (y := (a, o')) hi rfl]; exact P.2
theorem front_perm {α : Type} : ∀ {l : List α} {i : Nat} {x : α}, l[i]? = some x → List.Perm (x :: l.eraseIdx i) l
  | [], i, x, h => by simp at h
  | z :: t, 0, x, h => by simp at h; subst h; exact List.Perm.refl _
  | z :: t, i + 1, x, h => by
    simp at h
    exact (List.Perm.swap z x _).trans ((front_perm h).cons z)
theorem Pic.perm (P : Pic Z n0 h L) (q : List.Perm L' L) : Pic Z n0 h L' :=
  ⟨fun x hx => P.1 x (q.mem_iff.mp hx), ((q.map Prod.fst).nodup_iff).mpr P.2⟩
theorem Pic.front {i : Nat} {x : Addr × Ob} (P : Pic Z n0 h L) (hi : L[i]? = some x) : Pic Z n0 h (x :: L.eraseIdx i) := P.perm (front_perm hi)
theorem Pic.ne {i j : Nat} {x y : Ob} (P : Pic Z n0 h L) (hi : L[i]? = some (a, x)) (hj : L[j]? = some (b, y)) (hn : i ≠ j) : a ≠ b := fun e => hn (by
  subst e
  refine nodup_get P.2 (x := a) ?_ ?_
  · rw [List.getElem?_map, hi]; simp
  · rw [List.getElem?_map, hj]; simp)
theorem Is.put {C O n d : String} {fs : List ((String × String × String) × Value)} {j : Nat} {old : Value} (W : Wr h h' a (Jvm.RoadKit.slotOf Z O n d) v) (hl : Lays Z a0 C (fs.map Prod.fst)) (I : Is Z h a (.inl (C, fs))) (hf : fs[j]? = some ((O, n, d), old)) : Is Z h' a (.inl (C, fs.set j ((O, n, d), v))) := by
  refine ⟨I.1.wr W, fun f hm => ?_⟩
  rcases mem_set_get hm with rfl | ⟨i, ne, hi⟩
  · exact Fld.same W (I.2 ((O, n, d), old) (List.mem_of_getElem? hf))
  · have g1 : (fs.map Prod.fst)[i]? = some f.1 := by rw [List.getElem?_map, hi]; rfl
    have g2 : (fs.map Prod.fst)[j]? = some (O, n, d) := by rw [List.getElem?_map, hf]; rfl
    obtain ⟨l1, t1, p1⟩ := hl.1 _ (List.mem_of_getElem? g1)
    obtain ⟨l2, t2, p2⟩ := hl.1 _ (List.mem_of_getElem? g2)
    refine (I.2 _ (List.mem_of_getElem? hi)).other W (Or.inr (slot_ne l1 l2 (fun e => ne ?_) p1 p2))
    refine nodup_get hl.2 (x := n) ?_ ?_
    · rw [List.getElem?_map, g1]; simp [← e]
    · rw [List.getElem?_map, g2]; try rfl
theorem Ara.put {ty : FieldType} {vs : List Value} {j : Int32} (I : Ara Z h a ty vs) (W : Wr h h' a j.toNatClampNeg v) (hf : fits ty v = true) : Ara Z h' a ty (vs.set j.toNatClampNeg v) := by
  obtain ⟨c, A, r1, r2, r3, r4⟩ := I
  refine ⟨c.setSlot j.toNatClampNeg v, A.same W, ?_, by rw [List.length_set]; exact r2, fun x hx => ?_, r4.wr W⟩
  · show c.slots.setIfInBounds _ _ = _
    rw [r1]; simp
  · rcases mem_set_get hx with rfl | ⟨i, _, hi⟩
    · exact hf
    · exact r3 _ (List.mem_of_getElem? hi)
theorem fits_def (aty : ArrayType) : fits (newarray.typeOf aty) (defaultValue (newarray.typeOf aty)) = true := by cases aty <;> decide
theorem Is.keep {ws : List Addr} (K : Keep h h' ws) (hn : a ∉ ws) (I : Is Z h a o) : Is Z h' a o := by
  cases o with
  | inl q => exact ⟨I.1.keep K, fun f hf => (I.2 f hf).keep K hn⟩
  | inr q => obtain ⟨c, A, r1, r2, r3, r4⟩ := I; exact ⟨c, ⟨K.2.1 a c A.1 hn, A.2⟩, r1, r2, r3, r4.keep K⟩
theorem Pic.setK {i : Nat} (P : Pic Z n0 h L) (K : Keep h h' [a]) (hi : L[i]? = some (a, o)) (I : Is Z h' a o') : Pic Z n0 h' (L.set i (a, o')) := by
  refine ⟨fun q hq => ?_, ?_⟩
  · rcases mem_set_get hq with rfl | ⟨j, ne, hj⟩
    · exact ⟨(P.1 _ (List.mem_of_getElem? hi)).1, I⟩
    · refine ⟨(P.1 _ (List.mem_of_getElem? hj)).1, (P.1 _ (List.mem_of_getElem? hj)).2.keep K fun e => ne ?_⟩
      have e := List.mem_singleton.mp e
      refine nodup_get P.2 (x := a) ?_ ?_
      · rw [List.getElem?_map, hj]; simp [e]
      · rw [List.getElem?_map, hi]; simp
  · rw [map_set_same Prod.fst (y := (a, o')) hi rfl]; exact P.2
theorem Arv.toAra {k : ClassId} {ty : FieldType} {z : Int32} {vs : List Value} {dv : Value} (V : Arv Z h a k ty z vs dv) (hz : z.toNatClampNeg = vs.length) (hl : vs.length < 2 ^ 31) (E : Exa Z h a ("[" ++ ty.toString)) : Ara Z h a ty vs := by
  obtain ⟨c, A, q1, q2, q3, H, G⟩ := V
  refine ⟨c, A, ?_, hl, fun v hv => ?_, E⟩
  · refine Array.ext_getElem? fun i => ?_
    by_cases hi : i < c.slots.size
    · rw [H i hi, List.getElem?_toArray, List.getD_eq_getElem?_getD]
      have : i < vs.length := by omega
      rw [List.getElem?_eq_getElem this]; rfl
    · rw [Array.getElem?_eq_none (by omega), List.getElem?_toArray, List.getElem?_eq_none (by omega)]
  · obtain ⟨i, hi⟩ := List.mem_iff_getElem?.mp hv
    have hlt := (List.getElem?_eq_some_iff.mp hi).1
    have := G i (by omega)
    rw [List.getD_eq_getElem?_getD, hi] at this
    exact this
theorem Ara.toArv {ty : FieldType} {vs : List Value} (I : Ara Z h a ty vs) (dv : Value) : ∃ k, Arv Z h a k ty vs.length.toInt32 vs dv ∧ vs.length.toInt32.toNatClampNeg = vs.length ∧ ¬ vs.length.toInt32 < 0 := by
  obtain ⟨c, A, r1, r2, r3, r4⟩ := I
  have e1 : vs.length.toInt32.toInt = vs.length := len_toInt r2
  have e2 : vs.length.toInt32.toNatClampNeg = vs.length := by simp only [Int32.toNatClampNeg, e1]; omega
  have e3 : ¬ vs.length.toInt32 < 0 := by rw [Int32.lt_iff_toInt_lt, e1]; simp only [Int32.reduceToInt]; omega
  have e4 : c.slots.size = vs.length := by rw [r1]; simp
  refine ⟨c.cls, ⟨c, A, rfl, by omega, e3, fun k hk => ?_, fun k hk => ?_⟩, e2, e3⟩
  · have : k < vs.length := by omega
    rw [r1, List.getElem?_toArray, List.getElem?_eq_getElem this, List.getD_eq_getElem?_getD, List.getElem?_eq_getElem this]; rfl
  · have : k < vs.length := by omega
    rw [List.getD_eq_getElem?_getD, List.getElem?_eq_getElem this]
    exact r3 _ (List.getElem_mem this)
end Pics
def Go (p : Program) (e : Env) (below : List Frame) (F : State → Prop) (U : State) : Prop := ∃ t, Steps p.tables e below U t ∧ F t
theorem Go.st {p : Program} {e : Env} {below : List Frame} {F : State → Prop} {U U' : State} (h : ∀ t, Steps p.tables e below U' t → Steps p.tables e below U t) (g : Go p e below F U') : Go p e below F U := by
  obtain ⟨t, s, f⟩ := g; exact ⟨t, h t s, f⟩
def Here (p : Program) (l : Launch) (e : Env) (R : Room) (s : State) (m : MethodId) (args : Array Value) (below : List Frame) (meth : Method) (c : Code) (Z : State) (a0 : Array Value) (tbl : List Jvm.Cond) (own nm : String) (bc : ByteArray) (mxl : Nat) (rt : Option FieldType) (n0 : Nat) (T : State) (L : Obs) (cells slots : Nat) : Prop :=
  (p.tables.exec = Jvm.exec ∧ Z.Warmed39 s.vm ∧ s.vm.findClass own = some m.cls ∧ c.code = bc ∧ c.maxLocals = mxl ∧ (∀ d ∈ tbl, d.before a0 Z = true) ∧ meth.name = nm ∧ meth.sig.returnType = rt ∧ meth.locks = false) ∧
  ∃ locs, Stand p l e R s m args below meth c T locs cells slots ∧ Fr n0 locs ∧ n0 ≤ T.heap.size ∧ Pic Z n0 T.heap L
def EndS (below : List Frame) (s : State) (n0 : Nat) (Z : State) (kc ks : Nat) (Q : Option Value → Obs → Prop) (t : State) : Prop :=
  ∃ o, t.status = .running ∧ Ended t below o ∧ ∃ v Lc, o = .returned v ∧ (Fr n0 Lc ∧ n0 ≤ t.heap.size ∧ ∃ L', Q v L' ∧ Pic Z n0 t.heap L') ∧ FrameEnd s o t Lc kc ks
def Triple (l : Launch) (Z : State) (n0 : Nat) (y : MethodName) (bytes : ByteArray) (ml : Nat) (rt : Option FieldType) (rm : Room) (kc ks : Nat) (as : List Value) (L : Obs) (Q : Option Value → Obs → Prop) : Prop :=
  ∀ (h0 : Heap) (ws : List Jvm.Cond), n0 ≤ h0.size → Pic Z n0 h0 L →
    MetFree l y (head1 (Jvm.Cond.code y bytes ml rt :: ws) rm) (fun a U => a = as.toArray ∧ Z.Warmed39 U.vm ∧ U.heap = h0) (fun _ _ _ _ _ => True)
      (fun _ U o U' => ∃ v Lc, o = .returned v ∧ (Fr n0 Lc ∧ n0 ≤ U'.heap.size ∧ ∃ L', Q v L' ∧ Pic Z n0 U'.heap L') ∧ FrameEnd U o U' Lc kc ks)
theorem Triple.of_body {l : Launch} {Z : State} {a0 : Array Value} {tbl : List Jvm.Cond} {n0 : Nat} {y : MethodName} {bytes : ByteArray} {ml : Nat} {rt : Option FieldType} {rm : Room} {kc ks : Nat} {as : List Value} {L : Obs} {Q : Option Value → Obs → Prop} {Ls : Array Slot}
    (hp : plainFor y = true) (hw : ∀ d ∈ tbl, d.before a0 Z = true) (ef : (Jvm.Sym.laidSlots as ++ List.replicate (ml - (Jvm.Sym.laidSlots as).length) Slot.unset).toArray = Ls)
    (body : ∀ p e s m below meth c T, Here p l e rm s m as.toArray below meth c Z a0 tbl y.cls y.name bytes ml rt n0 T L 0 0 → Go p e below (EndS below s n0 Z kc ks Q) (T.setTop (mkF m 0 Ls []))) :
    Triple l Z n0 y bytes ml rt rm kc ks as L Q := by
  intro h0 ws Z0 P0
  refine MetFree.of_bodySF hp hisR ?_
  intro p e s m args below meth c s₁ Bd hml0 hP hK
  obtain ⟨rfl, hZ, hh⟩ := hP
  have e0 : s₁.heap = h0 := by rw [← hh, Bd.state]; rfl
  have A : Here p l e rm s m as.toArray below meth c Z a0 tbl y.cls y.name bytes ml rt n0 s₁ L 0 0 :=
    ⟨⟨Bd.exec, hZ, findClass_of_methodNamed Bd.named, Bd.bytes, hml0, hw, (name_of_methodNamed Bd.named Bd.method).1, Bd.returns, Bd.notSynchronized⟩, [], Stand.of_body Bd, Fr.nil n0, by rw [e0]; exact Z0, by rw [e0]; exact P0⟩
  obtain ⟨t, st, o, h1, h2, h3⟩ := body p e s m below meth c s₁ A
  have ef' : entryFrame m as.toArray ml = mkF m 0 Ls [] := by
    have q := Jvm.Sym.argsToLocals_toList as.toArray ml
    have q2 : argsToLocals as.toArray ml = Ls := by rw [← ef, ← q, Array.toArray_toList]
    unfold entryFrame mkF; rw [q2]
  exact ⟨t, o, castTop ef' st, h1, h2, h3⟩

section Walk
variable {p : Program} {l : Launch} {e : Env} {R : Room} {s : State} {m : MethodId} {args : Array Value} {below : List Frame} {meth : Method} {c : Code} {Z : State} {a0 : Array Value} {tbl : List Jvm.Cond} {own nm : String} {bc : ByteArray} {mxl : Nat} {rt : Option FieldType} {n0 : Nat} {T : State} {L : Obs} {cells slots : Nat} {F : State → Prop}
theorem Here.pt (A : Here p l e R s m args below meth c Z a0 tbl own nm bc mxl rt n0 T L cells slots) : At T m c below := by obtain ⟨_, X, _⟩ := A.2; exact X.here
theorem Here.iadd (A : Here p l e R s m args below meth c Z a0 tbl own nm bc mxl rt n0 T L cells slots) {pc q : Nat} {Ls : Array Slot} {st : List Value} {x y v : Int32} (hd : decode bc pc = .ok (.iadd, 1)) (hq : pc + 1 = q) (hv : x + y = v) (k : Go p e below F (T.setTop (mkF m q Ls (.int v :: st)))) : Go p e below F (T.setTop (mkF m pc Ls (.int y :: .int x :: st))) := by
  subst hq hv
  exact Go.st (fun t h => XS.iadd A.pt A.1.1 rfl (hb A.1.2.2.2.1 hd) rfl h) k
theorem Here.isub (A : Here p l e R s m args below meth c Z a0 tbl own nm bc mxl rt n0 T L cells slots) {pc q : Nat} {Ls : Array Slot} {st : List Value} {x y v : Int32} (hd : decode bc pc = .ok (.isub, 1)) (hq : pc + 1 = q) (hv : x - y = v) (k : Go p e below F (T.setTop (mkF m q Ls (.int v :: st)))) : Go p e below F (T.setTop (mkF m pc Ls (.int y :: .int x :: st))) := by
  subst hq hv
  exact Go.st (fun t h => XS.isub A.pt A.1.1 rfl (hb A.1.2.2.2.1 hd) rfl h) k
theorem Here.imul (A : Here p l e R s m args below meth c Z a0 tbl own nm bc mxl rt n0 T L cells slots) {pc q : Nat} {Ls : Array Slot} {st : List Value} {x y v : Int32} (hd : decode bc pc = .ok (.imul, 1)) (hq : pc + 1 = q) (hv : x * y = v) (k : Go p e below F (T.setTop (mkF m q Ls (.int v :: st)))) : Go p e below F (T.setTop (mkF m pc Ls (.int y :: .int x :: st))) := by
  subst hq hv
  exact Go.st (fun t h => XS.imul A.pt A.1.1 rfl (hb A.1.2.2.2.1 hd) rfl h) k
theorem Here.iand (A : Here p l e R s m args below meth c Z a0 tbl own nm bc mxl rt n0 T L cells slots) {pc q : Nat} {Ls : Array Slot} {st : List Value} {x y v : Int32} (hd : decode bc pc = .ok (.iand, 1)) (hq : pc + 1 = q) (hv : x &&& y = v) (k : Go p e below F (T.setTop (mkF m q Ls (.int v :: st)))) : Go p e below F (T.setTop (mkF m pc Ls (.int y :: .int x :: st))) := by
  subst hq hv
  exact Go.st (fun t h => XS.iand A.pt A.1.1 rfl (hb A.1.2.2.2.1 hd) rfl h) k
theorem Here.ior (A : Here p l e R s m args below meth c Z a0 tbl own nm bc mxl rt n0 T L cells slots) {pc q : Nat} {Ls : Array Slot} {st : List Value} {x y v : Int32} (hd : decode bc pc = .ok (.ior, 1)) (hq : pc + 1 = q) (hv : x ||| y = v) (k : Go p e below F (T.setTop (mkF m q Ls (.int v :: st)))) : Go p e below F (T.setTop (mkF m pc Ls (.int y :: .int x :: st))) := by
  subst hq hv
  exact Go.st (fun t h => XS.ior A.pt A.1.1 rfl (hb A.1.2.2.2.1 hd) rfl h) k
theorem Here.ixor (A : Here p l e R s m args below meth c Z a0 tbl own nm bc mxl rt n0 T L cells slots) {pc q : Nat} {Ls : Array Slot} {st : List Value} {x y v : Int32} (hd : decode bc pc = .ok (.ixor, 1)) (hq : pc + 1 = q) (hv : x ^^^ y = v) (k : Go p e below F (T.setTop (mkF m q Ls (.int v :: st)))) : Go p e below F (T.setTop (mkF m pc Ls (.int y :: .int x :: st))) := by
  subst hq hv
  exact Go.st (fun t h => XS.ixor A.pt A.1.1 rfl (hb A.1.2.2.2.1 hd) rfl h) k
theorem Here.ishl (A : Here p l e R s m args below meth c Z a0 tbl own nm bc mxl rt n0 T L cells slots) {pc q : Nat} {Ls : Array Slot} {st : List Value} {x y v : Int32} (hd : decode bc pc = .ok (.ishl, 1)) (hq : pc + 1 = q) (hv : x <<< (y &&& 31) = v) (k : Go p e below F (T.setTop (mkF m q Ls (.int v :: st)))) : Go p e below F (T.setTop (mkF m pc Ls (.int y :: .int x :: st))) := by
  subst hq hv
  exact Go.st (fun t h => XS.ishl A.pt A.1.1 rfl (hb A.1.2.2.2.1 hd) rfl h) k
theorem Here.ishr (A : Here p l e R s m args below meth c Z a0 tbl own nm bc mxl rt n0 T L cells slots) {pc q : Nat} {Ls : Array Slot} {st : List Value} {x y v : Int32} (hd : decode bc pc = .ok (.ishr, 1)) (hq : pc + 1 = q) (hv : x >>> (y &&& 31) = v) (k : Go p e below F (T.setTop (mkF m q Ls (.int v :: st)))) : Go p e below F (T.setTop (mkF m pc Ls (.int y :: .int x :: st))) := by
  subst hq hv
  exact Go.st (fun t h => XS.ishr A.pt A.1.1 rfl (hb A.1.2.2.2.1 hd) rfl h) k
theorem Here.iushr (A : Here p l e R s m args below meth c Z a0 tbl own nm bc mxl rt n0 T L cells slots) {pc q : Nat} {Ls : Array Slot} {st : List Value} {x y v : Int32} (hd : decode bc pc = .ok (.iushr, 1)) (hq : pc + 1 = q) (hv : (x.toUInt32 >>> (y &&& 31).toUInt32).toInt32 = v) (k : Go p e below F (T.setTop (mkF m q Ls (.int v :: st)))) : Go p e below F (T.setTop (mkF m pc Ls (.int y :: .int x :: st))) := by
  subst hq hv
  exact Go.st (fun t h => XS.iushr A.pt A.1.1 rfl (hb A.1.2.2.2.1 hd) rfl h) k
theorem Here.idiv (A : Here p l e R s m args below meth c Z a0 tbl own nm bc mxl rt n0 T L cells slots) {pc q : Nat} {Ls : Array Slot} {st : List Value} {x y v : Int32} (hd : decode bc pc = .ok (.idiv, 1)) (hq : pc + 1 = q) (hy : y ≠ 0) (hv : x / y = v) (k : Go p e below F (T.setTop (mkF m q Ls (.int v :: st)))) : Go p e below F (T.setTop (mkF m pc Ls (.int y :: .int x :: st))) := by
  subst hq hv
  exact Go.st (fun t h => XS.idiv A.pt A.1.1 rfl (hb A.1.2.2.2.1 hd) rfl hy h) k
theorem Here.irem (A : Here p l e R s m args below meth c Z a0 tbl own nm bc mxl rt n0 T L cells slots) {pc q : Nat} {Ls : Array Slot} {st : List Value} {x y v : Int32} (hd : decode bc pc = .ok (.irem, 1)) (hq : pc + 1 = q) (hy : y ≠ 0) (hv : x % y = v) (k : Go p e below F (T.setTop (mkF m q Ls (.int v :: st)))) : Go p e below F (T.setTop (mkF m pc Ls (.int y :: .int x :: st))) := by
  subst hq hv
  obtain ⟨_, X, _⟩ := A.2
  exact Go.st (fun t h => iremM X A.1.1 rfl (hb A.1.2.2.2.1 hd) rfl hy h) k
theorem Here.ineg (A : Here p l e R s m args below meth c Z a0 tbl own nm bc mxl rt n0 T L cells slots) {pc q : Nat} {Ls : Array Slot} {st : List Value} {x v : Int32} (hd : decode bc pc = .ok (.ineg, 1)) (hq : pc + 1 = q) (hv : -x = v) (k : Go p e below F (T.setTop (mkF m q Ls (.int v :: st)))) : Go p e below F (T.setTop (mkF m pc Ls (.int x :: st))) := by
  subst hq hv
  exact Go.st (fun t h => XS.ineg A.pt A.1.1 rfl (hb A.1.2.2.2.1 hd) rfl h) k
theorem Here.ladd (A : Here p l e R s m args below meth c Z a0 tbl own nm bc mxl rt n0 T L cells slots) {pc q : Nat} {Ls : Array Slot} {st : List Value} {x y v : Int64} (hd : decode bc pc = .ok (.ladd, 1)) (hq : pc + 1 = q) (hv : x + y = v) (k : Go p e below F (T.setTop (mkF m q Ls (.long v :: st)))) : Go p e below F (T.setTop (mkF m pc Ls (.long y :: .long x :: st))) := by
  subst hq hv
  exact Go.st (fun t h => XS.ladd A.pt A.1.1 rfl (hb A.1.2.2.2.1 hd) rfl h) k
theorem Here.lsub (A : Here p l e R s m args below meth c Z a0 tbl own nm bc mxl rt n0 T L cells slots) {pc q : Nat} {Ls : Array Slot} {st : List Value} {x y v : Int64} (hd : decode bc pc = .ok (.lsub, 1)) (hq : pc + 1 = q) (hv : x - y = v) (k : Go p e below F (T.setTop (mkF m q Ls (.long v :: st)))) : Go p e below F (T.setTop (mkF m pc Ls (.long y :: .long x :: st))) := by
  subst hq hv
  exact Go.st (fun t h => XS.lsub A.pt A.1.1 rfl (hb A.1.2.2.2.1 hd) rfl h) k
theorem Here.lmul (A : Here p l e R s m args below meth c Z a0 tbl own nm bc mxl rt n0 T L cells slots) {pc q : Nat} {Ls : Array Slot} {st : List Value} {x y v : Int64} (hd : decode bc pc = .ok (.lmul, 1)) (hq : pc + 1 = q) (hv : x * y = v) (k : Go p e below F (T.setTop (mkF m q Ls (.long v :: st)))) : Go p e below F (T.setTop (mkF m pc Ls (.long y :: .long x :: st))) := by
  subst hq hv
  exact Go.st (fun t h => XS.lmul A.pt A.1.1 rfl (hb A.1.2.2.2.1 hd) rfl h) k
theorem Here.land (A : Here p l e R s m args below meth c Z a0 tbl own nm bc mxl rt n0 T L cells slots) {pc q : Nat} {Ls : Array Slot} {st : List Value} {x y v : Int64} (hd : decode bc pc = .ok (.land, 1)) (hq : pc + 1 = q) (hv : x &&& y = v) (k : Go p e below F (T.setTop (mkF m q Ls (.long v :: st)))) : Go p e below F (T.setTop (mkF m pc Ls (.long y :: .long x :: st))) := by
  subst hq hv
  exact Go.st (fun t h => XS.land A.pt A.1.1 rfl (hb A.1.2.2.2.1 hd) rfl h) k
theorem Here.lor (A : Here p l e R s m args below meth c Z a0 tbl own nm bc mxl rt n0 T L cells slots) {pc q : Nat} {Ls : Array Slot} {st : List Value} {x y v : Int64} (hd : decode bc pc = .ok (.lor, 1)) (hq : pc + 1 = q) (hv : x ||| y = v) (k : Go p e below F (T.setTop (mkF m q Ls (.long v :: st)))) : Go p e below F (T.setTop (mkF m pc Ls (.long y :: .long x :: st))) := by
  subst hq hv
  exact Go.st (fun t h => XS.lor A.pt A.1.1 rfl (hb A.1.2.2.2.1 hd) rfl h) k
theorem Here.lxor (A : Here p l e R s m args below meth c Z a0 tbl own nm bc mxl rt n0 T L cells slots) {pc q : Nat} {Ls : Array Slot} {st : List Value} {x y v : Int64} (hd : decode bc pc = .ok (.lxor, 1)) (hq : pc + 1 = q) (hv : x ^^^ y = v) (k : Go p e below F (T.setTop (mkF m q Ls (.long v :: st)))) : Go p e below F (T.setTop (mkF m pc Ls (.long y :: .long x :: st))) := by
  subst hq hv
  exact Go.st (fun t h => XS.lxor A.pt A.1.1 rfl (hb A.1.2.2.2.1 hd) rfl h) k
theorem Here.lshl (A : Here p l e R s m args below meth c Z a0 tbl own nm bc mxl rt n0 T L cells slots) {pc q : Nat} {Ls : Array Slot} {st : List Value} {x v : Int64} {y : Int32} (hd : decode bc pc = .ok (.lshl, 1)) (hq : pc + 1 = q) (hv : x <<< (y &&& 0x3f).toInt64 = v) (k : Go p e below F (T.setTop (mkF m q Ls (.long v :: st)))) : Go p e below F (T.setTop (mkF m pc Ls (.int y :: .long x :: st))) := by
  subst hq hv
  exact Go.st (fun t h => XS.lshl A.pt A.1.1 rfl (hb A.1.2.2.2.1 hd) rfl h) k
theorem Here.lshr (A : Here p l e R s m args below meth c Z a0 tbl own nm bc mxl rt n0 T L cells slots) {pc q : Nat} {Ls : Array Slot} {st : List Value} {x v : Int64} {y : Int32} (hd : decode bc pc = .ok (.lshr, 1)) (hq : pc + 1 = q) (hv : x >>> (y &&& 0x3f).toInt64 = v) (k : Go p e below F (T.setTop (mkF m q Ls (.long v :: st)))) : Go p e below F (T.setTop (mkF m pc Ls (.int y :: .long x :: st))) := by
  subst hq hv
  exact Go.st (fun t h => XS.lshr A.pt A.1.1 rfl (hb A.1.2.2.2.1 hd) rfl h) k
theorem Here.lushr (A : Here p l e R s m args below meth c Z a0 tbl own nm bc mxl rt n0 T L cells slots) {pc q : Nat} {Ls : Array Slot} {st : List Value} {x v : Int64} {y : Int32} (hd : decode bc pc = .ok (.lushr, 1)) (hq : pc + 1 = q) (hv : (x.toUInt64 >>> (y &&& 0x3f).toInt64.toUInt64).toInt64 = v) (k : Go p e below F (T.setTop (mkF m q Ls (.long v :: st)))) : Go p e below F (T.setTop (mkF m pc Ls (.int y :: .long x :: st))) := by
  subst hq hv
  exact Go.st (fun t h => XS.lushr A.pt A.1.1 rfl (hb A.1.2.2.2.1 hd) rfl h) k
theorem Here.ldiv (A : Here p l e R s m args below meth c Z a0 tbl own nm bc mxl rt n0 T L cells slots) {pc q : Nat} {Ls : Array Slot} {st : List Value} {x y v : Int64} (hd : decode bc pc = .ok (.ldiv, 1)) (hq : pc + 1 = q) (hy : y ≠ 0) (hv : x / y = v) (k : Go p e below F (T.setTop (mkF m q Ls (.long v :: st)))) : Go p e below F (T.setTop (mkF m pc Ls (.long y :: .long x :: st))) := by
  subst hq hv
  exact Go.st (fun t h => XS.ldiv A.pt A.1.1 rfl (hb A.1.2.2.2.1 hd) rfl hy h) k
theorem Here.lrem (A : Here p l e R s m args below meth c Z a0 tbl own nm bc mxl rt n0 T L cells slots) {pc q : Nat} {Ls : Array Slot} {st : List Value} {x y v : Int64} (hd : decode bc pc = .ok (.lrem, 1)) (hq : pc + 1 = q) (hy : y ≠ 0) (hv : x - (x / y) * y = v) (k : Go p e below F (T.setTop (mkF m q Ls (.long v :: st)))) : Go p e below F (T.setTop (mkF m pc Ls (.long y :: .long x :: st))) := by
  subst hq hv
  exact Go.st (fun t h => XS.lrem A.pt A.1.1 rfl (hb A.1.2.2.2.1 hd) rfl hy h) k
theorem Here.lneg (A : Here p l e R s m args below meth c Z a0 tbl own nm bc mxl rt n0 T L cells slots) {pc q : Nat} {Ls : Array Slot} {st : List Value} {x v : Int64} (hd : decode bc pc = .ok (.lneg, 1)) (hq : pc + 1 = q) (hv : -x = v) (k : Go p e below F (T.setTop (mkF m q Ls (.long v :: st)))) : Go p e below F (T.setTop (mkF m pc Ls (.long x :: st))) := by
  subst hq hv
  exact Go.st (fun t h => XS.lneg A.pt A.1.1 rfl (hb A.1.2.2.2.1 hd) rfl h) k
theorem Here.i2l (A : Here p l e R s m args below meth c Z a0 tbl own nm bc mxl rt n0 T L cells slots) {pc q : Nat} {Ls : Array Slot} {st : List Value} {x : Int32} {v : Int64} (hd : decode bc pc = .ok (.i2l, 1)) (hq : pc + 1 = q) (hv : x.toInt64 = v) (k : Go p e below F (T.setTop (mkF m q Ls (.long v :: st)))) : Go p e below F (T.setTop (mkF m pc Ls (.int x :: st))) := by
  subst hq hv
  exact Go.st (fun t h => XS.i2l A.pt A.1.1 rfl (hb A.1.2.2.2.1 hd) rfl h) k
theorem Here.l2i (A : Here p l e R s m args below meth c Z a0 tbl own nm bc mxl rt n0 T L cells slots) {pc q : Nat} {Ls : Array Slot} {st : List Value} {x : Int64} {v : Int32} (hd : decode bc pc = .ok (.l2i, 1)) (hq : pc + 1 = q) (hv : x.toInt32 = v) (k : Go p e below F (T.setTop (mkF m q Ls (.int v :: st)))) : Go p e below F (T.setTop (mkF m pc Ls (.long x :: st))) := by
  subst hq hv
  exact Go.st (fun t h => XS.l2i A.pt A.1.1 rfl (hb A.1.2.2.2.1 hd) rfl h) k
theorem Here.i2b (A : Here p l e R s m args below meth c Z a0 tbl own nm bc mxl rt n0 T L cells slots) {pc q : Nat} {Ls : Array Slot} {st : List Value} {x v : Int32} (hd : decode bc pc = .ok (.i2b, 1)) (hq : pc + 1 = q) (hv : x.toInt8.toInt32 = v) (k : Go p e below F (T.setTop (mkF m q Ls (.int v :: st)))) : Go p e below F (T.setTop (mkF m pc Ls (.int x :: st))) := by
  subst hq hv
  exact Go.st (fun t h => XS.i2b A.pt A.1.1 rfl (hb A.1.2.2.2.1 hd) rfl h) k
theorem Here.i2c (A : Here p l e R s m args below meth c Z a0 tbl own nm bc mxl rt n0 T L cells slots) {pc q : Nat} {Ls : Array Slot} {st : List Value} {x v : Int32} (hd : decode bc pc = .ok (.i2c, 1)) (hq : pc + 1 = q) (hv : x.toUInt32.toUInt16.toUInt32.toInt32 = v) (k : Go p e below F (T.setTop (mkF m q Ls (.int v :: st)))) : Go p e below F (T.setTop (mkF m pc Ls (.int x :: st))) := by
  subst hq hv
  exact Go.st (fun t h => XS.i2c A.pt A.1.1 rfl (hb A.1.2.2.2.1 hd) rfl h) k
theorem Here.i2s (A : Here p l e R s m args below meth c Z a0 tbl own nm bc mxl rt n0 T L cells slots) {pc q : Nat} {Ls : Array Slot} {st : List Value} {x v : Int32} (hd : decode bc pc = .ok (.i2s, 1)) (hq : pc + 1 = q) (hv : x.toInt16.toInt32 = v) (k : Go p e below F (T.setTop (mkF m q Ls (.int v :: st)))) : Go p e below F (T.setTop (mkF m pc Ls (.int x :: st))) := by
  subst hq hv
  exact Go.st (fun t h => XS.i2s A.pt A.1.1 rfl (hb A.1.2.2.2.1 hd) rfl h) k
theorem Here.iloadN (A : Here p l e R s m args below meth c Z a0 tbl own nm bc mxl rt n0 T L cells slots) {pc q : Nat} {Ls : Array Slot} {st : List Value} {k : Fin 4} {v : Int32} (hd : decode bc pc = .ok (.iload_n k, 1)) (hq : pc + 1 = q) (hl : Ls[k.val]? = some (.val (.int v))) (k : Go p e below F (T.setTop (mkF m q Ls (.int v :: st)))) : Go p e below F (T.setTop (mkF m pc Ls st)) := by
  subst hq
  exact Go.st (fun t h => XS.iloadN A.pt A.1.1 rfl (hb A.1.2.2.2.1 hd) hl h) k
theorem Here.iload (A : Here p l e R s m args below meth c Z a0 tbl own nm bc mxl rt n0 T L cells slots) {pc q : Nat} {Ls : Array Slot} {st : List Value} {k : Nat} {v : Int32} (hd : decode bc pc = .ok (.iload k, 2)) (hq : pc + 2 = q) (hl : Ls[k]? = some (.val (.int v))) (k : Go p e below F (T.setTop (mkF m q Ls (.int v :: st)))) : Go p e below F (T.setTop (mkF m pc Ls st)) := by
  subst hq
  exact Go.st (fun t h => XS.iload A.pt A.1.1 rfl (hb A.1.2.2.2.1 hd) hl h) k
theorem Here.istoreN (A : Here p l e R s m args below meth c Z a0 tbl own nm bc mxl rt n0 T L cells slots) {pc q : Nat} {Ls : Array Slot} {st : List Value} {k : Fin 4} {v : Int32} {l' : Array Slot} (hd : decode bc pc = .ok (.istore_n k, 1)) (hq : pc + 1 = q) (hl : storeLocals Ls k.val (.int v) = some l') (k : Go p e below F (T.setTop (mkF m q l' st))) : Go p e below F (T.setTop (mkF m pc Ls (.int v :: st))) := by
  subst hq
  exact Go.st (fun t h => XS.istoreN A.pt A.1.1 rfl (hb A.1.2.2.2.1 hd) rfl hl h) k
theorem Here.istore (A : Here p l e R s m args below meth c Z a0 tbl own nm bc mxl rt n0 T L cells slots) {pc q : Nat} {Ls : Array Slot} {st : List Value} {k : Nat} {v : Int32} {l' : Array Slot} (hd : decode bc pc = .ok (.istore k, 2)) (hq : pc + 2 = q) (hl : storeLocals Ls k (.int v) = some l') (k : Go p e below F (T.setTop (mkF m q l' st))) : Go p e below F (T.setTop (mkF m pc Ls (.int v :: st))) := by
  subst hq
  exact Go.st (fun t h => XS.istore A.pt A.1.1 rfl (hb A.1.2.2.2.1 hd) rfl hl h) k
theorem Here.lloadN (A : Here p l e R s m args below meth c Z a0 tbl own nm bc mxl rt n0 T L cells slots) {pc q : Nat} {Ls : Array Slot} {st : List Value} {k : Fin 4} {v : Int64} (hd : decode bc pc = .ok (.lload_n k, 1)) (hq : pc + 1 = q) (hl : Ls[k.val]? = some (.val (.long v))) (k : Go p e below F (T.setTop (mkF m q Ls (.long v :: st)))) : Go p e below F (T.setTop (mkF m pc Ls st)) := by
  subst hq
  exact Go.st (fun t h => XS.lloadN A.pt A.1.1 rfl (hb A.1.2.2.2.1 hd) hl h) k
theorem Here.lload (A : Here p l e R s m args below meth c Z a0 tbl own nm bc mxl rt n0 T L cells slots) {pc q : Nat} {Ls : Array Slot} {st : List Value} {k : Nat} {v : Int64} (hd : decode bc pc = .ok (.lload k, 2)) (hq : pc + 2 = q) (hl : Ls[k]? = some (.val (.long v))) (k : Go p e below F (T.setTop (mkF m q Ls (.long v :: st)))) : Go p e below F (T.setTop (mkF m pc Ls st)) := by
  subst hq
  exact Go.st (fun t h => XS.lload A.pt A.1.1 rfl (hb A.1.2.2.2.1 hd) hl h) k
theorem Here.lstoreN (A : Here p l e R s m args below meth c Z a0 tbl own nm bc mxl rt n0 T L cells slots) {pc q : Nat} {Ls : Array Slot} {st : List Value} {k : Fin 4} {v : Int64} {l' : Array Slot} (hd : decode bc pc = .ok (.lstore_n k, 1)) (hq : pc + 1 = q) (hl : storeLocals Ls k.val (.long v) = some l') (k : Go p e below F (T.setTop (mkF m q l' st))) : Go p e below F (T.setTop (mkF m pc Ls (.long v :: st))) := by
  subst hq
  exact Go.st (fun t h => XS.lstoreN A.pt A.1.1 rfl (hb A.1.2.2.2.1 hd) rfl hl h) k
theorem Here.lstore (A : Here p l e R s m args below meth c Z a0 tbl own nm bc mxl rt n0 T L cells slots) {pc q : Nat} {Ls : Array Slot} {st : List Value} {k : Nat} {v : Int64} {l' : Array Slot} (hd : decode bc pc = .ok (.lstore k, 2)) (hq : pc + 2 = q) (hl : storeLocals Ls k (.long v) = some l') (k : Go p e below F (T.setTop (mkF m q l' st))) : Go p e below F (T.setTop (mkF m pc Ls (.long v :: st))) := by
  subst hq
  exact Go.st (fun t h => XS.lstore A.pt A.1.1 rfl (hb A.1.2.2.2.1 hd) rfl hl h) k
theorem Here.aloadN (A : Here p l e R s m args below meth c Z a0 tbl own nm bc mxl rt n0 T L cells slots) {pc q : Nat} {Ls : Array Slot} {st : List Value} {k : Fin 4} {v : Value} (hd : decode bc pc = .ok (.aload_n k, 1)) (hq : pc + 1 = q) (hl : Ls[k.val]? = some (.val v)) (hr : v.isRef = true) (k : Go p e below F (T.setTop (mkF m q Ls (v :: st)))) : Go p e below F (T.setTop (mkF m pc Ls st)) := by
  subst hq
  exact Go.st (fun t h => XS.aloadN A.pt A.1.1 rfl (hb A.1.2.2.2.1 hd) hl hr h) k
theorem Here.aload (A : Here p l e R s m args below meth c Z a0 tbl own nm bc mxl rt n0 T L cells slots) {pc q : Nat} {Ls : Array Slot} {st : List Value} {k : Nat} {v : Value} (hd : decode bc pc = .ok (.aload k, 2)) (hq : pc + 2 = q) (hl : Ls[k]? = some (.val v)) (hr : v.isRef = true) (k : Go p e below F (T.setTop (mkF m q Ls (v :: st)))) : Go p e below F (T.setTop (mkF m pc Ls st)) := by
  subst hq
  exact Go.st (fun t h => XS.aload A.pt A.1.1 rfl (hb A.1.2.2.2.1 hd) hl hr h) k
theorem Here.astoreN (A : Here p l e R s m args below meth c Z a0 tbl own nm bc mxl rt n0 T L cells slots) {pc q : Nat} {Ls : Array Slot} {st : List Value} {k : Fin 4} {v : Value} {l' : Array Slot} (hd : decode bc pc = .ok (.astore_n k, 1)) (hq : pc + 1 = q) (hr : v.isRef = true) (hl : storeLocals Ls k.val v = some l') (k : Go p e below F (T.setTop (mkF m q l' st))) : Go p e below F (T.setTop (mkF m pc Ls (v :: st))) := by
  subst hq
  exact Go.st (fun t h => XS.astoreN A.pt A.1.1 rfl (hb A.1.2.2.2.1 hd) rfl hr hl h) k
theorem Here.astore (A : Here p l e R s m args below meth c Z a0 tbl own nm bc mxl rt n0 T L cells slots) {pc q : Nat} {Ls : Array Slot} {st : List Value} {k : Nat} {v : Value} {l' : Array Slot} (hd : decode bc pc = .ok (.astore k, 2)) (hq : pc + 2 = q) (hr : v.isRef = true) (hl : storeLocals Ls k v = some l') (k : Go p e below F (T.setTop (mkF m q l' st))) : Go p e below F (T.setTop (mkF m pc Ls (v :: st))) := by
  subst hq
  exact Go.st (fun t h => XS.astore A.pt A.1.1 rfl (hb A.1.2.2.2.1 hd) rfl hr hl h) k
theorem Here.iconst (A : Here p l e R s m args below meth c Z a0 tbl own nm bc mxl rt n0 T L cells slots) {pc q : Nat} {Ls : Array Slot} {st : List Value} {i : Int} {v : Int32} (hd : decode bc pc = .ok (.iconst i, 1)) (hq : pc + 1 = q) (hv : Int32.ofInt i = v) (k : Go p e below F (T.setTop (mkF m q Ls (.int v :: st)))) : Go p e below F (T.setTop (mkF m pc Ls st)) := by
  subst hq hv
  exact Go.st (fun t h => XS.iconst A.pt A.1.1 rfl (hb A.1.2.2.2.1 hd)  h) k
theorem Here.bipush (A : Here p l e R s m args below meth c Z a0 tbl own nm bc mxl rt n0 T L cells slots) {pc q : Nat} {Ls : Array Slot} {st : List Value} {i : Int} {v : Int32} (hd : decode bc pc = .ok (.bipush i, 2)) (hq : pc + 2 = q) (hv : (Int8.ofInt i).toInt32 = v) (k : Go p e below F (T.setTop (mkF m q Ls (.int v :: st)))) : Go p e below F (T.setTop (mkF m pc Ls st)) := by
  subst hq hv
  exact Go.st (fun t h => XS.bipush A.pt A.1.1 rfl (hb A.1.2.2.2.1 hd)  h) k
theorem Here.sipush (A : Here p l e R s m args below meth c Z a0 tbl own nm bc mxl rt n0 T L cells slots) {pc q : Nat} {Ls : Array Slot} {st : List Value} {i : Int} {v : Int32} (hd : decode bc pc = .ok (.sipush i, 3)) (hq : pc + 3 = q) (hv : (Int16.ofInt i).toInt32 = v) (k : Go p e below F (T.setTop (mkF m q Ls (.int v :: st)))) : Go p e below F (T.setTop (mkF m pc Ls st)) := by
  subst hq hv
  exact Go.st (fun t h => XS.sipush A.pt A.1.1 rfl (hb A.1.2.2.2.1 hd)  h) k
theorem Here.lconst (A : Here p l e R s m args below meth c Z a0 tbl own nm bc mxl rt n0 T L cells slots) {pc q : Nat} {Ls : Array Slot} {st : List Value} {i : Fin 2} {v : Int64} (hd : decode bc pc = .ok (.lconst i, 1)) (hq : pc + 1 = q) (hv : Int64.ofNat i = v) (k : Go p e below F (T.setTop (mkF m q Ls (.long v :: st)))) : Go p e below F (T.setTop (mkF m pc Ls st)) := by
  subst hq hv
  exact Go.st (fun t h => XS.lconst A.pt A.1.1 rfl (hb A.1.2.2.2.1 hd)  h) k
theorem Here.aconst_null (A : Here p l e R s m args below meth c Z a0 tbl own nm bc mxl rt n0 T L cells slots) {pc q : Nat} {Ls : Array Slot} {st : List Value}  (hd : decode bc pc = .ok (.aconst_null, 1)) (hq : pc + 1 = q)  (k : Go p e below F (T.setTop (mkF m q Ls (.null :: st)))) : Go p e below F (T.setTop (mkF m pc Ls st)) := by
  subst hq
  exact Go.st (fun t h => XS.aconstNull A.pt A.1.1 rfl (hb A.1.2.2.2.1 hd)  h) k
theorem Here.dup (A : Here p l e R s m args below meth c Z a0 tbl own nm bc mxl rt n0 T L cells slots) {pc q : Nat} {Ls : Array Slot} {st : List Value} {v : Value} (hd : decode bc pc = .ok (.dup, 1)) (hq : pc + 1 = q) (hc : v.category = 1) (k : Go p e below F (T.setTop (mkF m q Ls (v :: v :: st)))) : Go p e below F (T.setTop (mkF m pc Ls (v :: st))) := by
  subst hq
  exact Go.st (fun t h => XS.dup A.pt A.1.1 rfl (hb A.1.2.2.2.1 hd) rfl hc h) k
theorem Here.dup_x1 (A : Here p l e R s m args below meth c Z a0 tbl own nm bc mxl rt n0 T L cells slots) {pc q : Nat} {Ls : Array Slot} {st : List Value} {v w : Value} (hd : decode bc pc = .ok (.dup_x1, 1)) (hq : pc + 1 = q) (hc : v.category = 1) (hc' : w.category = 1) (k : Go p e below F (T.setTop (mkF m q Ls (v :: w :: v :: st)))) : Go p e below F (T.setTop (mkF m pc Ls (v :: w :: st))) := by
  subst hq
  exact Go.st (fun t h => XS.dupX1 A.pt A.1.1 rfl (hb A.1.2.2.2.1 hd) rfl hc hc' h) k
theorem Here.dup2 (A : Here p l e R s m args below meth c Z a0 tbl own nm bc mxl rt n0 T L cells slots) {pc q : Nat} {Ls : Array Slot} {st : List Value} {v w : Value} (hd : decode bc pc = .ok (.dup2, 1)) (hq : pc + 1 = q) (hc : v.category = 1) (hc' : w.category = 1) (k : Go p e below F (T.setTop (mkF m q Ls (v :: w :: v :: w :: st)))) : Go p e below F (T.setTop (mkF m pc Ls (v :: w :: st))) := by
  subst hq
  exact Go.st (fun t h => XT.dup2 A.pt A.1.1 rfl (hb A.1.2.2.2.1 hd) rfl hc hc' h) k
theorem Here.pop (A : Here p l e R s m args below meth c Z a0 tbl own nm bc mxl rt n0 T L cells slots) {pc q : Nat} {Ls : Array Slot} {st : List Value} {v : Value} (hd : decode bc pc = .ok (.pop, 1)) (hq : pc + 1 = q) (hc : v.category = 1) (k : Go p e below F (T.setTop (mkF m q Ls st))) : Go p e below F (T.setTop (mkF m pc Ls (v :: st))) := by
  subst hq
  exact Go.st (fun t h => XS.pop A.pt A.1.1 rfl (hb A.1.2.2.2.1 hd) rfl hc h) k
theorem Here.iinc (A : Here p l e R s m args below meth c Z a0 tbl own nm bc mxl rt n0 T L cells slots) {pc q : Nat} {Ls : Array Slot} {st : List Value} {k : Nat} {cst : Int} {x v : Int32} {l' : Array Slot} (hd : decode bc pc = .ok (.iinc k cst, 3)) (hq : pc + 3 = q) (hl : Ls[k]? = some (.val (.int x))) (hv : x + Int32.ofInt cst = v) (hl' : storeLocals Ls k (.int v) = some l') (k : Go p e below F (T.setTop (mkF m q l' st))) : Go p e below F (T.setTop (mkF m pc Ls st)) := by
  subst hq hv
  exact Go.st (fun t h => XS.iinc A.pt A.1.1 rfl (hb A.1.2.2.2.1 hd) hl hl' h) k
theorem Here.goto (A : Here p l e R s m args below meth c Z a0 tbl own nm bc mxl rt n0 T L cells slots) {pc r : Nat} {Ls : Array Slot} {st : List Value} {o : Int} (hd : decode bc pc = .ok (.goto o, 3)) (hr : (pc : Int) + o = (r : Int)) (k : Go p e below F (T.setTop (mkF m r Ls st))) : Go p e below F (T.setTop (mkF m pc Ls st)) :=
  Go.st (fun t h => XS.goto A.pt A.1.1 rfl (pc0 := pc) (pc' := r) rfl (hb A.1.2.2.2.1 hd) (by omega) (by omega) h) k
theorem Here.icmp_lt (A : Here p l e R s m args below meth c Z a0 tbl own nm bc mxl rt n0 T L cells slots) {pc q r : Nat} {Ls : Array Slot} {st : List Value} {x y : Int32} {o : Int} (hd : decode bc pc = .ok (.if_icmp .lt o, 3)) (hq : pc + 3 = q) (hr : (pc : Int) + o = (r : Int)) (kt : x < y → Go p e below F (T.setTop (mkF m r Ls st))) (kf : ¬ (x < y) → Go p e below F (T.setTop (mkF m q Ls st))) : Go p e below F (T.setTop (mkF m pc Ls (.int y :: .int x :: st))) := by
  by_cases hc : x < y
  · exact Go.st (fun t h => XS.icmpYes A.pt A.1.1 rfl (pc0 := pc) (pc' := r) rfl (hb A.1.2.2.2.1 hd) rfl (tlt hc).1 (by omega) (by omega) h) (kt hc)
  · subst hq; exact Go.st (fun t h => XS.icmpNo A.pt A.1.1 rfl (hb A.1.2.2.2.1 hd) rfl (flt hc).1 h) (kf hc)
theorem Here.if_lt (A : Here p l e R s m args below meth c Z a0 tbl own nm bc mxl rt n0 T L cells slots) {pc q r : Nat} {Ls : Array Slot} {st : List Value} {x : Int32} {o : Int} (hd : decode bc pc = .ok (.ifCond .lt o, 3)) (hq : pc + 3 = q) (hr : (pc : Int) + o = (r : Int)) (kt : x < (0 : Int32) → Go p e below F (T.setTop (mkF m r Ls st))) (kf : ¬ (x < (0 : Int32)) → Go p e below F (T.setTop (mkF m q Ls st))) : Go p e below F (T.setTop (mkF m pc Ls (.int x :: st))) := by
  by_cases hc : x < (0 : Int32)
  · exact Go.st (fun t h => XS.ifYes A.pt A.1.1 rfl (pc0 := pc) (pc' := r) rfl (hb A.1.2.2.2.1 hd) rfl ((if0 _ _).trans (tlt hc).1) (by omega) (by omega) h) (kt hc)
  · subst hq; exact Go.st (fun t h => XS.ifNo A.pt A.1.1 rfl (hb A.1.2.2.2.1 hd) rfl ((if0 _ _).trans (flt hc).1) h) (kf hc)
theorem Here.icmp_ge (A : Here p l e R s m args below meth c Z a0 tbl own nm bc mxl rt n0 T L cells slots) {pc q r : Nat} {Ls : Array Slot} {st : List Value} {x y : Int32} {o : Int} (hd : decode bc pc = .ok (.if_icmp .ge o, 3)) (hq : pc + 3 = q) (hr : (pc : Int) + o = (r : Int)) (kt : ¬ (x < y) → Go p e below F (T.setTop (mkF m r Ls st))) (kf : x < y → Go p e below F (T.setTop (mkF m q Ls st))) : Go p e below F (T.setTop (mkF m pc Ls (.int y :: .int x :: st))) := by
  by_cases hc : x < y
  · subst hq; exact Go.st (fun t h => XS.icmpNo A.pt A.1.1 rfl (hb A.1.2.2.2.1 hd) rfl (tlt hc).2.1 h) (kf hc)
  · exact Go.st (fun t h => XS.icmpYes A.pt A.1.1 rfl (pc0 := pc) (pc' := r) rfl (hb A.1.2.2.2.1 hd) rfl (flt hc).2.1 (by omega) (by omega) h) (kt hc)
theorem Here.if_ge (A : Here p l e R s m args below meth c Z a0 tbl own nm bc mxl rt n0 T L cells slots) {pc q r : Nat} {Ls : Array Slot} {st : List Value} {x : Int32} {o : Int} (hd : decode bc pc = .ok (.ifCond .ge o, 3)) (hq : pc + 3 = q) (hr : (pc : Int) + o = (r : Int)) (kt : ¬ (x < (0 : Int32)) → Go p e below F (T.setTop (mkF m r Ls st))) (kf : x < (0 : Int32) → Go p e below F (T.setTop (mkF m q Ls st))) : Go p e below F (T.setTop (mkF m pc Ls (.int x :: st))) := by
  by_cases hc : x < (0 : Int32)
  · subst hq; exact Go.st (fun t h => XS.ifNo A.pt A.1.1 rfl (hb A.1.2.2.2.1 hd) rfl ((if0 _ _).trans (tlt hc).2.1) h) (kf hc)
  · exact Go.st (fun t h => XS.ifYes A.pt A.1.1 rfl (pc0 := pc) (pc' := r) rfl (hb A.1.2.2.2.1 hd) rfl ((if0 _ _).trans (flt hc).2.1) (by omega) (by omega) h) (kt hc)
theorem Here.icmp_gt (A : Here p l e R s m args below meth c Z a0 tbl own nm bc mxl rt n0 T L cells slots) {pc q r : Nat} {Ls : Array Slot} {st : List Value} {x y : Int32} {o : Int} (hd : decode bc pc = .ok (.if_icmp .gt o, 3)) (hq : pc + 3 = q) (hr : (pc : Int) + o = (r : Int)) (kt : y < x → Go p e below F (T.setTop (mkF m r Ls st))) (kf : ¬ (y < x) → Go p e below F (T.setTop (mkF m q Ls st))) : Go p e below F (T.setTop (mkF m pc Ls (.int y :: .int x :: st))) := by
  by_cases hc : y < x
  · exact Go.st (fun t h => XS.icmpYes A.pt A.1.1 rfl (pc0 := pc) (pc' := r) rfl (hb A.1.2.2.2.1 hd) rfl (tlt hc).2.2.1 (by omega) (by omega) h) (kt hc)
  · subst hq; exact Go.st (fun t h => XS.icmpNo A.pt A.1.1 rfl (hb A.1.2.2.2.1 hd) rfl (flt hc).2.2.1 h) (kf hc)
theorem Here.if_gt (A : Here p l e R s m args below meth c Z a0 tbl own nm bc mxl rt n0 T L cells slots) {pc q r : Nat} {Ls : Array Slot} {st : List Value} {x : Int32} {o : Int} (hd : decode bc pc = .ok (.ifCond .gt o, 3)) (hq : pc + 3 = q) (hr : (pc : Int) + o = (r : Int)) (kt : (0 : Int32) < x → Go p e below F (T.setTop (mkF m r Ls st))) (kf : ¬ ((0 : Int32) < x) → Go p e below F (T.setTop (mkF m q Ls st))) : Go p e below F (T.setTop (mkF m pc Ls (.int x :: st))) := by
  by_cases hc : (0 : Int32) < x
  · exact Go.st (fun t h => XS.ifYes A.pt A.1.1 rfl (pc0 := pc) (pc' := r) rfl (hb A.1.2.2.2.1 hd) rfl ((if0 _ _).trans (tlt hc).2.2.1) (by omega) (by omega) h) (kt hc)
  · subst hq; exact Go.st (fun t h => XS.ifNo A.pt A.1.1 rfl (hb A.1.2.2.2.1 hd) rfl ((if0 _ _).trans (flt hc).2.2.1) h) (kf hc)
theorem Here.icmp_le (A : Here p l e R s m args below meth c Z a0 tbl own nm bc mxl rt n0 T L cells slots) {pc q r : Nat} {Ls : Array Slot} {st : List Value} {x y : Int32} {o : Int} (hd : decode bc pc = .ok (.if_icmp .le o, 3)) (hq : pc + 3 = q) (hr : (pc : Int) + o = (r : Int)) (kt : ¬ (y < x) → Go p e below F (T.setTop (mkF m r Ls st))) (kf : y < x → Go p e below F (T.setTop (mkF m q Ls st))) : Go p e below F (T.setTop (mkF m pc Ls (.int y :: .int x :: st))) := by
  by_cases hc : y < x
  · subst hq; exact Go.st (fun t h => XS.icmpNo A.pt A.1.1 rfl (hb A.1.2.2.2.1 hd) rfl (tlt hc).2.2.2 h) (kf hc)
  · exact Go.st (fun t h => XS.icmpYes A.pt A.1.1 rfl (pc0 := pc) (pc' := r) rfl (hb A.1.2.2.2.1 hd) rfl (flt hc).2.2.2 (by omega) (by omega) h) (kt hc)
theorem Here.if_le (A : Here p l e R s m args below meth c Z a0 tbl own nm bc mxl rt n0 T L cells slots) {pc q r : Nat} {Ls : Array Slot} {st : List Value} {x : Int32} {o : Int} (hd : decode bc pc = .ok (.ifCond .le o, 3)) (hq : pc + 3 = q) (hr : (pc : Int) + o = (r : Int)) (kt : ¬ ((0 : Int32) < x) → Go p e below F (T.setTop (mkF m r Ls st))) (kf : (0 : Int32) < x → Go p e below F (T.setTop (mkF m q Ls st))) : Go p e below F (T.setTop (mkF m pc Ls (.int x :: st))) := by
  by_cases hc : (0 : Int32) < x
  · subst hq; exact Go.st (fun t h => XS.ifNo A.pt A.1.1 rfl (hb A.1.2.2.2.1 hd) rfl ((if0 _ _).trans (tlt hc).2.2.2) h) (kf hc)
  · exact Go.st (fun t h => XS.ifYes A.pt A.1.1 rfl (pc0 := pc) (pc' := r) rfl (hb A.1.2.2.2.1 hd) rfl ((if0 _ _).trans (flt hc).2.2.2) (by omega) (by omega) h) (kt hc)
theorem Here.icmp_eq (A : Here p l e R s m args below meth c Z a0 tbl own nm bc mxl rt n0 T L cells slots) {pc q r : Nat} {Ls : Array Slot} {st : List Value} {x y : Int32} {o : Int} (hd : decode bc pc = .ok (.if_icmp .eq o, 3)) (hq : pc + 3 = q) (hr : (pc : Int) + o = (r : Int)) (kt : x = y → Go p e below F (T.setTop (mkF m r Ls st))) (kf : ¬ (x = y) → Go p e below F (T.setTop (mkF m q Ls st))) : Go p e below F (T.setTop (mkF m pc Ls (.int y :: .int x :: st))) := by
  by_cases hc : x = y
  · exact Go.st (fun t h => XS.icmpYes A.pt A.1.1 rfl (pc0 := pc) (pc' := r) rfl (hb A.1.2.2.2.1 hd) rfl (teq hc).1 (by omega) (by omega) h) (kt hc)
  · subst hq; exact Go.st (fun t h => XS.icmpNo A.pt A.1.1 rfl (hb A.1.2.2.2.1 hd) rfl (feq hc).1 h) (kf hc)
theorem Here.if_eq (A : Here p l e R s m args below meth c Z a0 tbl own nm bc mxl rt n0 T L cells slots) {pc q r : Nat} {Ls : Array Slot} {st : List Value} {x : Int32} {o : Int} (hd : decode bc pc = .ok (.ifCond .eq o, 3)) (hq : pc + 3 = q) (hr : (pc : Int) + o = (r : Int)) (kt : x = (0 : Int32) → Go p e below F (T.setTop (mkF m r Ls st))) (kf : ¬ (x = (0 : Int32)) → Go p e below F (T.setTop (mkF m q Ls st))) : Go p e below F (T.setTop (mkF m pc Ls (.int x :: st))) := by
  by_cases hc : x = (0 : Int32)
  · exact Go.st (fun t h => XS.ifYes A.pt A.1.1 rfl (pc0 := pc) (pc' := r) rfl (hb A.1.2.2.2.1 hd) rfl ((if0 _ _).trans (teq hc).1) (by omega) (by omega) h) (kt hc)
  · subst hq; exact Go.st (fun t h => XS.ifNo A.pt A.1.1 rfl (hb A.1.2.2.2.1 hd) rfl ((if0 _ _).trans (feq hc).1) h) (kf hc)
theorem Here.icmp_ne (A : Here p l e R s m args below meth c Z a0 tbl own nm bc mxl rt n0 T L cells slots) {pc q r : Nat} {Ls : Array Slot} {st : List Value} {x y : Int32} {o : Int} (hd : decode bc pc = .ok (.if_icmp .ne o, 3)) (hq : pc + 3 = q) (hr : (pc : Int) + o = (r : Int)) (kt : ¬ (x = y) → Go p e below F (T.setTop (mkF m r Ls st))) (kf : x = y → Go p e below F (T.setTop (mkF m q Ls st))) : Go p e below F (T.setTop (mkF m pc Ls (.int y :: .int x :: st))) := by
  by_cases hc : x = y
  · subst hq; exact Go.st (fun t h => XS.icmpNo A.pt A.1.1 rfl (hb A.1.2.2.2.1 hd) rfl (teq hc).2 h) (kf hc)
  · exact Go.st (fun t h => XS.icmpYes A.pt A.1.1 rfl (pc0 := pc) (pc' := r) rfl (hb A.1.2.2.2.1 hd) rfl (feq hc).2 (by omega) (by omega) h) (kt hc)
theorem Here.if_ne (A : Here p l e R s m args below meth c Z a0 tbl own nm bc mxl rt n0 T L cells slots) {pc q r : Nat} {Ls : Array Slot} {st : List Value} {x : Int32} {o : Int} (hd : decode bc pc = .ok (.ifCond .ne o, 3)) (hq : pc + 3 = q) (hr : (pc : Int) + o = (r : Int)) (kt : ¬ (x = (0 : Int32)) → Go p e below F (T.setTop (mkF m r Ls st))) (kf : x = (0 : Int32) → Go p e below F (T.setTop (mkF m q Ls st))) : Go p e below F (T.setTop (mkF m pc Ls (.int x :: st))) := by
  by_cases hc : x = (0 : Int32)
  · subst hq; exact Go.st (fun t h => XS.ifNo A.pt A.1.1 rfl (hb A.1.2.2.2.1 hd) rfl ((if0 _ _).trans (teq hc).2) h) (kf hc)
  · exact Go.st (fun t h => XS.ifYes A.pt A.1.1 rfl (pc0 := pc) (pc' := r) rfl (hb A.1.2.2.2.1 hd) rfl ((if0 _ _).trans (feq hc).2) (by omega) (by omega) h) (kt hc)
theorem Here.icmpT (A : Here p l e R s m args below meth c Z a0 tbl own nm bc mxl rt n0 T L cells slots) {pc r : Nat} {Ls : Array Slot} {st : List Value} {x y : Int32} {o : Int} {cd : ClassFile.Cond} (hd : decode bc pc = .ok (.if_icmp cd o, 3)) (hr : (pc : Int) + o = (r : Int)) (hc : if_icmp.holds cd x y = true) (k : Go p e below F (T.setTop (mkF m r Ls st))) : Go p e below F (T.setTop (mkF m pc Ls (.int y :: .int x :: st))) :=
  Go.st (fun t h => XS.icmpYes A.pt A.1.1 rfl (pc0 := pc) (pc' := r) rfl (hb A.1.2.2.2.1 hd) rfl hc (by omega) (by omega) h) k
theorem Here.icmpF (A : Here p l e R s m args below meth c Z a0 tbl own nm bc mxl rt n0 T L cells slots) {pc q : Nat} {Ls : Array Slot} {st : List Value} {x y : Int32} {o : Int} {cd : ClassFile.Cond} (hd : decode bc pc = .ok (.if_icmp cd o, 3)) (hq : pc + 3 = q) (hc : if_icmp.holds cd x y = false) (k : Go p e below F (T.setTop (mkF m q Ls st))) : Go p e below F (T.setTop (mkF m pc Ls (.int y :: .int x :: st))) := by
  subst hq; exact Go.st (fun t h => XS.icmpNo A.pt A.1.1 rfl (hb A.1.2.2.2.1 hd) rfl hc h) k
theorem Here.ifT (A : Here p l e R s m args below meth c Z a0 tbl own nm bc mxl rt n0 T L cells slots) {pc r : Nat} {Ls : Array Slot} {st : List Value} {x : Int32} {o : Int} {cd : ClassFile.Cond} (hd : decode bc pc = .ok (.ifCond cd o, 3)) (hr : (pc : Int) + o = (r : Int)) (hc : ifCond.holds cd x = true) (k : Go p e below F (T.setTop (mkF m r Ls st))) : Go p e below F (T.setTop (mkF m pc Ls (.int x :: st))) :=
  Go.st (fun t h => XS.ifYes A.pt A.1.1 rfl (pc0 := pc) (pc' := r) rfl (hb A.1.2.2.2.1 hd) rfl hc (by omega) (by omega) h) k
theorem Here.ifF (A : Here p l e R s m args below meth c Z a0 tbl own nm bc mxl rt n0 T L cells slots) {pc q : Nat} {Ls : Array Slot} {st : List Value} {x : Int32} {o : Int} {cd : ClassFile.Cond} (hd : decode bc pc = .ok (.ifCond cd o, 3)) (hq : pc + 3 = q) (hc : ifCond.holds cd x = false) (k : Go p e below F (T.setTop (mkF m q Ls st))) : Go p e below F (T.setTop (mkF m pc Ls (.int x :: st))) := by
  subst hq; exact Go.st (fun t h => XS.ifNo A.pt A.1.1 rfl (hb A.1.2.2.2.1 hd) rfl hc h) k
theorem Here.lcmp_lt (A : Here p l e R s m args below meth c Z a0 tbl own nm bc mxl rt n0 T L cells slots) {pc q q2 r : Nat} {Ls : Array Slot} {st : List Value} {x y : Int64} {o : Int} (hd : decode bc pc = .ok (.lcmp, 1)) (hq : pc + 1 = q) (hd2 : decode bc q = .ok (.ifCond .lt o, 3)) (hq2 : q + 3 = q2) (hr : (q : Int) + o = (r : Int)) (kt : x < y → Go p e below F (T.setTop (mkF m r Ls st))) (kf : ¬ (x < y) → Go p e below F (T.setTop (mkF m q2 Ls st))) : Go p e below F (T.setTop (mkF m pc Ls (.long y :: .long x :: st))) := by
  have key : Go p e below F (T.setTop (mkF m q Ls (.int (lcmpW x y) :: st))) := by
    by_cases hc : x < y
    · exact A.ifT hd2 hr ((if0 _ _).trans (tlt ((lw_lt x y).mpr hc)).1) (kt hc)
    · exact A.ifF hd2 hq2 ((if0 _ _).trans (flt (mt (lw_lt x y).mp hc)).1) (kf hc)
  subst hq
  exact Go.st (fun t h => XS.lcmp A.pt A.1.1 rfl (hb A.1.2.2.2.1 hd) rfl h) key
theorem Here.lcmp_ge (A : Here p l e R s m args below meth c Z a0 tbl own nm bc mxl rt n0 T L cells slots) {pc q q2 r : Nat} {Ls : Array Slot} {st : List Value} {x y : Int64} {o : Int} (hd : decode bc pc = .ok (.lcmp, 1)) (hq : pc + 1 = q) (hd2 : decode bc q = .ok (.ifCond .ge o, 3)) (hq2 : q + 3 = q2) (hr : (q : Int) + o = (r : Int)) (kt : ¬ (x < y) → Go p e below F (T.setTop (mkF m r Ls st))) (kf : x < y → Go p e below F (T.setTop (mkF m q2 Ls st))) : Go p e below F (T.setTop (mkF m pc Ls (.long y :: .long x :: st))) := by
  have key : Go p e below F (T.setTop (mkF m q Ls (.int (lcmpW x y) :: st))) := by
    by_cases hc : x < y
    · exact A.ifF hd2 hq2 ((if0 _ _).trans (tlt ((lw_lt x y).mpr hc)).2.1) (kf hc)
    · exact A.ifT hd2 hr ((if0 _ _).trans (flt (mt (lw_lt x y).mp hc)).2.1) (kt hc)
  subst hq
  exact Go.st (fun t h => XS.lcmp A.pt A.1.1 rfl (hb A.1.2.2.2.1 hd) rfl h) key
theorem Here.lcmp_gt (A : Here p l e R s m args below meth c Z a0 tbl own nm bc mxl rt n0 T L cells slots) {pc q q2 r : Nat} {Ls : Array Slot} {st : List Value} {x y : Int64} {o : Int} (hd : decode bc pc = .ok (.lcmp, 1)) (hq : pc + 1 = q) (hd2 : decode bc q = .ok (.ifCond .gt o, 3)) (hq2 : q + 3 = q2) (hr : (q : Int) + o = (r : Int)) (kt : y < x → Go p e below F (T.setTop (mkF m r Ls st))) (kf : ¬ (y < x) → Go p e below F (T.setTop (mkF m q2 Ls st))) : Go p e below F (T.setTop (mkF m pc Ls (.long y :: .long x :: st))) := by
  have key : Go p e below F (T.setTop (mkF m q Ls (.int (lcmpW x y) :: st))) := by
    by_cases hc : y < x
    · exact A.ifT hd2 hr ((if0 _ _).trans (tlt ((lw_gt x y).mpr hc)).2.2.1) (kt hc)
    · exact A.ifF hd2 hq2 ((if0 _ _).trans (flt (mt (lw_gt x y).mp hc)).2.2.1) (kf hc)
  subst hq
  exact Go.st (fun t h => XS.lcmp A.pt A.1.1 rfl (hb A.1.2.2.2.1 hd) rfl h) key
theorem Here.lcmp_le (A : Here p l e R s m args below meth c Z a0 tbl own nm bc mxl rt n0 T L cells slots) {pc q q2 r : Nat} {Ls : Array Slot} {st : List Value} {x y : Int64} {o : Int} (hd : decode bc pc = .ok (.lcmp, 1)) (hq : pc + 1 = q) (hd2 : decode bc q = .ok (.ifCond .le o, 3)) (hq2 : q + 3 = q2) (hr : (q : Int) + o = (r : Int)) (kt : ¬ (y < x) → Go p e below F (T.setTop (mkF m r Ls st))) (kf : y < x → Go p e below F (T.setTop (mkF m q2 Ls st))) : Go p e below F (T.setTop (mkF m pc Ls (.long y :: .long x :: st))) := by
  have key : Go p e below F (T.setTop (mkF m q Ls (.int (lcmpW x y) :: st))) := by
    by_cases hc : y < x
    · exact A.ifF hd2 hq2 ((if0 _ _).trans (tlt ((lw_gt x y).mpr hc)).2.2.2) (kf hc)
    · exact A.ifT hd2 hr ((if0 _ _).trans (flt (mt (lw_gt x y).mp hc)).2.2.2) (kt hc)
  subst hq
  exact Go.st (fun t h => XS.lcmp A.pt A.1.1 rfl (hb A.1.2.2.2.1 hd) rfl h) key
theorem Here.lcmp_eq (A : Here p l e R s m args below meth c Z a0 tbl own nm bc mxl rt n0 T L cells slots) {pc q q2 r : Nat} {Ls : Array Slot} {st : List Value} {x y : Int64} {o : Int} (hd : decode bc pc = .ok (.lcmp, 1)) (hq : pc + 1 = q) (hd2 : decode bc q = .ok (.ifCond .eq o, 3)) (hq2 : q + 3 = q2) (hr : (q : Int) + o = (r : Int)) (kt : x = y → Go p e below F (T.setTop (mkF m r Ls st))) (kf : ¬ (x = y) → Go p e below F (T.setTop (mkF m q2 Ls st))) : Go p e below F (T.setTop (mkF m pc Ls (.long y :: .long x :: st))) := by
  have key : Go p e below F (T.setTop (mkF m q Ls (.int (lcmpW x y) :: st))) := by
    by_cases hc : x = y
    · exact A.ifT hd2 hr ((if0 _ _).trans (teq ((lw_eq x y).mpr hc)).1) (kt hc)
    · exact A.ifF hd2 hq2 ((if0 _ _).trans (feq (mt (lw_eq x y).mp hc)).1) (kf hc)
  subst hq
  exact Go.st (fun t h => XS.lcmp A.pt A.1.1 rfl (hb A.1.2.2.2.1 hd) rfl h) key
theorem Here.lcmp_ne (A : Here p l e R s m args below meth c Z a0 tbl own nm bc mxl rt n0 T L cells slots) {pc q q2 r : Nat} {Ls : Array Slot} {st : List Value} {x y : Int64} {o : Int} (hd : decode bc pc = .ok (.lcmp, 1)) (hq : pc + 1 = q) (hd2 : decode bc q = .ok (.ifCond .ne o, 3)) (hq2 : q + 3 = q2) (hr : (q : Int) + o = (r : Int)) (kt : ¬ (x = y) → Go p e below F (T.setTop (mkF m r Ls st))) (kf : x = y → Go p e below F (T.setTop (mkF m q2 Ls st))) : Go p e below F (T.setTop (mkF m pc Ls (.long y :: .long x :: st))) := by
  have key : Go p e below F (T.setTop (mkF m q Ls (.int (lcmpW x y) :: st))) := by
    by_cases hc : x = y
    · exact A.ifF hd2 hq2 ((if0 _ _).trans (teq ((lw_eq x y).mpr hc)).2) (kf hc)
    · exact A.ifT hd2 hr ((if0 _ _).trans (feq (mt (lw_eq x y).mp hc)).2) (kt hc)
  subst hq
  exact Go.st (fun t h => XS.lcmp A.pt A.1.1 rfl (hb A.1.2.2.2.1 hd) rfl h) key
theorem Here.ifnonnullT (A : Here p l e R s m args below meth c Z a0 tbl own nm bc mxl rt n0 T L cells slots) {pc r : Nat} {Ls : Array Slot} {st : List Value} {b : Addr} {o : Int} (hd : decode bc pc = .ok (.ifnonnull o, 3)) (hr : (pc : Int) + o = (r : Int)) (k : Go p e below F (T.setTop (mkF m r Ls st))) : Go p e below F (T.setTop (mkF m pc Ls (.ref b :: st))) :=
  Go.st (fun t h => XS.ifnonnullYes A.pt A.1.1 rfl (pc0 := pc) (pc' := r) rfl (hb A.1.2.2.2.1 hd) rfl (by omega) (by omega) h) k
theorem Here.ifnonnullF (A : Here p l e R s m args below meth c Z a0 tbl own nm bc mxl rt n0 T L cells slots) {pc q : Nat} {Ls : Array Slot} {st : List Value} {o : Int} (hd : decode bc pc = .ok (.ifnonnull o, 3)) (hq : pc + 3 = q) (k : Go p e below F (T.setTop (mkF m q Ls st))) : Go p e below F (T.setTop (mkF m pc Ls (.null :: st))) := by
  subst hq; exact Go.st (fun t h => XS.ifnonnullNo A.pt A.1.1 rfl (hb A.1.2.2.2.1 hd) rfl h) k
theorem Here.ifnullT (A : Here p l e R s m args below meth c Z a0 tbl own nm bc mxl rt n0 T L cells slots) {pc r : Nat} {Ls : Array Slot} {st : List Value} {o : Int} (hd : decode bc pc = .ok (.ifnull o, 3)) (hr : (pc : Int) + o = (r : Int)) (k : Go p e below F (T.setTop (mkF m r Ls st))) : Go p e below F (T.setTop (mkF m pc Ls (.null :: st))) :=
  Go.st (fun t h => XS.ifnullYes A.pt A.1.1 rfl (pc0 := pc) (pc' := r) rfl (hb A.1.2.2.2.1 hd) rfl (by omega) (by omega) h) k
theorem Here.ifnullF (A : Here p l e R s m args below meth c Z a0 tbl own nm bc mxl rt n0 T L cells slots) {pc q : Nat} {Ls : Array Slot} {st : List Value} {b : Addr} {o : Int} (hd : decode bc pc = .ok (.ifnull o, 3)) (hq : pc + 3 = q) (k : Go p e below F (T.setTop (mkF m q Ls st))) : Go p e below F (T.setTop (mkF m pc Ls (.ref b :: st))) := by
  subst hq; exact Go.st (fun t h => XS.ifnullNo A.pt A.1.1 rfl (hb A.1.2.2.2.1 hd) rfl h) k
theorem Here.acmp (A : Here p l e R s m args below meth c Z a0 tbl own nm bc mxl rt n0 T L cells slots) {pc r : Nat} {Ls : Array Slot} {st : List Value} {x y : Value} {cd : ACond} {o : Int} {same : Bool} (hd : decode bc pc = .ok (.if_acmp cd o, 3)) (h1 : x.isRef = true) (h2 : y.isRef = true) (hs : decide (x = y) = same) (ho : 0 ≤ (pc : Int) + o) (hp : r = if acV cd same = true then ((pc : Int) + o).toNat else pc + 3) (k : Go p e below F (T.setTop (mkF m r Ls st))) : Go p e below F (T.setTop (mkF m pc Ls (y :: x :: st))) := by
  obtain ⟨_, X, _⟩ := A.2
  exact Go.st (fun t h => Jvm.RoadKit.acmp X A.1.1 rfl h1 h2 (pc0 := pc) (pc' := r) (same := same) rfl (hb A.1.2.2.2.1 hd) rfl hs ho hp h) k
theorem Here.ldc (A : Here p l e R s m args below meth c Z a0 tbl own nm bc mxl rt n0 T L cells slots) {pc q w index : Nat} {Ls : Array Slot} {st : List Value} {v : Int32} (hd : decode bc pc = .ok (.ldc index, 2)) (hq : pc + 2 = q) (hw : tbl[w]? = some (Jvm.Cond.constant own index v)) (k : Go p e below F (T.setTop (mkF m q Ls (.int v :: st)))) : Go p e below F (T.setTop (mkF m pc Ls st)) := by
  obtain ⟨⟨hx, hZ, hown, hby, hml, hww, hnm, hrt, hlk⟩, locs, X, N, Z0, P⟩ := id A
  subst hq
  exact Go.st (X.ldcInt hx hown (mvT hZ (hww _ (List.mem_of_getElem? hw))) (g := mkF m pc Ls st) rfl (hb hby hd)) k
theorem Here.ldc_w (A : Here p l e R s m args below meth c Z a0 tbl own nm bc mxl rt n0 T L cells slots) {pc q w index : Nat} {Ls : Array Slot} {st : List Value} {v : Int32} (hd : decode bc pc = .ok (.ldc_w index, 3)) (hq : pc + 3 = q) (hw : tbl[w]? = some (Jvm.Cond.constant own index v)) (k : Go p e below F (T.setTop (mkF m q Ls (.int v :: st)))) : Go p e below F (T.setTop (mkF m pc Ls st)) := by
  obtain ⟨⟨hx, hZ, hown, hby, hml, hww, hnm, hrt, hlk⟩, locs, X, N, Z0, P⟩ := id A
  subst hq
  exact Go.st (X.ldcwInt hx hown (mvT hZ (hww _ (List.mem_of_getElem? hw))) (g := mkF m pc Ls st) rfl (hb hby hd)) k
theorem Here.ldc2_w (A : Here p l e R s m args below meth c Z a0 tbl own nm bc mxl rt n0 T L cells slots) {pc q w index : Nat} {Ls : Array Slot} {st : List Value} {v : Int64} (hd : decode bc pc = .ok (.ldc2_w index, 3)) (hq : pc + 3 = q) (hw : tbl[w]? = some (Jvm.Cond.constantLong own index v)) (k : Go p e below F (T.setTop (mkF m q Ls (.long v :: st)))) : Go p e below F (T.setTop (mkF m pc Ls st)) := by
  obtain ⟨⟨hx, hZ, hown, hby, hml, hww, hnm, hrt, hlk⟩, locs, X, N, Z0, P⟩ := id A
  subst hq
  exact Go.st (X.ldc2Long hx hown (mvT hZ (hww _ (List.mem_of_getElem? hw))) (g := mkF m pc Ls st) rfl (hb hby hd)) k
theorem Here.getF (A : Here p l e R s m args below meth c Z a0 tbl own nm bc mxl rt n0 T L cells slots) {pc q w i j index : Nat} {Ls : Array Slot} {st : List Value} {O n d C : String} {a : Addr} {fs : List ((String × String × String) × Value)} {v : Value} (hd : decode bc pc = .ok (.getfield index, 3)) (hq : pc + 3 = q) (hw : tbl[w]? = some (Jvm.Cond.fieldLink own index O n d)) (hL : L[i]? = some (a, .inl (C, fs))) (hf : fs[j]? = some ((O, n, d), v))
    (k : ∀ T', Here p l e R s m args below meth c Z a0 tbl own nm bc mxl rt n0 T' L cells slots → Go p e below F (T'.setTop (mkF m q Ls (v :: st)))) : Go p e below F (T.setTop (mkF m pc Ls (.ref a :: st))) := by
  obtain ⟨⟨hx, hZ, hown, hby, hml, hww, hnm, hrt, hlk⟩, locs, X, N, Z0, P⟩ := id A
  have Fd := (P.1 _ (List.mem_of_getElem? hL)).2.2 _ (List.mem_of_getElem? hf)
  obtain ⟨T', X', e', st'⟩ := Jvm.RoadKit.getF X hx hZ hown (host := "") (Or.inl (hww _ (List.mem_of_getElem? hw))) Via.refl rfl Fd (g := mkF m pc Ls (.ref a :: st)) rfl rfl (hb hby hd)
  subst hq
  exact Go.st st' (k T' ⟨A.1, locs, X', N, by rw [e']; exact Z0, by rw [e']; exact P⟩)
theorem Here.putF (A : Here p l e R s m args below meth c Z a0 tbl own nm bc mxl rt n0 T L cells slots) {pc q w w2 w3 i j index kk : Nat} {Ls : Array Slot} {st : List Value} {O n d C : String} {a : Addr} {fs : List ((String × String × String) × Value)} {v v' old : Value} {ty : FieldType} {L' : Obs} (hd : decode bc pc = .ok (.putfield index, 3)) (hq : pc + 3 = q) (hw : tbl[w]? = some (Jvm.Cond.fieldLink own index O n d)) (hL : L[i]? = some (a, .inl (C, fs))) (hf : fs[j]? = some ((O, n, d), old))
    (hl : Lays Z a0 C (fs.map Prod.fst)) (hp : tbl[w2]? = some (Jvm.Cond.lays C O n d) ∨ (tbl[w2]? = some (Jvm.Cond.laysFinal C O n d) ∧ own = O ∧ nm = "<init>")) (hi : tbl[w3]? = some (Jvm.Cond.instantiable C kk)) (hty : parseFieldDescriptor d = some ty) (hn : narrow ty v = v') (hfit : fits ty v' = true) (hL' : L.set i (a, .inl (C, fs.set j ((O, n, d), v'))) = L')
    (k : ∀ T', Here p l e R s m args below meth c Z a0 tbl own nm bc mxl rt n0 T' L' cells slots → Go p e below F (T'.setTop (mkF m q Ls st))) : Go p e below F (T.setTop (mkF m pc Ls (v :: .ref a :: st))) := by
  obtain ⟨⟨hx, hZ, hown, hby, hml, hww, hnm, hrt, hlk⟩, locs, X, N, Z0, P⟩ := id A
  have I := P.1 _ (List.mem_of_getElem? hL)
  obtain ⟨T', h', X', e', W, st'⟩ := Jvm.RoadKit.putFN X hx hZ hown (hww _ (List.mem_of_getElem? hw)) Via.refl rfl (I.2.2 _ (List.mem_of_getElem? hf)) I.2.1 (hp.imp (fun q => hww _ (List.mem_of_getElem? q)) (fun q => ⟨hww _ (List.mem_of_getElem? q.1), q.2.1, by rw [hnm]; exact q.2.2⟩)) (hww _ (List.mem_of_getElem? hi)) hty hn hfit (g := mkF m pc Ls (v :: .ref a :: st)) rfl rfl (hb hby hd)
  subst hq hL' e'
  exact Go.st st' (k T' ⟨A.1, _, X', Fr.snoc X' N I.1, by rw [W.size]; exact Z0, P.set W hL (I.2.put W hl hf)⟩)
theorem Here.newO (A : Here p l e R s m args below meth c Z a0 tbl own nm bc mxl rt n0 T L cells slots) {pc q w1 w2 w3 index n : Nat} {Ls : Array Slot} {st : List Value} {C : String} {fs : List ((String × String × String) × Value)} (hd : decode bc pc = .ok (.new index, 3)) (hq : pc + 3 = q) (h1 : tbl[w1]? = some (Jvm.Cond.classLink own index C)) (h2 : tbl[w2]? = some (Jvm.Cond.instantiable C n)) (h3 : tbl[w3]? = some (Jvm.Cond.initialized C)) (hl : Lays Z a0 C (fs.map Prod.fst))
    (hdef : (fs.all fun q => match parseFieldDescriptor q.1.2.2 with | some t => decide (defaultValue t = q.2) | none => false) = true) (hc : cells + 1 ≤ R.cells) (hs : slots + n ≤ R.slots)
    (k : ∀ T' a, Here p l e R s m args below meth c Z a0 tbl own nm bc mxl rt n0 T' ((a, .inl (C, fs)) :: L) (cells + 1) (slots + n) → Go p e below F (T'.setTop (mkF m q Ls (.ref a :: st)))) : Go p e below F (T.setTop (mkF m pc Ls st)) := by
  obtain ⟨⟨hx, hZ, hown, hby, hml, hww, hnm, hrt, hlk⟩, locs, X, N, Z0, P⟩ := id A
  obtain ⟨T', h', X', e', E, Ex, D, -, st'⟩ := Jvm.RoadKit.newO X hx hZ hown (hww _ (List.mem_of_getElem? h1)) (hww _ (List.mem_of_getElem? h2)) (hww _ (List.mem_of_getElem? h3)) rfl (g := mkF m pc Ls st) rfl (hb hby hd) hc hs
  subst hq e'
  refine Go.st st' (k T' _ ⟨A.1, locs, X', N, Nat.le_trans Z0 E.1, P.new E Z0 ⟨Ex, fun f hf => ?_⟩⟩)
  obtain ⟨lf, -⟩ := hl.1 _ (List.mem_map.mpr ⟨f, hf, rfl⟩)
  have q := List.all_eq_true.mp hdef f hf
  cases ht : parseFieldDescriptor f.1.2.2 with
  | none => rw [ht] at q; cases q
  | some t =>
    rw [ht] at q
    have q' : defaultValue t = f.2 := of_decide_eq_true q
    rw [← q']; exact D lf ht
theorem Here.newA (A : Here p l e R s m args below meth c Z a0 tbl own nm bc mxl rt n0 T L cells slots) {pc q w cap : Nat} {Ls : Array Slot} {st : List Value} {aty : ArrayType} {n : Int32} {ty : FieldType} {vs : List Value} (hd : decode bc pc = .ok (.newarray aty, 2)) (hq : pc + 2 = q) (hty : newarray.typeOf aty = ty) (hw : tbl[w]? = some (Jvm.Cond.arrayClass ty)) (hn : ¬ n < 0) (hcap : n.toNatClampNeg ≤ cap) (hb8 : cap * 8 ≤ 536870912) (hvs : List.replicate n.toNatClampNeg (defaultValue ty) = vs) (hc : cells + 1 ≤ R.cells) (hs : slots + cap ≤ R.slots)
    (k : ∀ T' a, Here p l e R s m args below meth c Z a0 tbl own nm bc mxl rt n0 T' ((a, .inr (ty, vs)) :: L) (cells + 1) (slots + cap) → Go p e below F (T'.setTop (mkF m q Ls (.ref a :: st)))) : Go p e below F (T.setTop (mkF m pc Ls (.int n :: st))) := by
  obtain ⟨⟨hx, hZ, hown, hby, hml, hww, hnm, hrt, hlk⟩, locs, X, N, Z0, P⟩ := id A
  subst hty
  obtain ⟨T', h', cA, X', e', E, Ar, Ex, st'⟩ := newPE X hx hZ (hww _ (List.mem_of_getElem? hw)) rfl (g := mkF m pc Ls (.int n :: st)) rfl (hb hby hd) rfl hn hcap hb8 hc hs rfl
  subst hq e' hvs
  refine Go.st st' (k T' _ ⟨A.1, locs, X', N, Nat.le_trans Z0 E.1, P.new E Z0 ⟨_, Ar, ?_, ?_, ?_, Ex⟩⟩)
  · simp [Jvm.RoadKit.newA]
  · rw [List.length_replicate]; omega
  · intro v hv
    rw [(List.mem_replicate.mp hv).2]; exact fits_def aty

theorem Here.iaload (A : Here p l e R s m args below meth c Z a0 tbl own nm bc mxl rt n0 T L cells slots) {pc q i : Nat} {Ls : Array Slot} {st : List Value} {a : Addr} {j : Int32} {vs : List Value} {v : Value} (hd : decode bc pc = .ok (.iaload, 1)) (hq : pc + 1 = q) (hL : L[i]? = some (a, .inr (.int, vs))) (hj : ¬ j < 0) (hv : vs[j.toNatClampNeg]? = some v) (k : Go p e below F (T.setTop (mkF m q Ls (v :: st)))) : Go p e below F (T.setTop (mkF m pc Ls (.int j :: .ref a :: st))) := by
  obtain ⟨⟨hx, hZ, hown, hby, hml, hww, hnm, hrt, hlk⟩, locs, X, N, Z0, P⟩ := id A
  obtain ⟨cl, Ar, r1, r2, r3, r4⟩ := (P.1 _ (List.mem_of_getElem? hL)).2
  have hlt : j.toNatClampNeg < vs.length := (List.getElem?_eq_some_iff.mp hv).1
  subst hq
  exact Go.st (fun t h => X.iaload hx (j := j) (v := v) Ar.1 (State.isArrayOf_alike hZ.alike Ar.2.1) Ar.2.2 (fun q => q.elim hj (fun q => by rw [r1] at q; simp at q; omega)) (by rw [r1]; simpa using hv) (g := mkF m pc Ls (.int j :: .ref a :: st)) rfl rfl (hb hby hd) t h) k
theorem Here.laload (A : Here p l e R s m args below meth c Z a0 tbl own nm bc mxl rt n0 T L cells slots) {pc q i : Nat} {Ls : Array Slot} {st : List Value} {a : Addr} {j : Int32} {vs : List Value} {v : Value} (hd : decode bc pc = .ok (.laload, 1)) (hq : pc + 1 = q) (hL : L[i]? = some (a, .inr (.long, vs))) (hj : ¬ j < 0) (hv : vs[j.toNatClampNeg]? = some v) (k : Go p e below F (T.setTop (mkF m q Ls (v :: st)))) : Go p e below F (T.setTop (mkF m pc Ls (.int j :: .ref a :: st))) := by
  obtain ⟨⟨hx, hZ, hown, hby, hml, hww, hnm, hrt, hlk⟩, locs, X, N, Z0, P⟩ := id A
  obtain ⟨cl, Ar, r1, r2, r3, r4⟩ := (P.1 _ (List.mem_of_getElem? hL)).2
  have hlt : j.toNatClampNeg < vs.length := (List.getElem?_eq_some_iff.mp hv).1
  subst hq
  exact Go.st (fun t h => X.laload hx (j := j) (v := v) Ar.1 (State.isArrayOf_alike hZ.alike Ar.2.1) Ar.2.2 (fun q => q.elim hj (fun q => by rw [r1] at q; simp at q; omega)) (by rw [r1]; simpa using hv) (g := mkF m pc Ls (.int j :: .ref a :: st)) rfl rfl (hb hby hd) t h) k
theorem Here.baloadB (A : Here p l e R s m args below meth c Z a0 tbl own nm bc mxl rt n0 T L cells slots) {pc q i : Nat} {Ls : Array Slot} {st : List Value} {a : Addr} {j : Int32} {vs : List Value} {v : Value} (hd : decode bc pc = .ok (.baload, 1)) (hq : pc + 1 = q) (hL : L[i]? = some (a, .inr (.byte, vs))) (hj : ¬ j < 0) (hv : vs[j.toNatClampNeg]? = some v) (k : Go p e below F (T.setTop (mkF m q Ls (v :: st)))) : Go p e below F (T.setTop (mkF m pc Ls (.int j :: .ref a :: st))) := by
  obtain ⟨⟨hx, hZ, hown, hby, hml, hww, hnm, hrt, hlk⟩, locs, X, N, Z0, P⟩ := id A
  obtain ⟨cl, Ar, r1, r2, r3, r4⟩ := (P.1 _ (List.mem_of_getElem? hL)).2
  have hlt : j.toNatClampNeg < vs.length := (List.getElem?_eq_some_iff.mp hv).1
  subst hq
  exact Go.st (fun t h => X.baloadBytes hx (j := j) (v := v) Ar.1 (State.isArrayOf_alike hZ.alike Ar.2.1) Ar.2.2 (fun q => q.elim hj (fun q => by rw [r1] at q; simp at q; omega)) (by rw [r1]; simpa using hv) (g := mkF m pc Ls (.int j :: .ref a :: st)) rfl rfl (hb hby hd) t h) k
theorem Here.baloadZ (A : Here p l e R s m args below meth c Z a0 tbl own nm bc mxl rt n0 T L cells slots) {pc q i : Nat} {Ls : Array Slot} {st : List Value} {a : Addr} {j : Int32} {vs : List Value} {v : Value} (hd : decode bc pc = .ok (.baload, 1)) (hq : pc + 1 = q) (hL : L[i]? = some (a, .inr (.boolean, vs))) (hj : ¬ j < 0) (hv : vs[j.toNatClampNeg]? = some v) (k : Go p e below F (T.setTop (mkF m q Ls (v :: st)))) : Go p e below F (T.setTop (mkF m pc Ls (.int j :: .ref a :: st))) := by
  obtain ⟨⟨hx, hZ, hown, hby, hml, hww, hnm, hrt, hlk⟩, locs, X, N, Z0, P⟩ := id A
  obtain ⟨cl, Ar, r1, r2, r3, r4⟩ := (P.1 _ (List.mem_of_getElem? hL)).2
  have hlt : j.toNatClampNeg < vs.length := (List.getElem?_eq_some_iff.mp hv).1
  subst hq
  exact Go.st (fun t h => X.baloadBooleans hx (j := j) (v := v) Ar.1 (State.isArrayOf_alike hZ.alike Ar.2.1) Ar.2.2 (fun q => q.elim hj (fun q => by rw [r1] at q; simp at q; omega)) (by rw [r1]; simpa using hv) (g := mkF m pc Ls (.int j :: .ref a :: st)) rfl rfl (hb hby hd) t h) k
theorem Here.iastore (A : Here p l e R s m args below meth c Z a0 tbl own nm bc mxl rt n0 T L cells slots) {pc q i : Nat} {Ls : Array Slot} {st : List Value} {a : Addr} {j : Int32} {x x' : Int32} {vs : List Value} {L' : Obs} (hd : decode bc pc = .ok (.iastore, 1)) (hq : pc + 1 = q) (hL : L[i]? = some (a, .inr (.int, vs))) (hj : ¬ j < 0) (hlt : j.toNatClampNeg < vs.length) (hx' : x = x') (hL' : L.set i (a, .inr (.int, vs.set j.toNatClampNeg (.int x'))) = L') (k : ∀ T', Here p l e R s m args below meth c Z a0 tbl own nm bc mxl rt n0 T' L' cells slots → Go p e below F (T'.setTop (mkF m q Ls st))) : Go p e below F (T.setTop (mkF m pc Ls (.int x :: .int j :: .ref a :: st))) := by
  obtain ⟨⟨hx, hZ, hown, hby, hml, hww, hnm, hrt, hlk⟩, locs, X, N, Z0, P⟩ := id A
  have I := P.1 _ (List.mem_of_getElem? hL)
  obtain ⟨cl, Ar, r1, r2, r3, r4⟩ := id I.2
  obtain ⟨T', h', X', e', W, st'⟩ := stI X hx hZ rfl Ar (j := j) (x := x) (fun q => q.elim hj (fun q => by rw [r1] at q; simp at q; omega)) (g := mkF m pc Ls (.int x :: .int j :: .ref a :: st)) rfl rfl (hb hby hd)
  subst hq hL' e' hx'
  exact Go.st st' (k T' ⟨A.1, _, X', Fr.snoc X' N I.1, by rw [W.size]; exact Z0, P.set W hL (Ara.put (show Ara Z T.heap a .int vs from I.2) W rfl)⟩)
theorem Here.lastore (A : Here p l e R s m args below meth c Z a0 tbl own nm bc mxl rt n0 T L cells slots) {pc q i : Nat} {Ls : Array Slot} {st : List Value} {a : Addr} {j : Int32} {x x' : Int64} {vs : List Value} {L' : Obs} (hd : decode bc pc = .ok (.lastore, 1)) (hq : pc + 1 = q) (hL : L[i]? = some (a, .inr (.long, vs))) (hj : ¬ j < 0) (hlt : j.toNatClampNeg < vs.length) (hx' : x = x') (hL' : L.set i (a, .inr (.long, vs.set j.toNatClampNeg (.long x'))) = L') (k : ∀ T', Here p l e R s m args below meth c Z a0 tbl own nm bc mxl rt n0 T' L' cells slots → Go p e below F (T'.setTop (mkF m q Ls st))) : Go p e below F (T.setTop (mkF m pc Ls (.long x :: .int j :: .ref a :: st))) := by
  obtain ⟨⟨hx, hZ, hown, hby, hml, hww, hnm, hrt, hlk⟩, locs, X, N, Z0, P⟩ := id A
  have I := P.1 _ (List.mem_of_getElem? hL)
  obtain ⟨cl, Ar, r1, r2, r3, r4⟩ := id I.2
  obtain ⟨T', h', X', e', W, st'⟩ := stJ X hx hZ rfl Ar (j := j) (x := x) (fun q => q.elim hj (fun q => by rw [r1] at q; simp at q; omega)) (g := mkF m pc Ls (.long x :: .int j :: .ref a :: st)) rfl rfl (hb hby hd)
  subst hq hL' e' hx'
  exact Go.st st' (k T' ⟨A.1, _, X', Fr.snoc X' N I.1, by rw [W.size]; exact Z0, P.set W hL (Ara.put (show Ara Z T.heap a .long vs from I.2) W rfl)⟩)
theorem Here.bastoreB (A : Here p l e R s m args below meth c Z a0 tbl own nm bc mxl rt n0 T L cells slots) {pc q i : Nat} {Ls : Array Slot} {st : List Value} {a : Addr} {j : Int32} {x x' : Int32} {vs : List Value} {L' : Obs} (hd : decode bc pc = .ok (.bastore, 1)) (hq : pc + 1 = q) (hL : L[i]? = some (a, .inr (.byte, vs))) (hj : ¬ j < 0) (hlt : j.toNatClampNeg < vs.length) (hx' : (nar .byte x) = x') (hL' : L.set i (a, .inr (.byte, vs.set j.toNatClampNeg (.int x'))) = L') (k : ∀ T', Here p l e R s m args below meth c Z a0 tbl own nm bc mxl rt n0 T' L' cells slots → Go p e below F (T'.setTop (mkF m q Ls st))) : Go p e below F (T.setTop (mkF m pc Ls (.int x :: .int j :: .ref a :: st))) := by
  obtain ⟨⟨hx, hZ, hown, hby, hml, hww, hnm, hrt, hlk⟩, locs, X, N, Z0, P⟩ := id A
  have I := P.1 _ (List.mem_of_getElem? hL)
  obtain ⟨cl, Ar, r1, r2, r3, r4⟩ := id I.2
  obtain ⟨T', h', X', e', W, st'⟩ := stB X hx hZ rfl Ar (j := j) (x := x) (fun q => q.elim hj (fun q => by rw [r1] at q; simp at q; omega)) (g := mkF m pc Ls (.int x :: .int j :: .ref a :: st)) rfl rfl (hb hby hd)
  subst hq hL' e' hx'
  exact Go.st st' (k T' ⟨A.1, _, X', Fr.snoc X' N I.1, by rw [W.size]; exact Z0, P.set W hL (Ara.put (show Ara Z T.heap a .byte vs from I.2) W (fits_nar_byte _))⟩)
theorem Here.bastoreZ (A : Here p l e R s m args below meth c Z a0 tbl own nm bc mxl rt n0 T L cells slots) {pc q i : Nat} {Ls : Array Slot} {st : List Value} {a : Addr} {j : Int32} {x x' : Int32} {vs : List Value} {L' : Obs} (hd : decode bc pc = .ok (.bastore, 1)) (hq : pc + 1 = q) (hL : L[i]? = some (a, .inr (.boolean, vs))) (hj : ¬ j < 0) (hlt : j.toNatClampNeg < vs.length) (hx' : (nar .boolean x) = x') (hL' : L.set i (a, .inr (.boolean, vs.set j.toNatClampNeg (.int x'))) = L') (k : ∀ T', Here p l e R s m args below meth c Z a0 tbl own nm bc mxl rt n0 T' L' cells slots → Go p e below F (T'.setTop (mkF m q Ls st))) : Go p e below F (T.setTop (mkF m pc Ls (.int x :: .int j :: .ref a :: st))) := by
  obtain ⟨⟨hx, hZ, hown, hby, hml, hww, hnm, hrt, hlk⟩, locs, X, N, Z0, P⟩ := id A
  have I := P.1 _ (List.mem_of_getElem? hL)
  obtain ⟨cl, Ar, r1, r2, r3, r4⟩ := id I.2
  obtain ⟨T', h', X', e', W, st'⟩ := stZ X hx hZ rfl Ar (j := j) (x := x) (fun q => q.elim hj (fun q => by rw [r1] at q; simp at q; omega)) (g := mkF m pc Ls (.int x :: .int j :: .ref a :: st)) rfl rfl (hb hby hd)
  subst hq hL' e' hx'
  exact Go.st st' (k T' ⟨A.1, _, X', Fr.snoc X' N I.1, by rw [W.size]; exact Z0, P.set W hL (Ara.put (show Ara Z T.heap a .boolean vs from I.2) W (fits_nar_bool _))⟩)
theorem Here.arraylength (A : Here p l e R s m args below meth c Z a0 tbl own nm bc mxl rt n0 T L cells slots) {pc q i : Nat} {Ls : Array Slot} {st : List Value} {a : Addr} {ty : FieldType} {vs : List Value} {v : Int32} (hd : decode bc pc = .ok (.arraylength, 1)) (hq : pc + 1 = q) (hL : L[i]? = some (a, .inr (ty, vs))) (hv : vs.length.toInt32 = v) (k : Go p e below F (T.setTop (mkF m q Ls (.int v :: st)))) : Go p e below F (T.setTop (mkF m pc Ls (.ref a :: st))) := by
  obtain ⟨⟨hx, hZ, hown, hby, hml, hww, hnm, hrt, hlk⟩, locs, X, N, Z0, P⟩ := id A
  obtain ⟨cl, Ar, r1, r2, r3, r4⟩ := (P.1 _ (List.mem_of_getElem? hL)).2
  have hn : cl.slots.size = vs.length := by rw [r1]; simp
  subst hq hv
  exact Go.st (fun t h => X.arraylength hx Ar.1 (State.isArrayOf_alike hZ.alike Ar.2.1) (g := mkF m pc Ls (.ref a :: st)) rfl rfl (hb hby hd) t (by rw [hn]; exact h)) k
theorem Here.castArr (A : Here p l e R s m args below meth c Z a0 tbl own nm bc mxl rt n0 T L cells slots) {pc q i w index : Nat} {Ls : Array Slot} {st : List Value} {a : Addr} {ty : FieldType} {vs : List Value} {K : String} (hd : decode bc pc = .ok (.checkcast index, 3)) (hq : pc + 3 = q) (hw : tbl[w]? = some (Jvm.Cond.classLink own index K)) (hL : L[i]? = some (a, .inr (ty, vs))) (hK : "[" ++ ty.toString = K) (k : ∀ T', Here p l e R s m args below meth c Z a0 tbl own nm bc mxl rt n0 T' L cells slots → Go p e below F (T'.setTop (mkF m q Ls (.ref a :: st)))) : Go p e below F (T.setTop (mkF m pc Ls (.ref a :: st))) := by
  obtain ⟨⟨hx, hZ, hown, hby, hml, hww, hnm, hrt, hlk⟩, locs, X, N, Z0, P⟩ := id A
  obtain ⟨cl, Ar, r1, r2, r3, r4⟩ := (P.1 _ (List.mem_of_getElem? hL)).2
  subst hK hq
  obtain ⟨T', X', e', st'⟩ := castY X hx hZ hown (hww _ (List.mem_of_getElem? hw)) rfl (Ins.self r4) (g := mkF m pc Ls (.ref a :: st)) rfl rfl (hb hby hd)
  exact Go.st st' (k T' ⟨A.1, locs, X', N, by rw [e']; exact Z0, by rw [e']; exact P⟩)
theorem Here.clone (A : Here p l e R s m args below meth c Z a0 tbl own nm bc mxl rt n0 T L cells slots) {pc q i index W w1 w2 w3 w4 w5 w6 cap : Nat} {Ls : Array Slot} {st : List Value} {a : Addr} {ty : FieldType} {vs : List Value} {ad : String} (hd : decode bc pc = .ok (.invokevirtual index, 3)) (hq : pc + 3 = q) (hL : L[i]? = some (a, .inr (ty, vs))) (hK : "[" ++ ty.toString = ad)
    (h1 : tbl[w1]? = some (Jvm.Cond.methodLink own index ⟨ad, "clone", "()Ljava/lang/Object;"⟩)) (h2 : tbl[w2]? = some (Jvm.Cond.sameMethod ad "java/lang/Object" "clone" "()Ljava/lang/Object;")) (h3 : tbl[w3]? = some (Jvm.Cond.native ⟨"java/lang/Object", "clone", "()Ljava/lang/Object;"⟩)) (h4 : tbl[w4]? = some (Jvm.Cond.instanceMethod ⟨"java/lang/Object", "clone", "()Ljava/lang/Object;"⟩)) (h5 : tbl[w5]? = some (Jvm.Cond.selects ad ⟨ad, "clone", "()Ljava/lang/Object;"⟩ ⟨"java/lang/Object", "clone", "()Ljava/lang/Object;"⟩)) (h6 : tbl[w6]? = some (Jvm.Cond.castable ad "java/lang/Cloneable"))
    (hsz : Ls.size = mxl) (hW : (st.map fun v => v.category).sum = W) (hf : 1 ≤ R.frames) (hl : W + 14 ≤ R.locals) (hcap : vs.length ≤ cap) (hc : cells + 1 ≤ R.cells) (hs : slots + cap ≤ R.slots)
    (k : ∀ T' b, Here p l e R s m args below meth c Z a0 tbl own nm bc mxl rt n0 T' ((b, .inr (ty, vs)) :: L) (cells + 1) (slots + cap) → Go p e below F (T'.setTop (mkF m q Ls (.ref b :: st)))) : Go p e below F (T.setTop (mkF m pc Ls (.ref a :: st))) := by
  obtain ⟨⟨hx, hZ, hown, hby, hml, hww, hnm, hrt, hlk⟩, locs, X, N, Z0, P⟩ := id A
  obtain ⟨cl, Ar, r1, r2, r3, r4⟩ := (P.1 _ (List.mem_of_getElem? hL)).2
  subst hK hq
  have hn : cl.slots.size = vs.length := by rw [r1]; simp
  have FC : FitC Z cl := fitC_of Ar fun i hi v hv => r3 v (by rw [r1] at hv; exact List.mem_of_getElem? (by simpa using hv))
  obtain ⟨T', h', X', e', E, Ar', Ex, st'⟩ := cloneA X hx hZ hown (hww _ (List.mem_of_getElem? h1)) (hww _ (List.mem_of_getElem? h2)) (hww _ (List.mem_of_getElem? h3)) (hww _ (List.mem_of_getElem? h4)) (hww _ (List.mem_of_getElem? h5)) (hww _ (List.mem_of_getElem? h6)) rfl Ar r4 FC (g := mkF m pc Ls (.ref a :: st)) rfl (by rw [hml]; exact hsz) rfl (hb hby hd) hf (W := W) (cap := cap) (by show 2 * 0 + _ ≤ _; omega) hl (by omega) hc hs
  subst e'
  exact Go.st st' (k T' _ ⟨A.1, locs, X', N, Nat.le_trans Z0 E.1, P.new E Z0 ⟨_, Ar', r1, r2, r3, Ex⟩⟩)
theorem Here.initObj (A : Here p l e R s m args below meth c Z a0 tbl own nm bc mxl rt n0 T L cells slots) {pc q index w1 w2 w3 W : Nat} {Ls : Array Slot} {st : List Value} {a : Addr} (hd : decode bc pc = .ok (.invokespecial index, 3)) (hq : pc + 3 = q) (h1 : tbl[w1]? = some (Jvm.Cond.methodLink own index Lib.objectInit)) (h2 : tbl[w2]? = some (Jvm.Cond.instanceMethod Lib.objectInit)) (h3 : tbl[w3]? = some (Jvm.Cond.code Lib.objectInit ⟨#[0xb1]⟩ 1 none)) (hsz : Ls.size = mxl) (hW : (st.map fun v => v.category).sum = W) (hf : 1 ≤ R.frames) (hl : W + 12 ≤ R.locals) (k : ∀ T', Here p l e R s m args below meth c Z a0 tbl own nm bc mxl rt n0 T' L cells slots → Go p e below F (T'.setTop (mkF m q Ls st))) : Go p e below F (T.setTop (mkF m pc Ls (.ref a :: st))) := by
  obtain ⟨⟨hx, hZ, hown, hby, hml, hww, hnm, hrt, hlk⟩, locs, X, N, Z0, P⟩ := id A
  subst hq
  obtain ⟨T', X', e', st'⟩ := initO X hx hZ hown (hww _ (List.mem_of_getElem? h1)) (hww _ (List.mem_of_getElem? h2)) (hww _ (List.mem_of_getElem? h3)) rfl (g := mkF m pc Ls (.ref a :: st)) rfl (by rw [hml]; exact hsz) rfl (hb hby hd) hf (W := W) (by show 2 * 0 + _ ≤ _; omega) hl
  exact Go.st st' (k T' ⟨A.1, locs, X', N, by rw [e']; exact Z0, by rw [e']; exact P⟩)
theorem Here.front (A : Here p l e R s m args below meth c Z a0 tbl own nm bc mxl rt n0 T L cells slots) {i : Nat} {x : Addr × Ob} {L' : Obs} (hi : L[i]? = some x) (hL' : x :: L.eraseIdx i = L') : Here p l e R s m args below meth c Z a0 tbl own nm bc mxl rt n0 T L' cells slots := by
  obtain ⟨⟨hx, hZ, hown, hby, hml, hww, hnm, hrt, hlk⟩, locs, X, N, Z0, P⟩ := id A
  subst hL'
  exact ⟨A.1, locs, X, N, Z0, P.front hi⟩
theorem Here.ne (A : Here p l e R s m args below meth c Z a0 tbl own nm bc mxl rt n0 T L cells slots) {i j : Nat} {a b : Addr} {x y : Ob} (hi : L[i]? = some (a, x)) (hj : L[j]? = some (b, y)) (hn : i ≠ j) : a ≠ b := by
  obtain ⟨⟨hx, hZ, hown, hby, hml, hww, hnm, hrt, hlk⟩, locs, X, N, Z0, P⟩ := id A
  exact P.ne hi hj hn

theorem Here.ialoadM (A : Here p l e R s m args below meth c Z a0 tbl own nm bc mxl rt n0 T L cells slots) {pc q i : Nat} {Ls : Array Slot} {st : List Value} {a : Addr} {j : Int32} {xs : List Int32} {v : Int32} (hd : decode bc pc = .ok (.iaload, 1)) (hq : pc + 1 = q) (hL : L[i]? = some (a, .inr (.int, xs.map Value.int))) (hj : ¬ j < 0) (hv : xs[j.toNatClampNeg]? = some v) (k : Go p e below F (T.setTop (mkF m q Ls (Value.int v :: st)))) : Go p e below F (T.setTop (mkF m pc Ls (.int j :: .ref a :: st))) :=
  A.iaload hd hq hL hj (by rw [List.getElem?_map, hv]; rfl) k
theorem Here.laloadM (A : Here p l e R s m args below meth c Z a0 tbl own nm bc mxl rt n0 T L cells slots) {pc q i : Nat} {Ls : Array Slot} {st : List Value} {a : Addr} {j : Int32} {xs : List Int64} {v : Int64} (hd : decode bc pc = .ok (.laload, 1)) (hq : pc + 1 = q) (hL : L[i]? = some (a, .inr (.long, xs.map Value.long))) (hj : ¬ j < 0) (hv : xs[j.toNatClampNeg]? = some v) (k : Go p e below F (T.setTop (mkF m q Ls (Value.long v :: st)))) : Go p e below F (T.setTop (mkF m pc Ls (.int j :: .ref a :: st))) :=
  A.laload hd hq hL hj (by rw [List.getElem?_map, hv]; rfl) k
theorem Here.baloadBM (A : Here p l e R s m args below meth c Z a0 tbl own nm bc mxl rt n0 T L cells slots) {pc q i : Nat} {Ls : Array Slot} {st : List Value} {a : Addr} {j : Int32} {xs : List Int32} {v : Int32} (hd : decode bc pc = .ok (.baload, 1)) (hq : pc + 1 = q) (hL : L[i]? = some (a, .inr (.byte, xs.map Value.int))) (hj : ¬ j < 0) (hv : xs[j.toNatClampNeg]? = some v) (k : Go p e below F (T.setTop (mkF m q Ls (Value.int v :: st)))) : Go p e below F (T.setTop (mkF m pc Ls (.int j :: .ref a :: st))) :=
  A.baloadB hd hq hL hj (by rw [List.getElem?_map, hv]; rfl) k
theorem Here.baloadZM (A : Here p l e R s m args below meth c Z a0 tbl own nm bc mxl rt n0 T L cells slots) {pc q i : Nat} {Ls : Array Slot} {st : List Value} {a : Addr} {j : Int32} {xs : List Int32} {v : Int32} (hd : decode bc pc = .ok (.baload, 1)) (hq : pc + 1 = q) (hL : L[i]? = some (a, .inr (.boolean, xs.map Value.int))) (hj : ¬ j < 0) (hv : xs[j.toNatClampNeg]? = some v) (k : Go p e below F (T.setTop (mkF m q Ls (Value.int v :: st)))) : Go p e below F (T.setTop (mkF m pc Ls (.int j :: .ref a :: st))) :=
  A.baloadZ hd hq hL hj (by rw [List.getElem?_map, hv]; rfl) k
theorem Here.iastoreM (A : Here p l e R s m args below meth c Z a0 tbl own nm bc mxl rt n0 T L cells slots) {pc q i : Nat} {Ls : Array Slot} {st : List Value} {a : Addr} {j : Int32} {x x' : Int32} {xs : List Int32} {L' : Obs} (hd : decode bc pc = .ok (.iastore, 1)) (hq : pc + 1 = q) (hL : L[i]? = some (a, .inr (.int, xs.map Value.int))) (hj : ¬ j < 0) (hlt : j.toNatClampNeg < xs.length) (hx' : x = x') (hL' : L.set i (a, .inr (.int, (xs.set j.toNatClampNeg x').map Value.int)) = L') (k : ∀ T', Here p l e R s m args below meth c Z a0 tbl own nm bc mxl rt n0 T' L' cells slots → Go p e below F (T'.setTop (mkF m q Ls st))) : Go p e below F (T.setTop (mkF m pc Ls (Value.int x :: .int j :: .ref a :: st))) :=
  A.iastore hd hq hL hj (by rw [List.length_map]; exact hlt) hx' (by rw [← hL', List.map_set]) k
theorem Here.lastoreM (A : Here p l e R s m args below meth c Z a0 tbl own nm bc mxl rt n0 T L cells slots) {pc q i : Nat} {Ls : Array Slot} {st : List Value} {a : Addr} {j : Int32} {x x' : Int64} {xs : List Int64} {L' : Obs} (hd : decode bc pc = .ok (.lastore, 1)) (hq : pc + 1 = q) (hL : L[i]? = some (a, .inr (.long, xs.map Value.long))) (hj : ¬ j < 0) (hlt : j.toNatClampNeg < xs.length) (hx' : x = x') (hL' : L.set i (a, .inr (.long, (xs.set j.toNatClampNeg x').map Value.long)) = L') (k : ∀ T', Here p l e R s m args below meth c Z a0 tbl own nm bc mxl rt n0 T' L' cells slots → Go p e below F (T'.setTop (mkF m q Ls st))) : Go p e below F (T.setTop (mkF m pc Ls (Value.long x :: .int j :: .ref a :: st))) :=
  A.lastore hd hq hL hj (by rw [List.length_map]; exact hlt) hx' (by rw [← hL', List.map_set]) k
theorem Here.bastoreBM (A : Here p l e R s m args below meth c Z a0 tbl own nm bc mxl rt n0 T L cells slots) {pc q i : Nat} {Ls : Array Slot} {st : List Value} {a : Addr} {j : Int32} {x x' : Int32} {xs : List Int32} {L' : Obs} (hd : decode bc pc = .ok (.bastore, 1)) (hq : pc + 1 = q) (hL : L[i]? = some (a, .inr (.byte, xs.map Value.int))) (hj : ¬ j < 0) (hlt : j.toNatClampNeg < xs.length) (hx' : (nar .byte x) = x') (hL' : L.set i (a, .inr (.byte, (xs.set j.toNatClampNeg x').map Value.int)) = L') (k : ∀ T', Here p l e R s m args below meth c Z a0 tbl own nm bc mxl rt n0 T' L' cells slots → Go p e below F (T'.setTop (mkF m q Ls st))) : Go p e below F (T.setTop (mkF m pc Ls (Value.int x :: .int j :: .ref a :: st))) :=
  A.bastoreB hd hq hL hj (by rw [List.length_map]; exact hlt) hx' (by rw [← hL', List.map_set]) k
theorem Here.bastoreZM (A : Here p l e R s m args below meth c Z a0 tbl own nm bc mxl rt n0 T L cells slots) {pc q i : Nat} {Ls : Array Slot} {st : List Value} {a : Addr} {j : Int32} {x x' : Int32} {xs : List Int32} {L' : Obs} (hd : decode bc pc = .ok (.bastore, 1)) (hq : pc + 1 = q) (hL : L[i]? = some (a, .inr (.boolean, xs.map Value.int))) (hj : ¬ j < 0) (hlt : j.toNatClampNeg < xs.length) (hx' : (nar .boolean x) = x') (hL' : L.set i (a, .inr (.boolean, (xs.set j.toNatClampNeg x').map Value.int)) = L') (k : ∀ T', Here p l e R s m args below meth c Z a0 tbl own nm bc mxl rt n0 T' L' cells slots → Go p e below F (T'.setTop (mkF m q Ls st))) : Go p e below F (T.setTop (mkF m pc Ls (Value.int x :: .int j :: .ref a :: st))) :=
  A.bastoreZ hd hq hL hj (by rw [List.length_map]; exact hlt) hx' (by rw [← hL', List.map_set]) k
theorem Here.arraylengthM (A : Here p l e R s m args below meth c Z a0 tbl own nm bc mxl rt n0 T L cells slots) {pc q i : Nat} {Ls : Array Slot} {st : List Value} {a : Addr} {ty : FieldType} {α : Type} {f : α → Value} {xs : List α} {v : Int32} (hd : decode bc pc = .ok (.arraylength, 1)) (hq : pc + 1 = q) (hL : L[i]? = some (a, .inr (ty, xs.map f))) (hv : xs.length.toInt32 = v) (k : Go p e below F (T.setTop (mkF m q Ls (.int v :: st)))) : Go p e below F (T.setTop (mkF m pc Ls (.ref a :: st))) :=
  A.arraylength hd hq hL (by rw [List.length_map]; exact hv) k
theorem own_gd {α : Type} {xs : List α} {n : Nat} {d : α} (h : n < xs.length) : xs[n]? = some (xs.getD n d) := by simp [List.getD, h]
theorem Here.callS (A : Here p l e R s m args below meth c Z a0 tbl own nm bc mxl rt n0 T L cells slots) {pc q index W w1 w2 w3 w4 : Nat} {Ls : Array Slot} {st stk : List Value} {y : MethodName} {bytes : ByteArray} {ml : Nat} {rt' : Option FieldType} {rm : Room} {as : List Value} {Q : Option Value → Obs → Prop} (hd : decode bc pc = .ok (.invokestatic index, 3)) (hq : pc + 3 = q) (h1 : tbl[w1]? = some (Jvm.Cond.methodLink own index y)) (h2 : tbl[w2]? = some (Jvm.Cond.static y)) (h3 : tbl[w3]? = some (Jvm.Cond.initialized y.cls)) (h4 : tbl[w4]? = some (Jvm.Cond.code y bytes ml rt')) (hT : Triple l Z n0 y bytes ml rt' rm rm.cells rm.slots as L Q) (hy : y.cls ≠ "java/lang/invoke/MethodHandle" ∧ y.cls ≠ "java/lang/invoke/VarHandle") (hlen : ∃ ps r, parseMethodDescriptor y.desc = some ⟨ps, r⟩ ∧ as.length = ps.length) (hst : stk = as.reverse ++ st) (hsz : Ls.size = mxl) (hW : (st.map fun v => v.category).sum = W) (hf : rm.frames + 1 ≤ R.frames) (hl : W + (ml + 11) + rm.locals ≤ R.locals) (hc : cells + rm.cells ≤ R.cells) (hs : slots + rm.slots ≤ R.slots)
    (k : ∀ v T' L', Q v L' → Here p l e R s m args below meth c Z a0 tbl own nm bc mxl rt n0 T' L' (cells + rm.cells) (slots + rm.slots) → Go p e below F (T'.setTop (mkF m q Ls (v.toList ++ st)))) : Go p e below F (T.setTop (mkF m pc Ls stk)) := by
  obtain ⟨⟨hx, hZ, hown, hby, hml, hww, hnm, hrt, hlk⟩, locs, X, N, Z0, P⟩ := id A
  obtain ⟨ps, r, hps, hle⟩ := hlen
  subst hst hq
  obtain ⟨v, _, ⟨T1, L1, k1, n1⟩, -, X1, ⟨Lc, hQ, l1, y1, z1⟩, st1⟩ := Jvm.LawKit.callS X hx (y := y) hown (mvT hZ (hww _ (List.mem_of_getElem? h1))) (mvT hZ (hww _ (List.mem_of_getElem? h2))) (mvT hZ (hww _ (List.mem_of_getElem? h3))) (mvT hZ (hww _ (List.mem_of_getElem? h4))) hy (backOf (W := W) (Q := fun v h Lc => Fr n0 Lc ∧ n0 ≤ h.size ∧ ∃ L', Q v L' ∧ Pic Z n0 h L') (hT T.heap [] Z0 P) hZ (hww _ (List.mem_of_getElem? h4)) (hww _ (List.mem_of_getElem? h3)) hf hl) (g := mkF m pc Ls (as.reverse ++ st)) rfl (by rw [hml]; exact hsz) (argsL := as) (rest := st) (lenOf hps hle) rfl (by show 2 * 0 + _ ≤ _; omega) (hb hby hd) (fun _ _ => ⟨rfl, rfl, hc, hs⟩)
  dsimp only [Pt.U, Pt.locs, Pt.cells, Pt.slots] at X1 l1 y1 z1 st1 hQ
  subst l1 y1 z1
  obtain ⟨Nq, Zq, L', q, Pq⟩ := hQ
  exact Go.st st1 (k v T1 L' q ⟨A.1, _, X1, N.app Nq, Zq, Pq⟩)
theorem Here.callI (A : Here p l e R s m args below meth c Z a0 tbl own nm bc mxl rt n0 T L cells slots) {pc q index W w1 w2 w3 w4 : Nat} {Ls : Array Slot} {st stk : List Value} {a : Addr} {y : MethodName} {bytes : ByteArray} {ml : Nat} {rm : Room} {as : List Value} {Q : Option Value → Obs → Prop} (hd : decode bc pc = .ok (.invokespecial index, 3)) (hq : pc + 3 = q) (hy1 : y.name = "<init>") (h1 : tbl[w1]? = some (Jvm.Cond.methodLink own index y)) (h2 : tbl[w2]? = some (Jvm.Cond.instanceMethod y)) (h3 : tbl[w3]? = some (Jvm.Cond.initialized y.cls)) (h4 : tbl[w4]? = some (Jvm.Cond.code y bytes ml none)) (hT : Triple l Z n0 y bytes ml none rm rm.cells rm.slots (.ref a :: as) L Q) (hy : y.cls ≠ "java/lang/invoke/MethodHandle" ∧ y.cls ≠ "java/lang/invoke/VarHandle") (hlen : ∃ ps r, parseMethodDescriptor y.desc = some ⟨ps, r⟩ ∧ as.length = ps.length) (hst : stk = as.reverse ++ .ref a :: st) (hsz : Ls.size = mxl) (hW : (st.map fun v => v.category).sum = W) (hf : rm.frames + 1 ≤ R.frames) (hl : W + (ml + 11) + rm.locals ≤ R.locals) (hc : cells + rm.cells ≤ R.cells) (hs : slots + rm.slots ≤ R.slots)
    (k : ∀ v T' L', Q v L' → Here p l e R s m args below meth c Z a0 tbl own nm bc mxl rt n0 T' L' (cells + rm.cells) (slots + rm.slots) → Go p e below F (T'.setTop (mkF m q Ls (v.toList ++ st)))) : Go p e below F (T.setTop (mkF m pc Ls stk)) := by
  obtain ⟨⟨hx, hZ, hown, hby, hml, hww, hnm, hrt, hlk⟩, locs, X, N, Z0, P⟩ := id A
  obtain ⟨ps, r, hps, hle⟩ := hlen
  subst hst hq
  obtain ⟨v, _, ⟨T1, L1, k1, n1⟩, -, X1, ⟨Lc, hQ, l1, y1, z1⟩, st1⟩ := X.specialBack hx (y := y) hy1 hown (mvT hZ (hww _ (List.mem_of_getElem? h1))) (mvT hZ (hww _ (List.mem_of_getElem? h2))) (mvT hZ (hww _ (List.mem_of_getElem? h4))) hy (backOf (W := W) (Q := fun v h Lc => Fr n0 Lc ∧ n0 ≤ h.size ∧ ∃ L', Q v L' ∧ Pic Z n0 h L') (hT T.heap [] Z0 P) hZ (hww _ (List.mem_of_getElem? h4)) (hww _ (List.mem_of_getElem? h3)) hf hl) (g := mkF m pc Ls (as.reverse ++ .ref a :: st)) rfl (by rw [hml]; exact hsz) (Steps.refl _) (a := a) (argsL := as) (rest := st) (lenOf hps hle) rfl (by show 2 * 0 + _ ≤ _; omega) (hb hby hd) (fun _ _ => ⟨rfl, rfl, hc, hs⟩)
  dsimp only [Pt.U, Pt.locs, Pt.cells, Pt.slots] at X1 l1 y1 z1 st1 hQ
  subst l1 y1 z1
  obtain ⟨Nq, Zq, L', q, Pq⟩ := hQ
  exact Go.st (fun t h => st1.trans h) (k v T1 L' q ⟨A.1, _, X1, N.app Nq, Zq, Pq⟩)
theorem Here.callV (A : Here p l e R s m args below meth c Z a0 tbl own nm bc mxl rt n0 T L cells slots) {pc q index W i w1 w2 w3 w4 w5 w6 : Nat} {Ls : Array Slot} {st stk : List Value} {a : Addr} {C : String} {fs : List ((String × String × String) × Value)} {y : MethodName} {bytes : ByteArray} {ml : Nat} {rt' : Option FieldType} {rm : Room} {as : List Value} {Q : Option Value → Obs → Prop} (hd : decode bc pc = .ok (.invokevirtual index, 3)) (hq : pc + 3 = q) (hL : L[i]? = some (a, .inl (C, fs))) (h1 : tbl[w1]? = some (Jvm.Cond.methodLink own index y)) (h2 : tbl[w2]? = some (Jvm.Cond.declares y)) (h5 : tbl[w5]? = some (Jvm.Cond.selects C y y)) (h6 : tbl[w6]? = some (Jvm.Cond.instanceMethod y)) (h3 : tbl[w3]? = some (Jvm.Cond.initialized y.cls)) (h4 : tbl[w4]? = some (Jvm.Cond.code y bytes ml rt')) (hT : Triple l Z n0 y bytes ml rt' rm rm.cells rm.slots (.ref a :: as) L Q) (hy : y.cls ≠ "java/lang/invoke/MethodHandle" ∧ y.cls ≠ "java/lang/invoke/VarHandle") (hlen : ∃ ps r, parseMethodDescriptor y.desc = some ⟨ps, r⟩ ∧ as.length = ps.length) (hst : stk = as.reverse ++ .ref a :: st) (hsz : Ls.size = mxl) (hW : (st.map fun v => v.category).sum = W) (hf : rm.frames + 1 ≤ R.frames) (hl : W + (ml + 11) + rm.locals ≤ R.locals) (hc : cells + rm.cells ≤ R.cells) (hs : slots + rm.slots ≤ R.slots)
    (k : ∀ v T' L', Q v L' → Here p l e R s m args below meth c Z a0 tbl own nm bc mxl rt n0 T' L' (cells + rm.cells) (slots + rm.slots) → Go p e below F (T'.setTop (mkF m q Ls (v.toList ++ st)))) : Go p e below F (T.setTop (mkF m pc Ls stk)) := by
  obtain ⟨⟨hx, hZ, hown, hby, hml, hww, hnm, hrt, hlk⟩, locs, X, N, Z0, P⟩ := id A
  obtain ⟨ps, r, hps, hle⟩ := hlen
  subst hst hq
  obtain ⟨cq, kq, qa, qb, qc⟩ := isOf (T := T) hZ rfl (P.1 _ (List.mem_of_getElem? hL)).2.1
  obtain ⟨v, _, ⟨T1, L1, k1, n1⟩, -, X1, ⟨Lc, hQ, l1, y1, z1⟩, st1⟩ := X.virtualBack hx (y := y) (z := y) hown (mvT hZ (hww _ (List.mem_of_getElem? h1))) (mvT hZ (hww _ (List.mem_of_getElem? h2))) (notFace_of_selects (args := #[]) (mvT hZ (hww _ (List.mem_of_getElem? h5)))) (mvT hZ (hww _ (List.mem_of_getElem? h5))) (mvT hZ (hww _ (List.mem_of_getElem? h6))) hy (backOf (W := W) (Q := fun v h Lc => Fr n0 Lc ∧ n0 ≤ h.size ∧ ∃ L', Q v L' ∧ Pic Z n0 h L') (hT T.heap [] Z0 P) hZ (hww _ (List.mem_of_getElem? h4)) (hww _ (List.mem_of_getElem? h3)) hf hl) qa qc (g := mkF m pc Ls (as.reverse ++ .ref a :: st)) rfl (by rw [hml]; exact hsz) (Steps.refl _) (argsL := as) (rest := st) (lenOf hps hle) rfl (by show 2 * 0 + _ ≤ _; omega) (hb hby hd) (fun _ _ => ⟨rfl, rfl, hc, hs⟩)
  dsimp only [Pt.U, Pt.locs, Pt.cells, Pt.slots] at X1 l1 y1 z1 st1 hQ
  subst l1 y1 z1
  obtain ⟨Nq, Zq, L', q, Pq⟩ := hQ
  exact Go.st (fun t h => st1.trans h) (k v T1 L' q ⟨A.1, _, X1, N.app Nq, Zq, Pq⟩)

theorem Here.callP (A : Here p l e R s m args below meth c Z a0 tbl own nm bc mxl rt n0 T L cells slots) {pc q index W i w1 w2 w3 w4 w5 w6 kk : Nat} {Ls : Array Slot} {st stk : List Value} {a : Addr} {C : String} {fs : List ((String × String × String) × Value)} {y : MethodName} {bytes : ByteArray} {ml : Nat} {rt' : Option FieldType} {rm : Room} {as : List Value} {Q : Option Value → Obs → Prop} (hd : decode bc pc = .ok (.invokevirtual index, 3)) (hq : pc + 3 = q) (hL : L[i]? = some (a, .inl (C, fs))) (h1 : tbl[w1]? = some (Jvm.Cond.methodLink own index y)) (h2 : tbl[w2]? = some (Jvm.Cond.privateMethod y)) (h5 : tbl[w5]? = some (Jvm.Cond.instantiable y.cls kk)) (h6 : tbl[w6]? = some (Jvm.Cond.instanceMethod y)) (h3 : tbl[w3]? = some (Jvm.Cond.initialized y.cls)) (h4 : tbl[w4]? = some (Jvm.Cond.code y bytes ml rt')) (hT : Triple l Z n0 y bytes ml rt' rm rm.cells rm.slots (.ref a :: as) L Q) (hy : y.cls ≠ "java/lang/invoke/MethodHandle" ∧ y.cls ≠ "java/lang/invoke/VarHandle") (hlen : ∃ ps r, parseMethodDescriptor y.desc = some ⟨ps, r⟩ ∧ as.length = ps.length) (hst : stk = as.reverse ++ .ref a :: st) (hsz : Ls.size = mxl) (hW : (st.map fun v => v.category).sum = W) (hf : rm.frames + 1 ≤ R.frames) (hl : W + (ml + 11) + rm.locals ≤ R.locals) (hc : cells + rm.cells ≤ R.cells) (hs : slots + rm.slots ≤ R.slots)
    (k : ∀ v T' L', Q v L' → Here p l e R s m args below meth c Z a0 tbl own nm bc mxl rt n0 T' L' (cells + rm.cells) (slots + rm.slots) → Go p e below F (T'.setTop (mkF m q Ls (v.toList ++ st)))) : Go p e below F (T.setTop (mkF m pc Ls stk)) := by
  obtain ⟨⟨hx, hZ, hown, hby, hml, hww, hnm, hrt, hlk⟩, locs, X, N, Z0, P⟩ := id A
  obtain ⟨ps, r, hps, hle⟩ := hlen
  subst hst hq
  have hp : s.PrivateAt y := Cond.privateMethod_at (mvP hZ (hww _ (List.mem_of_getElem? h2)) (args := #[]))
  have hin : (Jvm.Cond.instanceMethod y).before args s = true := mvT hZ (hww _ (List.mem_of_getElem? h6))
  have hit : (Jvm.Cond.instantiable y.cls kk).before args s = true := mvT hZ (hww _ (List.mem_of_getElem? h5))
  obtain ⟨cI, kI, i1, i2, -, i4, -⟩ := Cond.instantiable_spec hit
  have hni : kI.isInterface = false := by simp only [Bool.or_eq_false_iff] at i4; exact i4.1
  have hsel := selects_self_of_private (args := args) i1 i2 hni hp hin hy
  obtain ⟨cq, q1, q2⟩ := (P.1 _ (List.mem_of_getElem? hL)).2.1.cell
  obtain ⟨v, _, ⟨T1, L1, k1, n1⟩, -, X1, ⟨Lc, hQ, l1, y1, z1⟩, st1⟩ := X.privateBack hx (y := y) hown (mvT hZ (hww _ (List.mem_of_getElem? h1))) hin hsel hp (mvT hZ (hww _ (List.mem_of_getElem? h4))) hy (backOf (W := W) (Q := fun v h Lc => Fr n0 Lc ∧ n0 ≤ h.size ∧ ∃ L', Q v L' ∧ Pic Z n0 h L') (hT T.heap [] Z0 P) hZ (hww _ (List.mem_of_getElem? h4)) (hww _ (List.mem_of_getElem? h3)) hf hl) (g := mkF m pc Ls (as.reverse ++ .ref a :: st)) rfl (by rw [hml]; exact hsz) (Steps.refl _) (a := a) q1 q2 (argsL := as) (rest := st) (lenOf hps hle) rfl (by show 2 * 0 + _ ≤ _; omega) (hb hby hd) (fun _ _ => ⟨rfl, rfl, hc, hs⟩)
  dsimp only [Pt.U, Pt.locs, Pt.cells, Pt.slots] at X1 l1 y1 z1 st1 hQ
  subst l1 y1 z1
  obtain ⟨Nq, Zq, L', q, Pq⟩ := hQ
  exact Go.st (fun t h => st1.trans h) (k v T1 L' q ⟨A.1, _, X1, N.app Nq, Zq, Pq⟩)
theorem Here.pop2L (A : Here p l e R s m args below meth c Z a0 tbl own nm bc mxl rt n0 T L cells slots) {pc q : Nat} {Ls : Array Slot} {st : List Value} {x : Int64} (hd : decode bc pc = .ok (.pop2, 1)) (hq : pc + 1 = q) (k : Go p e below F (T.setTop (mkF m q Ls st))) : Go p e below F (T.setTop (mkF m pc Ls (.long x :: st))) := by
  obtain ⟨⟨hx, hZ, hown, hby, hml, hww, hnm, hrt, hlk⟩, locs, X, N, Z0, P⟩ := id A
  subst hq
  have hd' := hb hby hd
  refine Go.st (fun t h => ?_) k
  show Steps p.tables e below (T.setTop { method := m, pc := pc, locals := Ls, stack := _ :: st, locked := none }) _
  jvm_step X.here [X.here.top, hx, hd', Value.category]
  exact h

theorem Here.copyAll (A : Here p l e R s m args below meth c Z a0 tbl own nm bc mxl rt n0 T L cells slots) {pc q index W w1 w2 w3 w4 i j : Nat} {Ls : Array Slot} {st : List Value} {a b : Addr} {ty : FieldType} {vs vd : List Value} {nn : Int32} {L' : Obs} (hd : decode bc pc = .ok (.invokestatic index, 3)) (hq : pc + 3 = q) (h1 : tbl[w1]? = some (Jvm.Cond.methodLink own index Jvm.Stand.acN)) (h2 : tbl[w2]? = some (Jvm.Cond.native Jvm.Stand.acN)) (h3 : tbl[w3]? = some (Jvm.Cond.static Jvm.Stand.acN)) (h4 : tbl[w4]? = some (Jvm.Cond.initialized "java/lang/System")) (hi : L[i]? = some (a, .inr (ty, vs))) (hj : L[j]? = some (b, .inr (ty, vd))) (hr : refKind ty = false) (hn : vd.length = vs.length) (hnn : vs.length.toInt32 = nn)
    (hsz : Ls.size = mxl) (hW : (st.map fun v => v.category).sum = W) (hf : 1 ≤ R.frames) (hlo : W + (nativeFrameWords "java/lang/System" "arraycopy" 5 + 11) ≤ R.locals) (hL' : L.set j (b, .inr (ty, vs)) = L') (k : ∀ T', Here p l e R s m args below meth c Z a0 tbl own nm bc mxl rt n0 T' L' cells slots → Go p e below F (T'.setTop (mkF m q Ls st))) : Go p e below F (T.setTop (mkF m pc Ls (.int nn :: .int 0 :: .ref b :: .int 0 :: .ref a :: st))) := by
  obtain ⟨⟨hx, hZ, hown, hby, hml, hww, hnm, hrt, hlk⟩, locs, X, N, Z0, P⟩ := id A
  have Ia := P.1 _ (List.mem_of_getElem? hi)
  have Ib := P.1 _ (List.mem_of_getElem? hj)
  have Ib2 : Ara Z T.heap b ty vd := Ib.2
  have Ia2 : Ara Z T.heap a ty vs := Ia.2
  obtain ⟨ka, VA, la, na⟩ := Ia2.toArv (defaultValue ty)
  obtain ⟨kb, VB, lb, nb⟩ := Ib2.toArv (defaultValue ty)
  rw [hn] at VB lb
  subst hq hnn hL'
  have z0 : (0 : Int32).toNatClampNeg = 0 := by decide
  obtain ⟨T', h', L1, X', e', N', K, V', st'⟩ := cpA X hx hZ hown (hww _ (List.mem_of_getElem? h1)) (hww _ (List.mem_of_getElem? h2)) (hww _ (List.mem_of_getElem? h3)) (hww _ (List.mem_of_getElem? h4)) rfl VA VB (Or.inl ⟨rfl, hr⟩) (sp := 0) (dp := 0) (by decide) (by decide) na (by rw [z0]; omega) (by rw [z0]; omega) rfl (by rw [z0]; omega) N Ib.1 (g := mkF m pc Ls (.int vs.length.toInt32 :: .int 0 :: .ref b :: .int 0 :: .ref a :: st)) rfl (by rw [hml]; exact hsz) rfl (hb hby hd) hf (W := W) (by show 2 * 0 + _ ≤ _; omega) hlo
  subst e'
  have ev : vd.take (0 : Int32).toNatClampNeg ++ (List.range vs.length.toInt32.toNatClampNeg).map (fun i => vs.getD ((0 : Int32).toNatClampNeg + i) (defaultValue ty)) ++ vd.drop ((0 : Int32).toNatClampNeg + vs.length.toInt32.toNatClampNeg) = vs := by
    rw [z0, la, List.take_zero, List.nil_append, List.drop_eq_nil_of_le (by omega), List.append_nil]
    refine List.ext_getElem? fun i => ?_
    by_cases hi' : i < vs.length
    · rw [List.getElem?_map, List.getElem?_range hi']; simp [List.getD_eq_getElem?_getD, hi']
    · rw [List.getElem?_eq_none (by simp; omega), List.getElem?_eq_none (by omega)]
  rw [ev] at V'
  obtain ⟨_, _, _, l31, _, Eb⟩ := Ib2
  exact Go.st st' (k T' ⟨A.1, L1, X', N', Nat.le_trans Z0 K.1, P.setK K hj (Arv.toAra V' la (by rw [hn] at l31; exact l31) (Eb.keep K))⟩)

theorem Here.retV  (A : Here p l e R s m args below meth c Z a0 tbl own nm bc mxl none n0 T L cells slots) {pc kc ks : Nat} {Ls : Array Slot} {Q : Option Value → Obs → Prop} (hd : decode bc pc = .ok (.return_, 1)) (hc : cells ≤ kc) (hs : slots ≤ ks) (hQ : Q none L) : Go p e below (EndS below s n0 Z kc ks Q) (T.setTop (mkF m pc Ls [])) := by
  obtain ⟨⟨hx, hZ, hown, hby, hml, hww, hnm, hrt, hlk⟩, locs, X, N, Z0, P⟩ := id A
  obtain ⟨fs, hr, hrun, hended, hW, hsame⟩ := X.leave (v := none) (fun _ => rfl)
  refine ⟨T.setFrames fs, ?_, _, hrun, hended, _, locs, rfl, ⟨N, Z0, L, hQ, P⟩, ⟨_, rfl⟩, hW, hsame.mono hc hs⟩
  exact X.returnOut hx hrt (hb hby hd) hr
theorem Here.retZ {x v : Int32} (A : Here p l e R s m args below meth c Z a0 tbl own nm bc mxl (some .boolean) n0 T L cells slots) {pc kc ks : Nat} {Ls : Array Slot} {st : List Value} {Q : Option Value → Obs → Prop} (hd : decode bc pc = .ok (.ireturn, 1)) (hv : nar .boolean x = v) (hc : cells ≤ kc) (hs : slots ≤ ks) (hQ : Q (some (.int v)) L) : Go p e below (EndS below s n0 Z kc ks Q) (T.setTop (mkF m pc Ls (.int x :: st))) := by
  obtain ⟨⟨hx, hZ, hown, hby, hml, hww, hnm, hrt, hlk⟩, locs, X, N, Z0, P⟩ := id A
  obtain ⟨fs, hr, hrun, hended, hW, hsame⟩ := X.leave (v := (some (.int v))) (fun h => by rw [hrt] at h; cases h)
  refine ⟨T.setFrames fs, ?_, _, hrun, hended, _, locs, rfl, ⟨N, Z0, L, hQ, P⟩, ⟨_, rfl⟩, hW, hsame.mono hc hs⟩
  subst hv; exact retN X hx (t := .boolean) hrt (by simp) (hb hby hd) hr
theorem Here.retB {x v : Int32} (A : Here p l e R s m args below meth c Z a0 tbl own nm bc mxl (some .byte) n0 T L cells slots) {pc kc ks : Nat} {Ls : Array Slot} {st : List Value} {Q : Option Value → Obs → Prop} (hd : decode bc pc = .ok (.ireturn, 1)) (hv : nar .byte x = v) (hc : cells ≤ kc) (hs : slots ≤ ks) (hQ : Q (some (.int v)) L) : Go p e below (EndS below s n0 Z kc ks Q) (T.setTop (mkF m pc Ls (.int x :: st))) := by
  obtain ⟨⟨hx, hZ, hown, hby, hml, hww, hnm, hrt, hlk⟩, locs, X, N, Z0, P⟩ := id A
  obtain ⟨fs, hr, hrun, hended, hW, hsame⟩ := X.leave (v := (some (.int v))) (fun h => by rw [hrt] at h; cases h)
  refine ⟨T.setFrames fs, ?_, _, hrun, hended, _, locs, rfl, ⟨N, Z0, L, hQ, P⟩, ⟨_, rfl⟩, hW, hsame.mono hc hs⟩
  subst hv; exact retN X hx (t := .byte) hrt (by simp) (hb hby hd) hr
theorem Here.retI {x : Int32} (A : Here p l e R s m args below meth c Z a0 tbl own nm bc mxl (some .int) n0 T L cells slots) {pc kc ks : Nat} {Ls : Array Slot} {st : List Value} {Q : Option Value → Obs → Prop} (hd : decode bc pc = .ok (.ireturn, 1)) (hc : cells ≤ kc) (hs : slots ≤ ks) (hQ : Q (some (.int x)) L) : Go p e below (EndS below s n0 Z kc ks Q) (T.setTop (mkF m pc Ls (.int x :: st))) := by
  obtain ⟨⟨hx, hZ, hown, hby, hml, hww, hnm, hrt, hlk⟩, locs, X, N, Z0, P⟩ := id A
  obtain ⟨fs, hr, hrun, hended, hW, hsame⟩ := X.leave (v := (some (.int x))) (fun h => by rw [hrt] at h; cases h)
  refine ⟨T.setFrames fs, ?_, _, hrun, hended, _, locs, rfl, ⟨N, Z0, L, hQ, P⟩, ⟨_, rfl⟩, hW, hsame.mono hc hs⟩
  exact retOut X hx (t := .int) hrt rfl (Or.inl ⟨rfl, Or.inl rfl, _, rfl⟩) (hb hby hd) hr
theorem Here.retJ {x : Int64} (A : Here p l e R s m args below meth c Z a0 tbl own nm bc mxl (some .long) n0 T L cells slots) {pc kc ks : Nat} {Ls : Array Slot} {st : List Value} {Q : Option Value → Obs → Prop} (hd : decode bc pc = .ok (.lreturn, 1)) (hc : cells ≤ kc) (hs : slots ≤ ks) (hQ : Q (some (.long x)) L) : Go p e below (EndS below s n0 Z kc ks Q) (T.setTop (mkF m pc Ls (.long x :: st))) := by
  obtain ⟨⟨hx, hZ, hown, hby, hml, hww, hnm, hrt, hlk⟩, locs, X, N, Z0, P⟩ := id A
  obtain ⟨fs, hr, hrun, hended, hW, hsame⟩ := X.leave (v := (some (.long x))) (fun h => by rw [hrt] at h; cases h)
  refine ⟨T.setFrames fs, ?_, _, hrun, hended, _, locs, rfl, ⟨N, Z0, L, hQ, P⟩, ⟨_, rfl⟩, hW, hsame.mono hc hs⟩
  exact retOut X hx (t := .long) hrt rfl (Or.inr (Or.inl ⟨rfl, rfl, _, rfl⟩)) (hb hby hd) hr
theorem Here.retA {x : Value} {t : FieldType} (A : Here p l e R s m args below meth c Z a0 tbl own nm bc mxl (some t) n0 T L cells slots) {pc kc ks : Nat} {Ls : Array Slot} {st : List Value} {Q : Option Value → Obs → Prop} (hd : decode bc pc = .ok (.areturn, 1)) (hrf : x.isRef = true) (htr : t.isReference = true) (hnn : narrow t x = x) (hc : cells ≤ kc) (hs : slots ≤ ks) (hQ : Q (some x) L) : Go p e below (EndS below s n0 Z kc ks Q) (T.setTop (mkF m pc Ls (x :: st))) := by
  obtain ⟨⟨hx, hZ, hown, hby, hml, hww, hnm, hrt, hlk⟩, locs, X, N, Z0, P⟩ := id A
  obtain ⟨fs, hr, hrun, hended, hW, hsame⟩ := X.leave (v := (some x)) (fun h => by rw [hrt] at h; cases h)
  refine ⟨T.setFrames fs, ?_, _, hrun, hended, _, locs, rfl, ⟨N, Z0, L, hQ, P⟩, ⟨_, rfl⟩, hW, hsame.mono hc hs⟩
  exact retOut X hx (t := t) hrt hnn (Or.inr (Or.inr (Or.inr (Or.inr ⟨rfl, htr, hrf⟩)))) (hb hby hd) hr
end Walk
abbrev ob0 (v0 v1 v2 : Value) : Ob := .inl ("com/example/capabind/capabind/registry/Verdicts", [(("com/example/capabind/capabind/registry/Verdicts", "version", "J"), v0), (("com/example/capabind/capabind/registry/Verdicts", "decided", "[J"), v1), (("com/example/capabind/capabind/registry/Verdicts", "meets", "[J"), v2)])
def ixI (x : Int32) : Int32 := (x.toUInt32 >>> ((6 : Int32) &&& 31).toUInt32).toInt32
theorem d2_0 : decode prog_140_method_3_code 0 = .ok (.iload_n 0, 1) := by decide +kernel
theorem d2_1 : decode prog_140_method_3_code 1 = .ok (.bipush 63, 2) := by decide +kernel
theorem d2_3 : decode prog_140_method_3_code 3 = .ok (.iadd, 1) := by decide +kernel
theorem d2_4 : decode prog_140_method_3_code 4 = .ok (.bipush 64, 2) := by decide +kernel
theorem d2_6 : decode prog_140_method_3_code 6 = .ok (.idiv, 1) := by decide +kernel
theorem d2_7 : decode prog_140_method_3_code 7 = .ok (.ireturn, 1) := by decide +kernel
theorem pn_2 : plainFor (⟨"com/example/capabind/capabind/registry/Verdicts", "words", "(I)I"⟩ : MethodName) = true := plainFor_of_name (by first | (simp [plainName, overriddenIn]; done) | decide +kernel)
set_option maxRecDepth 65536 in
set_option maxHeartbeats 8000000 in
theorem rm2 (l : Launch) (Z : State) (a0 : Array Value) (hw : ∀ d ∈ tables_1, d.before a0 Z = true) (n0 : Nat) (p0 : Int32) (RR : Obs) :
    Triple l Z n0 (⟨"com/example/capabind/capabind/registry/Verdicts", "words", "(I)I"⟩ : MethodName) prog_140_method_3_code 1 (some .int) ({ frames := 0, cells := 0, slots := 0, locals := 0 } : Room) 0 0 [(.int p0)] (RR) (fun v L' => v = some (.int ((p0 + (63 : Int32)) / (64 : Int32))) ∧ L' = (RR)) := by
  refine Triple.of_body (tbl := tables_1) (a0 := a0) (Ls := #[.val (.int p0)]) pn_2 hw rfl ?_
  intro p e s m below meth c T A
  refine A.iloadN (q := 1) d2_0 rfl rfl ?_
  refine A.bipush (q := 3) (v := (63 : Int32)) d2_1 rfl (by decide) ?_
  obtain ⟨v1, e1⟩ : ∃ v : Int32, p0 + (63 : Int32) = v := ⟨_, rfl⟩
  refine A.iadd (q := 4) d2_3 rfl e1 ?_
  refine A.bipush (q := 6) (v := (64 : Int32)) d2_4 rfl (by decide) ?_
  obtain ⟨v2, e2⟩ : ∃ v : Int32, v1 / (64 : Int32) = v := ⟨_, rfl⟩
  refine A.idiv (q := 7) d2_6 rfl (by decide) e2 ?_
  subst e1 e2
  exact A.retI d2_7 (by decide) (by decide) ⟨rfl, rfl⟩
theorem lay_0 (Z : State) (a0 : Array Value) (hw : ∀ d ∈ tables_1, d.before a0 Z = true) : Lays Z a0 "com/example/capabind/capabind/registry/Verdicts" [("com/example/capabind/capabind/registry/Verdicts", "version", "J"), ("com/example/capabind/capabind/registry/Verdicts", "decided", "[J"), ("com/example/capabind/capabind/registry/Verdicts", "meets", "[J")] := by
  refine ⟨fun q hq => ?_, by decide⟩
  simp only [List.mem_cons, List.not_mem_nil, or_false] at hq
  rcases hq with rfl | rfl | rfl
  · exact ⟨Or.inr (hw _ (List.mem_of_getElem? (i := 18) rfl)), .long, by decide⟩
  · exact ⟨Or.inr (hw _ (List.mem_of_getElem? (i := 20) rfl)), (.array .long), by decide⟩
  · exact ⟨Or.inr (hw _ (List.mem_of_getElem? (i := 22) rfl)), (.array .long), by decide⟩
theorem d3_0 : decode prog_140_method_2_code 0 = .ok (.aload_n 0, 1) := by decide +kernel
theorem d3_1 : decode prog_140_method_2_code 1 = .ok (.invokespecial 11, 3) := by decide +kernel
theorem d3_4 : decode prog_140_method_2_code 4 = .ok (.aload_n 0, 1) := by decide +kernel
theorem d3_5 : decode prog_140_method_2_code 5 = .ok (.lload_n 1, 1) := by decide +kernel
theorem d3_6 : decode prog_140_method_2_code 6 = .ok (.putfield 16, 3) := by decide +kernel
theorem d3_9 : decode prog_140_method_2_code 9 = .ok (.aload_n 0, 1) := by decide +kernel
theorem d3_10 : decode prog_140_method_2_code 10 = .ok (.aload_n 3, 1) := by decide +kernel
theorem d3_11 : decode prog_140_method_2_code 11 = .ok (.putfield 20, 3) := by decide +kernel
theorem d3_14 : decode prog_140_method_2_code 14 = .ok (.aload_n 0, 1) := by decide +kernel
theorem d3_15 : decode prog_140_method_2_code 15 = .ok (.aload 4, 2) := by decide +kernel
theorem d3_17 : decode prog_140_method_2_code 17 = .ok (.putfield 24, 3) := by decide +kernel
theorem d3_20 : decode prog_140_method_2_code 20 = .ok (.return_, 1) := by decide +kernel
theorem pn_3 : plainFor (⟨"com/example/capabind/capabind/registry/Verdicts", "<init>", "(J[J[J)V"⟩ : MethodName) = true := plainFor_of_name (by first | (simp [plainName, overriddenIn]; done) | decide +kernel)
set_option maxRecDepth 65536 in
set_option maxHeartbeats 8000000 in
theorem rmJ (l : Launch) (Z : State) (a0 : Array Value) (hw : ∀ d ∈ tables_1, d.before a0 Z = true) (n0 : Nat) (r0 : Addr) (q0 : Int64) (r1 : Addr) (r2 : Addr) (RR : Obs) :
    Triple l Z n0 (⟨"com/example/capabind/capabind/registry/Verdicts", "<init>", "(J[J[J)V"⟩ : MethodName) prog_140_method_2_code 5 none ({ frames := 1, cells := 0, slots := 0, locals := 12 } : Room) 0 0 [(.ref r0), (.long q0), (.ref r1), (.ref r2)] ((r0, ob0 (.long (0 : Int64)) .null .null) :: RR) (fun v L' => v = none ∧ L' = ((r0, ob0 (.long q0) (.ref r1) (.ref r2)) :: RR)) := by
  refine Triple.of_body (tbl := tables_1) (a0 := a0) (Ls := #[.val (.ref r0), .val (.long q0), .second, .val (.ref r1), .val (.ref r2)]) pn_3 hw rfl ?_
  intro p e s m below meth c T A
  refine A.aloadN (q := 1) d3_0 rfl rfl rfl ?_
  refine A.initObj (q := 4) (w1 := 14) (w2 := 15) (w3 := 16) (W := 0) d3_1 rfl rfl rfl rfl rfl rfl (by decide) (by decide) ?_
  intro T A
  refine A.aloadN (q := 5) d3_4 rfl rfl rfl ?_
  refine A.lloadN (q := 6) d3_5 rfl rfl ?_
  refine A.putF (q := 9) (w := 17) (w2 := 18) (w3 := 2) (i := 0) (j := 0) (ty := .long) (v' := (.long q0)) (L' := ((r0, ob0 (.long q0) .null .null) :: RR)) d3_6 rfl rfl rfl rfl (lay_0 Z a0 hw) (Or.inr ⟨rfl, rfl, rfl⟩) rfl (by decide) rfl rfl rfl ?_
  intro T A
  refine A.aloadN (q := 10) d3_9 rfl rfl rfl ?_
  refine A.aloadN (q := 11) d3_10 rfl rfl rfl ?_
  refine A.putF (q := 14) (w := 19) (w2 := 20) (w3 := 2) (i := 0) (j := 1) (ty := (.array .long)) (v' := (.ref r1)) (L' := ((r0, ob0 (.long q0) (.ref r1) .null) :: RR)) d3_11 rfl rfl rfl rfl (lay_0 Z a0 hw) (Or.inr ⟨rfl, rfl, rfl⟩) rfl (by decide) rfl rfl rfl ?_
  intro T A
  refine A.aloadN (q := 15) d3_14 rfl rfl rfl ?_
  refine A.aload (q := 17) d3_15 rfl rfl rfl ?_
  refine A.putF (q := 20) (w := 21) (w2 := 22) (w3 := 2) (i := 0) (j := 2) (ty := (.array .long)) (v' := (.ref r2)) (L' := ((r0, ob0 (.long q0) (.ref r1) (.ref r2)) :: RR)) d3_17 rfl rfl rfl rfl (lay_0 Z a0 hw) (Or.inr ⟨rfl, rfl, rfl⟩) rfl (by decide) rfl rfl rfl ?_
  intro T A
  exact A.retV d3_20 (by decide) (by decide) ⟨rfl, rfl⟩
theorem pd_0 : parseMethodDescriptor "(I)I" = some ⟨[.int], some .int⟩ := by decide +kernel
theorem pd_1 : parseMethodDescriptor "(J[J[J)V" = some ⟨[.long, (.array .long), (.array .long)], none⟩ := by decide +kernel
theorem d1_0 : decode prog_140_method_1_code 0 = .ok (.aload_n 0, 1) := by decide +kernel
theorem d1_1 : decode prog_140_method_1_code 1 = .ok (.lload_n 1, 1) := by decide +kernel
theorem d1_2 : decode prog_140_method_1_code 2 = .ok (.iload_n 3, 1) := by decide +kernel
theorem d1_3 : decode prog_140_method_1_code 3 = .ok (.invokestatic 1, 3) := by decide +kernel
theorem d1_6 : decode prog_140_method_1_code 6 = .ok (.newarray .long, 2) := by decide +kernel
theorem d1_8 : decode prog_140_method_1_code 8 = .ok (.iload_n 3, 1) := by decide +kernel
theorem d1_9 : decode prog_140_method_1_code 9 = .ok (.invokestatic 1, 3) := by decide +kernel
theorem d1_12 : decode prog_140_method_1_code 12 = .ok (.newarray .long, 2) := by decide +kernel
theorem d1_14 : decode prog_140_method_1_code 14 = .ok (.invokespecial 7, 3) := by decide +kernel
theorem d1_17 : decode prog_140_method_1_code 17 = .ok (.return_, 1) := by decide +kernel
theorem pn_1 : plainFor (⟨"com/example/capabind/capabind/registry/Verdicts", "<init>", "(JI)V"⟩ : MethodName) = true := plainFor_of_name (by first | (simp [plainName, overriddenIn]; done) | decide +kernel)
set_option maxRecDepth 65536 in
set_option maxHeartbeats 8000000 in
theorem rmN (l : Launch) (Z : State) (a0 : Array Value) (hw : ∀ d ∈ tables_1, d.before a0 Z = true) (n0 : Nat) (r0 : Addr) (q0 : Int64) (p0 : Int32) (RR : Obs) (hn0 : ¬ (p0 + (63 : Int32)) / (64 : Int32) < 0) (hn3 : ((p0 + (63 : Int32)) / (64 : Int32)).toNatClampNeg ≤ 3) :
    Triple l Z n0 (⟨"com/example/capabind/capabind/registry/Verdicts", "<init>", "(JI)V"⟩ : MethodName) prog_140_method_1_code 4 none ({ frames := 2, cells := 2, slots := 6, locals := 28 } : Room) 2 6 [(.ref r0), (.long q0), (.int p0)] ((r0, ob0 (.long (0 : Int64)) .null .null) :: RR) (fun v L' => ∃ b4 b2 : Addr, v = none ∧ L' = ((r0, ob0 (.long q0) (.ref b2) (.ref b4)) :: (b4, .inr (.long, List.map Value.long (List.replicate ((((p0 + (63 : Int32)) / (64 : Int32)))).toNatClampNeg (0 : Int64)))) :: (b2, .inr (.long, List.map Value.long (List.replicate ((((p0 + (63 : Int32)) / (64 : Int32)))).toNatClampNeg (0 : Int64)))) :: RR)) := by
  refine Triple.of_body (tbl := tables_1) (a0 := a0) (Ls := #[.val (.ref r0), .val (.long q0), .second, .val (.int p0)]) pn_1 hw rfl ?_
  intro p e s m below meth c T A
  refine A.aloadN (q := 1) d1_0 rfl rfl rfl ?_
  refine A.lloadN (q := 2) d1_1 rfl rfl ?_
  refine A.iloadN (q := 3) d1_2 rfl rfl ?_
  refine A.callS (q := 6) (w1 := 7) (w2 := 8) (w3 := 3) (w4 := 9) (as := [(.int p0)]) (st := [(.long q0), (.ref r0)]) (W := 3) d1_3 rfl rfl rfl rfl rfl (rm2 l Z a0 hw n0 p0 _) (by decide) ⟨_, _, pd_0, rfl⟩ rfl rfl rfl (by decide) (by decide) (by decide) (by decide) ?_
  rintro _ T _ ⟨rfl, rfl⟩ A
  show Go p e below _ (T.setTop (mkF m 6 #[.val (.ref r0), .val (.long q0), .second, .val (.int p0)] [(.int ((p0 + (63 : Int32)) / (64 : Int32))), (.long q0), (.ref r0)]))
  obtain ⟨v1, e1⟩ : ∃ v : Int32, ((p0 + (63 : Int32)) / (64 : Int32)) = v := ⟨_, rfl⟩
  rw [e1]
  refine A.newA (q := 8) (w := 10) (cap := 3) (ty := .long) (vs := List.map Value.long (List.replicate (v1).toNatClampNeg (0 : Int64))) d1_6 rfl rfl rfl (by subst e1; exact hn0) (by subst e1; exact hn3) (by decide) (by rw [List.map_replicate]; rfl) (by decide) (by decide) ?_
  intro T b2 A
  refine A.iloadN (q := 9) d1_8 rfl rfl ?_
  refine A.callS (q := 12) (w1 := 7) (w2 := 8) (w3 := 3) (w4 := 9) (as := [(.int p0)]) (st := [(.ref b2), (.long q0), (.ref r0)]) (W := 4) d1_9 rfl rfl rfl rfl rfl (rm2 l Z a0 hw n0 p0 _) (by decide) ⟨_, _, pd_0, rfl⟩ rfl rfl rfl (by decide) (by decide) (by decide) (by decide) ?_
  rintro _ T _ ⟨rfl, rfl⟩ A
  show Go p e below _ (T.setTop (mkF m 12 #[.val (.ref r0), .val (.long q0), .second, .val (.int p0)] [(.int ((p0 + (63 : Int32)) / (64 : Int32))), (.ref b2), (.long q0), (.ref r0)]))
  obtain ⟨v3, e3⟩ : ∃ v : Int32, ((p0 + (63 : Int32)) / (64 : Int32)) = v := ⟨_, rfl⟩
  rw [e3]
  refine A.newA (q := 14) (w := 10) (cap := 3) (ty := .long) (vs := List.map Value.long (List.replicate (v3).toNatClampNeg (0 : Int64))) d1_12 rfl rfl rfl (by subst e1 e3; exact hn0) (by subst e1 e3; exact hn3) (by decide) (by rw [List.map_replicate]; rfl) (by decide) (by decide) ?_
  intro T b4 A
  have A := A.front (i := 2) (L' := ((r0, ob0 (.long (0 : Int64)) .null .null) :: (b4, .inr (.long, List.map Value.long (List.replicate (v3).toNatClampNeg (0 : Int64)))) :: (b2, .inr (.long, List.map Value.long (List.replicate (v1).toNatClampNeg (0 : Int64)))) :: RR)) rfl rfl
  refine A.callI (q := 17) (w1 := 11) (w2 := 12) (w3 := 3) (w4 := 13) (a := r0) (as := [(.long q0), (.ref b2), (.ref b4)]) (st := []) (W := 0) d1_14 rfl rfl rfl rfl rfl rfl (rmJ l Z a0 hw n0 r0 q0 b2 b4 _) (by decide) ⟨_, _, pd_1, rfl⟩ rfl rfl rfl (by decide) (by decide) (by decide) (by decide) ?_
  rintro _ T _ ⟨rfl, rfl⟩ A
  show Go p e below _ (T.setTop (mkF m 17 #[.val (.ref r0), .val (.long q0), .second, .val (.int p0)] []))
  subst e1 e3
  exact A.retV d1_17 (by decide) (by decide) ⟨b4, b2, rfl, rfl⟩
theorem d5_0 : decode prog_140_method_8_code 0 = .ok (.aload_n 0, 1) := by decide +kernel
theorem d5_1 : decode prog_140_method_8_code 1 = .ok (.getfield 20, 3) := by decide +kernel
theorem d5_4 : decode prog_140_method_8_code 4 = .ok (.iload_n 1, 1) := by decide +kernel
theorem d5_5 : decode prog_140_method_8_code 5 = .ok (.bipush 6, 2) := by decide +kernel
theorem d5_7 : decode prog_140_method_8_code 7 = .ok (.iushr, 1) := by decide +kernel
theorem d5_8 : decode prog_140_method_8_code 8 = .ok (.dup2, 1) := by decide +kernel
theorem d5_9 : decode prog_140_method_8_code 9 = .ok (.laload, 1) := by decide +kernel
theorem d5_10 : decode prog_140_method_8_code 10 = .ok (.lconst 1, 1) := by decide +kernel
theorem d5_11 : decode prog_140_method_8_code 11 = .ok (.iload_n 1, 1) := by decide +kernel
theorem d5_12 : decode prog_140_method_8_code 12 = .ok (.lshl, 1) := by decide +kernel
theorem d5_13 : decode prog_140_method_8_code 13 = .ok (.lor, 1) := by decide +kernel
theorem d5_14 : decode prog_140_method_8_code 14 = .ok (.lastore, 1) := by decide +kernel
theorem d5_15 : decode prog_140_method_8_code 15 = .ok (.iload_n 2, 1) := by decide +kernel
theorem d5_16 : decode prog_140_method_8_code 16 = .ok (.ifCond .eq 18, 3) := by decide +kernel
theorem d5_19 : decode prog_140_method_8_code 19 = .ok (.aload_n 0, 1) := by decide +kernel
theorem d5_20 : decode prog_140_method_8_code 20 = .ok (.getfield 24, 3) := by decide +kernel
theorem d5_23 : decode prog_140_method_8_code 23 = .ok (.iload_n 1, 1) := by decide +kernel
theorem d5_24 : decode prog_140_method_8_code 24 = .ok (.bipush 6, 2) := by decide +kernel
theorem d5_26 : decode prog_140_method_8_code 26 = .ok (.iushr, 1) := by decide +kernel
theorem d5_27 : decode prog_140_method_8_code 27 = .ok (.dup2, 1) := by decide +kernel
theorem d5_28 : decode prog_140_method_8_code 28 = .ok (.laload, 1) := by decide +kernel
theorem d5_29 : decode prog_140_method_8_code 29 = .ok (.lconst 1, 1) := by decide +kernel
theorem d5_30 : decode prog_140_method_8_code 30 = .ok (.iload_n 1, 1) := by decide +kernel
theorem d5_31 : decode prog_140_method_8_code 31 = .ok (.lshl, 1) := by decide +kernel
theorem d5_32 : decode prog_140_method_8_code 32 = .ok (.lor, 1) := by decide +kernel
theorem d5_33 : decode prog_140_method_8_code 33 = .ok (.lastore, 1) := by decide +kernel
theorem d5_34 : decode prog_140_method_8_code 34 = .ok (.return_, 1) := by decide +kernel
theorem pn_5 : plainFor (⟨"com/example/capabind/capabind/registry/Verdicts", "decide", "(IZ)V"⟩ : MethodName) = true := plainFor_of_name (by first | (simp [plainName, overriddenIn]; done) | decide +kernel)
set_option maxRecDepth 65536 in
set_option maxHeartbeats 8000000 in
theorem rmD (l : Launch) (Z : State) (a0 : Array Value) (hw : ∀ d ∈ tables_1, d.before a0 Z = true) (n0 : Nat) (r0 : Addr) (p0 : Int32) (p1 : Int32) (q9 : Int64) (r1 : Addr) (r2 : Addr) (ds : List Int64) (es : List Int64) (RR : Obs) (hi0 : ¬ ixI p0 < 0) (hds : (ixI p0).toNatClampNeg < ds.length) (hes : (ixI p0).toNatClampNeg < es.length) :
    Triple l Z n0 (⟨"com/example/capabind/capabind/registry/Verdicts", "decide", "(IZ)V"⟩ : MethodName) prog_140_method_8_code 3 none ({ frames := 0, cells := 0, slots := 0, locals := 0 } : Room) 0 0 [(.ref r0), (.int p0), (.int p1)] ((r0, ob0 (.long q9) (.ref r1) (.ref r2)) :: (r1, .inr (.long, List.map Value.long ds)) :: (r2, .inr (.long, List.map Value.long es)) :: RR) (fun v L' => v = none ∧ L' = ((r0, ob0 (.long q9) (.ref r1) (.ref r2)) :: (r1, .inr (.long, List.map Value.long (ds.set (((p0.toUInt32 >>> ((6 : Int32) &&& 31).toUInt32).toInt32)).toNatClampNeg ((ds.getD (((p0.toUInt32 >>> ((6 : Int32) &&& 31).toUInt32).toInt32)).toNatClampNeg (0 : Int64)) ||| ((1 : Int64) <<< (p0 &&& 0x3f).toInt64))))) :: (r2, .inr (.long, List.map Value.long (if p1 = (0 : Int32) then es else (es.set (((p0.toUInt32 >>> ((6 : Int32) &&& 31).toUInt32).toInt32)).toNatClampNeg ((es.getD (((p0.toUInt32 >>> ((6 : Int32) &&& 31).toUInt32).toInt32)).toNatClampNeg (0 : Int64)) ||| ((1 : Int64) <<< (p0 &&& 0x3f).toInt64)))))) :: RR)) := by
  refine Triple.of_body (tbl := tables_1) (a0 := a0) (Ls := #[.val (.ref r0), .val (.int p0), .val (.int p1)]) pn_5 hw rfl ?_
  intro p e s m below meth c T A
  refine A.aloadN (q := 1) d5_0 rfl rfl rfl ?_
  refine A.getF (q := 4) (w := 19) (i := 0) (j := 1) d5_1 rfl rfl rfl rfl ?_
  intro T A
  refine A.iloadN (q := 5) d5_4 rfl rfl ?_
  refine A.bipush (q := 7) (v := (6 : Int32)) d5_5 rfl (by decide) ?_
  obtain ⟨v1, e1⟩ : ∃ v : Int32, (p0.toUInt32 >>> ((6 : Int32) &&& 31).toUInt32).toInt32 = v := ⟨_, rfl⟩
  refine A.iushr (q := 8) d5_7 rfl e1 ?_
  refine A.dup2 (q := 9) d5_8 rfl rfl rfl ?_
  refine A.laloadM (q := 10) (i := 1) (v := (ds.getD (v1).toNatClampNeg (0 : Int64))) d5_9 rfl rfl (by subst e1; exact hi0) (own_gd (by subst e1; exact hds)) ?_
  refine A.lconst (q := 11) (v := (1 : Int64)) d5_10 rfl (by decide) ?_
  refine A.iloadN (q := 12) d5_11 rfl rfl ?_
  obtain ⟨v2, e2⟩ : ∃ v : Int64, (1 : Int64) <<< (p0 &&& 0x3f).toInt64 = v := ⟨_, rfl⟩
  refine A.lshl (q := 13) d5_12 rfl e2 ?_
  obtain ⟨v3, e3⟩ : ∃ v : Int64, (ds.getD (v1).toNatClampNeg (0 : Int64)) ||| v2 = v := ⟨_, rfl⟩
  refine A.lor (q := 14) d5_13 rfl e3 ?_
  refine A.lastoreM (q := 15) (i := 1) (x' := v3) (L' := ((r0, ob0 (.long q9) (.ref r1) (.ref r2)) :: (r1, .inr (.long, List.map Value.long (ds.set (v1).toNatClampNeg v3))) :: (r2, .inr (.long, List.map Value.long es)) :: RR)) d5_14 rfl rfl (by subst e1 e2 e3; exact hi0) (by subst e1 e2 e3; exact hds) rfl rfl ?_
  intro T A
  refine A.iloadN (q := 16) d5_15 rfl rfl ?_
  refine A.if_eq (q := 19) (r := 34) d5_16 rfl (by decide) (fun h4 => ?_) (fun h4 => ?_)
  · subst e1 e2 e3
    exact A.retV d5_34 (by decide) (by decide) ⟨rfl, by first | rfl | (simp only [if_pos h4])⟩
  · refine A.aloadN (q := 20) d5_19 rfl rfl rfl ?_
    refine A.getF (q := 23) (w := 21) (i := 0) (j := 2) d5_20 rfl rfl rfl rfl ?_
    intro T A
    refine A.iloadN (q := 24) d5_23 rfl rfl ?_
    refine A.bipush (q := 26) (v := (6 : Int32)) d5_24 rfl (by decide) ?_
    obtain ⟨v5, e5⟩ : ∃ v : Int32, (p0.toUInt32 >>> ((6 : Int32) &&& 31).toUInt32).toInt32 = v := ⟨_, rfl⟩
    refine A.iushr (q := 27) d5_26 rfl e5 ?_
    refine A.dup2 (q := 28) d5_27 rfl rfl rfl ?_
    refine A.laloadM (q := 29) (i := 2) (v := (es.getD (v5).toNatClampNeg (0 : Int64))) d5_28 rfl rfl (by subst e1 e2 e3 e5; exact hi0) (own_gd (by subst e1 e2 e3 e5; exact hes)) ?_
    refine A.lconst (q := 30) (v := (1 : Int64)) d5_29 rfl (by decide) ?_
    refine A.iloadN (q := 31) d5_30 rfl rfl ?_
    obtain ⟨v6, e6⟩ : ∃ v : Int64, (1 : Int64) <<< (p0 &&& 0x3f).toInt64 = v := ⟨_, rfl⟩
    refine A.lshl (q := 32) d5_31 rfl e6 ?_
    obtain ⟨v7, e7⟩ : ∃ v : Int64, (es.getD (v5).toNatClampNeg (0 : Int64)) ||| v6 = v := ⟨_, rfl⟩
    refine A.lor (q := 33) d5_32 rfl e7 ?_
    refine A.lastoreM (q := 34) (i := 2) (x' := v7) (L' := ((r0, ob0 (.long q9) (.ref r1) (.ref r2)) :: (r1, .inr (.long, List.map Value.long (ds.set (v1).toNatClampNeg v3))) :: (r2, .inr (.long, List.map Value.long (es.set (v5).toNatClampNeg v7))) :: RR)) d5_33 rfl rfl (by subst e1 e2 e3 e5 e6 e7; exact hi0) (by subst e1 e2 e3 e5 e6 e7; exact hes) rfl rfl ?_
    intro T A
    subst e1 e2 e3 e5 e6 e7
    exact A.retV d5_34 (by decide) (by decide) ⟨rfl, by first | rfl | (simp only [if_neg h4])⟩
def FE (p0 : Int32) (es : List Int64) : Int32 := (if ((es.getD (((p0.toUInt32 >>> ((6 : Int32) &&& 31).toUInt32).toInt32)).toNatClampNeg (0 : Int64)) &&& ((1 : Int64) <<< (p0 &&& 0x3f).toInt64)) = (0 : Int64) then (0 : Int32) else (1 : Int32))
theorem d6_0 : decode prog_140_method_7_code 0 = .ok (.aload_n 0, 1) := by decide +kernel
theorem d6_1 : decode prog_140_method_7_code 1 = .ok (.getfield 24, 3) := by decide +kernel
theorem d6_4 : decode prog_140_method_7_code 4 = .ok (.iload_n 1, 1) := by decide +kernel
theorem d6_5 : decode prog_140_method_7_code 5 = .ok (.bipush 6, 2) := by decide +kernel
theorem d6_7 : decode prog_140_method_7_code 7 = .ok (.iushr, 1) := by decide +kernel
theorem d6_8 : decode prog_140_method_7_code 8 = .ok (.laload, 1) := by decide +kernel
theorem d6_9 : decode prog_140_method_7_code 9 = .ok (.lconst 1, 1) := by decide +kernel
theorem d6_10 : decode prog_140_method_7_code 10 = .ok (.iload_n 1, 1) := by decide +kernel
theorem d6_11 : decode prog_140_method_7_code 11 = .ok (.lshl, 1) := by decide +kernel
theorem d6_12 : decode prog_140_method_7_code 12 = .ok (.land, 1) := by decide +kernel
theorem d6_13 : decode prog_140_method_7_code 13 = .ok (.lconst 0, 1) := by decide +kernel
theorem d6_14 : decode prog_140_method_7_code 14 = .ok (.lcmp, 1) := by decide +kernel
theorem d6_15 : decode prog_140_method_7_code 15 = .ok (.ifCond .eq 7, 3) := by decide +kernel
theorem d6_18 : decode prog_140_method_7_code 18 = .ok (.iconst 1, 1) := by decide +kernel
theorem d6_19 : decode prog_140_method_7_code 19 = .ok (.goto 4, 3) := by decide +kernel
theorem d6_22 : decode prog_140_method_7_code 22 = .ok (.iconst 0, 1) := by decide +kernel
theorem d6_23 : decode prog_140_method_7_code 23 = .ok (.ireturn, 1) := by decide +kernel
theorem pn_6 : plainFor (⟨"com/example/capabind/capabind/registry/Verdicts", "meets", "(I)Z"⟩ : MethodName) = true := plainFor_of_name (by first | (simp [plainName, overriddenIn]; done) | decide +kernel)
set_option maxRecDepth 65536 in
set_option maxHeartbeats 8000000 in
theorem rmE (l : Launch) (Z : State) (a0 : Array Value) (hw : ∀ d ∈ tables_1, d.before a0 Z = true) (n0 : Nat) (r0 : Addr) (p0 : Int32) (q9 : Int64) (r1 : Addr) (r2 : Addr) (ds : List Int64) (es : List Int64) (RR : Obs) (hi0 : ¬ ixI p0 < 0) (hds : (ixI p0).toNatClampNeg < ds.length) (hes : (ixI p0).toNatClampNeg < es.length) :
    Triple l Z n0 (⟨"com/example/capabind/capabind/registry/Verdicts", "meets", "(I)Z"⟩ : MethodName) prog_140_method_7_code 2 (some .boolean) ({ frames := 0, cells := 0, slots := 0, locals := 0 } : Room) 0 0 [(.ref r0), (.int p0)] ((r0, ob0 (.long q9) (.ref r1) (.ref r2)) :: (r1, .inr (.long, List.map Value.long ds)) :: (r2, .inr (.long, List.map Value.long es)) :: RR) (fun v L' => v = some (.int (FE p0 es)) ∧ L' = ((r0, ob0 (.long q9) (.ref r1) (.ref r2)) :: (r1, .inr (.long, List.map Value.long ds)) :: (r2, .inr (.long, List.map Value.long es)) :: RR)) := by
  refine Triple.of_body (tbl := tables_1) (a0 := a0) (Ls := #[.val (.ref r0), .val (.int p0)]) pn_6 hw rfl ?_
  intro p e s m below meth c T A
  refine A.aloadN (q := 1) d6_0 rfl rfl rfl ?_
  refine A.getF (q := 4) (w := 21) (i := 0) (j := 2) d6_1 rfl rfl rfl rfl ?_
  intro T A
  refine A.iloadN (q := 5) d6_4 rfl rfl ?_
  refine A.bipush (q := 7) (v := (6 : Int32)) d6_5 rfl (by decide) ?_
  obtain ⟨v1, e1⟩ : ∃ v : Int32, (p0.toUInt32 >>> ((6 : Int32) &&& 31).toUInt32).toInt32 = v := ⟨_, rfl⟩
  refine A.iushr (q := 8) d6_7 rfl e1 ?_
  refine A.laloadM (q := 9) (i := 2) (v := (es.getD (v1).toNatClampNeg (0 : Int64))) d6_8 rfl rfl (by subst e1; exact hi0) (own_gd (by subst e1; exact hes)) ?_
  refine A.lconst (q := 10) (v := (1 : Int64)) d6_9 rfl (by decide) ?_
  refine A.iloadN (q := 11) d6_10 rfl rfl ?_
  obtain ⟨v2, e2⟩ : ∃ v : Int64, (1 : Int64) <<< (p0 &&& 0x3f).toInt64 = v := ⟨_, rfl⟩
  refine A.lshl (q := 12) d6_11 rfl e2 ?_
  obtain ⟨v3, e3⟩ : ∃ v : Int64, (es.getD (v1).toNatClampNeg (0 : Int64)) &&& v2 = v := ⟨_, rfl⟩
  refine A.land (q := 13) d6_12 rfl e3 ?_
  refine A.lconst (q := 14) (v := (0 : Int64)) d6_13 rfl (by decide) ?_
  refine A.lcmp_eq (q := 15) (q2 := 18) (r := 22) d6_14 rfl d6_15 rfl (by decide) (fun h4 => ?_) (fun h4 => ?_)
  · refine A.iconst (q := 23) (v := (0 : Int32)) d6_22 rfl (by decide) ?_
    subst e1 e2 e3
    exact A.retZ (v := (FE p0 es)) d6_23 (by simp only [FE, if_pos h4]; first | rfl | assumption) (by decide) (by decide) ⟨rfl, by first | rfl | (simp only [if_pos h4])⟩
  · refine A.iconst (q := 19) (v := (1 : Int32)) d6_18 rfl (by decide) ?_
    refine A.goto (r := 23) d6_19 (by decide) ?_
    subst e1 e2 e3
    exact A.retZ (v := (FE p0 es)) d6_23 (by simp only [FE, if_neg h4]; first | rfl | assumption) (by decide) (by decide) ⟨rfl, by first | rfl | (simp only [if_neg h4])⟩
theorem d11_0 : decode prog_140_method_4_code 0 = .ok (.aload_n 0, 1) := by decide +kernel
theorem d11_1 : decode prog_140_method_4_code 1 = .ok (.getfield 16, 3) := by decide +kernel
theorem d11_4 : decode prog_140_method_4_code 4 = .ok (.lreturn, 1) := by decide +kernel
theorem pn_11 : plainFor (⟨"com/example/capabind/capabind/registry/Verdicts", "version", "()J"⟩ : MethodName) = true := plainFor_of_name (by first | (simp [plainName, overriddenIn]; done) | decide +kernel)
set_option maxRecDepth 65536 in
set_option maxHeartbeats 8000000 in
theorem rmV (l : Launch) (Z : State) (a0 : Array Value) (hw : ∀ d ∈ tables_1, d.before a0 Z = true) (n0 : Nat) (r0 : Addr) (q9 : Int64) (r1 : Addr) (r2 : Addr) (ds : List Int64) (es : List Int64) (RR : Obs) :
    Triple l Z n0 (⟨"com/example/capabind/capabind/registry/Verdicts", "version", "()J"⟩ : MethodName) prog_140_method_4_code 1 (some .long) ({ frames := 0, cells := 0, slots := 0, locals := 0 } : Room) 0 0 [(.ref r0)] ((r0, ob0 (.long q9) (.ref r1) (.ref r2)) :: (r1, .inr (.long, List.map Value.long ds)) :: (r2, .inr (.long, List.map Value.long es)) :: RR) (fun v L' => v = some (.long q9) ∧ L' = ((r0, ob0 (.long q9) (.ref r1) (.ref r2)) :: (r1, .inr (.long, List.map Value.long ds)) :: (r2, .inr (.long, List.map Value.long es)) :: RR)) := by
  refine Triple.of_body (tbl := tables_1) (a0 := a0) (Ls := #[.val (.ref r0)]) pn_11 hw rfl ?_
  intro p e s m below meth c T A
  refine A.aloadN (q := 1) d11_0 rfl rfl rfl ?_
  refine A.getF (q := 4) (w := 17) (i := 0) (j := 0) d11_1 rfl rfl rfl rfl ?_
  intro T A
  exact A.retJ d11_4 (by decide) (by decide) ⟨rfl, rfl⟩
def FM (p0 : Int32) (p1 : Int32) : Int32 := (if p1 < p0 then p1 else p0)
theorem d10_0 : decode jdk_29_method_69_code 0 = .ok (.iload_n 0, 1) := by decide +kernel
theorem d10_1 : decode jdk_29_method_69_code 1 = .ok (.iload_n 1, 1) := by decide +kernel
theorem d10_2 : decode jdk_29_method_69_code 2 = .ok (.if_icmp .gt 7, 3) := by decide +kernel
theorem d10_5 : decode jdk_29_method_69_code 5 = .ok (.iload_n 0, 1) := by decide +kernel
theorem d10_6 : decode jdk_29_method_69_code 6 = .ok (.goto 4, 3) := by decide +kernel
theorem d10_9 : decode jdk_29_method_69_code 9 = .ok (.iload_n 1, 1) := by decide +kernel
theorem d10_10 : decode jdk_29_method_69_code 10 = .ok (.ireturn, 1) := by decide +kernel
theorem pn_10 : plainFor (⟨"java/lang/Math", "min", "(II)I"⟩ : MethodName) = true := Jvm.Free.JP.mathPlain rfl (by decide +kernel)
set_option maxRecDepth 65536 in
set_option maxHeartbeats 8000000 in
theorem rmM (l : Launch) (Z : State) (a0 : Array Value) (hw : ∀ d ∈ tables_1, d.before a0 Z = true) (n0 : Nat) (p0 : Int32) (p1 : Int32) (RR : Obs) :
    Triple l Z n0 (⟨"java/lang/Math", "min", "(II)I"⟩ : MethodName) jdk_29_method_69_code 2 (some .int) ({ frames := 0, cells := 0, slots := 0, locals := 0 } : Room) 0 0 [(.int p0), (.int p1)] (RR) (fun v L' => v = some (.int (FM p0 p1)) ∧ L' = (RR)) := by
  refine Triple.of_body (tbl := tables_1) (a0 := a0) (Ls := #[.val (.int p0), .val (.int p1)]) pn_10 hw rfl ?_
  intro p e s m below meth c T A
  refine A.iloadN (q := 1) d10_0 rfl rfl ?_
  refine A.iloadN (q := 2) d10_1 rfl rfl ?_
  refine A.icmp_gt (q := 5) (r := 9) d10_2 rfl (by decide) (fun h1 => ?_) (fun h1 => ?_)
  · refine A.iloadN (q := 10) d10_9 rfl rfl ?_
    exact A.retI d10_10 (by decide) (by decide) ⟨(by simp only [FM, if_pos h1]), by first | rfl | (simp only [if_pos h1])⟩
  · refine A.iloadN (q := 6) d10_5 rfl rfl ?_
    refine A.goto (r := 10) d10_6 (by decide) ?_
    exact A.retI d10_10 (by decide) (by decide) ⟨(by simp only [FM, if_neg h1]), by first | rfl | (simp only [if_neg h1])⟩
def FT (p0 : Int32) : Int32 := (if (0 : Int32) < ((p0 ^^^ (-1 : Int32)) &&& (p0 - (1 : Int32))) then (let v1 : Int32 := p0 ^^^ (-1 : Int32); let v2 : Int32 := p0 - (1 : Int32); let v3 : Int32 := v1 &&& v2; let j7 : Int32 := (if (65536 : Int32) < v3 then ((v3.toUInt32 >>> ((16 : Int32) &&& 31).toUInt32).toInt32) else v3); let j8 : Int32 := (if (65536 : Int32) < v3 then (17 : Int32) else (1 : Int32)); let j13 : Int32 := (if (256 : Int32) < j7 then ((j7.toUInt32 >>> ((8 : Int32) &&& 31).toUInt32).toInt32) else j7); let j14 : Int32 := (if (256 : Int32) < j7 then (j8 + Int32.ofInt 8) else j8); let j19 : Int32 := (if (16 : Int32) < j13 then ((j13.toUInt32 >>> ((4 : Int32) &&& 31).toUInt32).toInt32) else j13); let j20 : Int32 := (if (16 : Int32) < j13 then (j14 + Int32.ofInt 4) else j14); let j25 : Int32 := (if (4 : Int32) < j19 then ((j19.toUInt32 >>> ((2 : Int32) &&& 31).toUInt32).toInt32) else j19); let j26 : Int32 := (if (4 : Int32) < j19 then (j20 + Int32.ofInt 2) else j20); let v28 : Int32 := (j25.toUInt32 >>> ((1 : Int32) &&& 31).toUInt32).toInt32; let v29 : Int32 := j26 + v28; v29) else (let v1 : Int32 := p0 ^^^ (-1 : Int32); let v2 : Int32 := p0 - (1 : Int32); let v3 : Int32 := v1 &&& v2; let v30 : Int32 := v3 &&& (32 : Int32); v30))
theorem d9_0 : decode jdk_33_method_48_code 0 = .ok (.iload_n 0, 1) := by decide +kernel
theorem d9_1 : decode jdk_33_method_48_code 1 = .ok (.iconst (-1), 1) := by decide +kernel
theorem d9_2 : decode jdk_33_method_48_code 2 = .ok (.ixor, 1) := by decide +kernel
theorem d9_3 : decode jdk_33_method_48_code 3 = .ok (.iload_n 0, 1) := by decide +kernel
theorem d9_4 : decode jdk_33_method_48_code 4 = .ok (.iconst 1, 1) := by decide +kernel
theorem d9_5 : decode jdk_33_method_48_code 5 = .ok (.isub, 1) := by decide +kernel
theorem d9_6 : decode jdk_33_method_48_code 6 = .ok (.iand, 1) := by decide +kernel
theorem d9_7 : decode jdk_33_method_48_code 7 = .ok (.istore_n 0, 1) := by decide +kernel
theorem d9_8 : decode jdk_33_method_48_code 8 = .ok (.iload_n 0, 1) := by decide +kernel
theorem d9_9 : decode jdk_33_method_48_code 9 = .ok (.ifCond .gt 8, 3) := by decide +kernel
theorem d9_12 : decode jdk_33_method_48_code 12 = .ok (.iload_n 0, 1) := by decide +kernel
theorem d9_13 : decode jdk_33_method_48_code 13 = .ok (.bipush 32, 2) := by decide +kernel
theorem d9_15 : decode jdk_33_method_48_code 15 = .ok (.iand, 1) := by decide +kernel
theorem d9_16 : decode jdk_33_method_48_code 16 = .ok (.ireturn, 1) := by decide +kernel
theorem d9_17 : decode jdk_33_method_48_code 17 = .ok (.iconst 1, 1) := by decide +kernel
theorem d9_18 : decode jdk_33_method_48_code 18 = .ok (.istore_n 1, 1) := by decide +kernel
theorem d9_19 : decode jdk_33_method_48_code 19 = .ok (.iload_n 0, 1) := by decide +kernel
theorem d9_20 : decode jdk_33_method_48_code 20 = .ok (.ldc_w 264, 3) := by decide +kernel
theorem d9_23 : decode jdk_33_method_48_code 23 = .ok (.if_icmp .le 11, 3) := by decide +kernel
theorem d9_26 : decode jdk_33_method_48_code 26 = .ok (.iinc 1 16, 3) := by decide +kernel
theorem d9_29 : decode jdk_33_method_48_code 29 = .ok (.iload_n 0, 1) := by decide +kernel
theorem d9_30 : decode jdk_33_method_48_code 30 = .ok (.bipush 16, 2) := by decide +kernel
theorem d9_32 : decode jdk_33_method_48_code 32 = .ok (.iushr, 1) := by decide +kernel
theorem d9_33 : decode jdk_33_method_48_code 33 = .ok (.istore_n 0, 1) := by decide +kernel
theorem d9_34 : decode jdk_33_method_48_code 34 = .ok (.iload_n 0, 1) := by decide +kernel
theorem d9_35 : decode jdk_33_method_48_code 35 = .ok (.sipush 256, 3) := by decide +kernel
theorem d9_38 : decode jdk_33_method_48_code 38 = .ok (.if_icmp .le 11, 3) := by decide +kernel
theorem d9_41 : decode jdk_33_method_48_code 41 = .ok (.iinc 1 8, 3) := by decide +kernel
theorem d9_44 : decode jdk_33_method_48_code 44 = .ok (.iload_n 0, 1) := by decide +kernel
theorem d9_45 : decode jdk_33_method_48_code 45 = .ok (.bipush 8, 2) := by decide +kernel
theorem d9_47 : decode jdk_33_method_48_code 47 = .ok (.iushr, 1) := by decide +kernel
theorem d9_48 : decode jdk_33_method_48_code 48 = .ok (.istore_n 0, 1) := by decide +kernel
theorem d9_49 : decode jdk_33_method_48_code 49 = .ok (.iload_n 0, 1) := by decide +kernel
theorem d9_50 : decode jdk_33_method_48_code 50 = .ok (.bipush 16, 2) := by decide +kernel
theorem d9_52 : decode jdk_33_method_48_code 52 = .ok (.if_icmp .le 10, 3) := by decide +kernel
theorem d9_55 : decode jdk_33_method_48_code 55 = .ok (.iinc 1 4, 3) := by decide +kernel
theorem d9_58 : decode jdk_33_method_48_code 58 = .ok (.iload_n 0, 1) := by decide +kernel
theorem d9_59 : decode jdk_33_method_48_code 59 = .ok (.iconst 4, 1) := by decide +kernel
theorem d9_60 : decode jdk_33_method_48_code 60 = .ok (.iushr, 1) := by decide +kernel
theorem d9_61 : decode jdk_33_method_48_code 61 = .ok (.istore_n 0, 1) := by decide +kernel
theorem d9_62 : decode jdk_33_method_48_code 62 = .ok (.iload_n 0, 1) := by decide +kernel
theorem d9_63 : decode jdk_33_method_48_code 63 = .ok (.iconst 4, 1) := by decide +kernel
theorem d9_64 : decode jdk_33_method_48_code 64 = .ok (.if_icmp .le 10, 3) := by decide +kernel
theorem d9_67 : decode jdk_33_method_48_code 67 = .ok (.iinc 1 2, 3) := by decide +kernel
theorem d9_70 : decode jdk_33_method_48_code 70 = .ok (.iload_n 0, 1) := by decide +kernel
theorem d9_71 : decode jdk_33_method_48_code 71 = .ok (.iconst 2, 1) := by decide +kernel
theorem d9_72 : decode jdk_33_method_48_code 72 = .ok (.iushr, 1) := by decide +kernel
theorem d9_73 : decode jdk_33_method_48_code 73 = .ok (.istore_n 0, 1) := by decide +kernel
theorem d9_74 : decode jdk_33_method_48_code 74 = .ok (.iload_n 1, 1) := by decide +kernel
theorem d9_75 : decode jdk_33_method_48_code 75 = .ok (.iload_n 0, 1) := by decide +kernel
theorem d9_76 : decode jdk_33_method_48_code 76 = .ok (.iconst 1, 1) := by decide +kernel
theorem d9_77 : decode jdk_33_method_48_code 77 = .ok (.iushr, 1) := by decide +kernel
theorem d9_78 : decode jdk_33_method_48_code 78 = .ok (.iadd, 1) := by decide +kernel
theorem d9_79 : decode jdk_33_method_48_code 79 = .ok (.ireturn, 1) := by decide +kernel
theorem pn_9 : plainFor (⟨"java/lang/Integer", "numberOfTrailingZeros", "(I)I"⟩ : MethodName) = true := plainFor_of_name (by first | (simp [plainName, overriddenIn]; done) | decide +kernel)
set_option maxRecDepth 65536 in
set_option maxHeartbeats 8000000 in
theorem rmT (l : Launch) (Z : State) (a0 : Array Value) (hw : ∀ d ∈ tables_1, d.before a0 Z = true) (n0 : Nat) (p0 : Int32) (RR : Obs) :
    Triple l Z n0 (⟨"java/lang/Integer", "numberOfTrailingZeros", "(I)I"⟩ : MethodName) jdk_33_method_48_code 2 (some .int) ({ frames := 0, cells := 0, slots := 0, locals := 0 } : Room) 0 0 [(.int p0)] (RR) (fun v L' => v = some (.int (FT p0)) ∧ L' = (RR)) := by
  refine Triple.of_body (tbl := tables_1) (a0 := a0) (Ls := #[.val (.int p0), .unset]) pn_9 hw rfl ?_
  intro p e s m below meth c T A
  refine A.iloadN (q := 1) d9_0 rfl rfl ?_
  refine A.iconst (q := 2) (v := (-1 : Int32)) d9_1 rfl (by decide) ?_
  obtain ⟨v1, e1⟩ : ∃ v : Int32, p0 ^^^ (-1 : Int32) = v := ⟨_, rfl⟩
  refine A.ixor (q := 3) d9_2 rfl e1 ?_
  refine A.iloadN (q := 4) d9_3 rfl rfl ?_
  refine A.iconst (q := 5) (v := (1 : Int32)) d9_4 rfl (by decide) ?_
  obtain ⟨v2, e2⟩ : ∃ v : Int32, p0 - (1 : Int32) = v := ⟨_, rfl⟩
  refine A.isub (q := 6) d9_5 rfl e2 ?_
  obtain ⟨v3, e3⟩ : ∃ v : Int32, v1 &&& v2 = v := ⟨_, rfl⟩
  refine A.iand (q := 7) d9_6 rfl e3 ?_
  refine A.istoreN (q := 8) (l' := #[.val (.int v3), .unset]) d9_7 rfl rfl ?_
  refine A.iloadN (q := 9) d9_8 rfl rfl ?_
  refine A.if_gt (q := 12) (r := 17) d9_9 rfl (by decide) (fun h4 => ?_) (fun h4 => ?_)
  · refine A.iconst (q := 18) (v := (1 : Int32)) d9_17 rfl (by decide) ?_
    refine A.istoreN (q := 19) (l' := #[.val (.int v3), .val (.int (1 : Int32))]) d9_18 rfl rfl ?_
    have J19_8 : ∀ (T : State) (j7 : Int32) (j8 : Int32), j7 = (if (65536 : Int32) < v3 then ((v3.toUInt32 >>> ((16 : Int32) &&& 31).toUInt32).toInt32) else v3) → j8 = (if (65536 : Int32) < v3 then (17 : Int32) else (1 : Int32)) → Here p l e ({ frames := 0, cells := 0, slots := 0, locals := 0 } : Room) s m ([(.int p0)] : List Value).toArray below meth c Z a0 tables_1 (⟨"java/lang/Integer", "numberOfTrailingZeros", "(I)I"⟩ : MethodName).cls (⟨"java/lang/Integer", "numberOfTrailingZeros", "(I)I"⟩ : MethodName).name jdk_33_method_48_code 2 (some .int) n0 T (RR) 0 0 → Go p e below (EndS below s n0 Z 0 0 (fun v L' => v = some (.int (FT p0)) ∧ L' = (RR))) (T.setTop (mkF m 34 #[.val (.int j7), .val (.int j8)] [])) := by
     intro T j7 j8 ej7 ej8 A
     have J34_14 : ∀ (T : State) (j13 : Int32) (j14 : Int32), j13 = (if (256 : Int32) < j7 then ((j7.toUInt32 >>> ((8 : Int32) &&& 31).toUInt32).toInt32) else j7) → j14 = (if (256 : Int32) < j7 then (j8 + Int32.ofInt 8) else j8) → Here p l e ({ frames := 0, cells := 0, slots := 0, locals := 0 } : Room) s m ([(.int p0)] : List Value).toArray below meth c Z a0 tables_1 (⟨"java/lang/Integer", "numberOfTrailingZeros", "(I)I"⟩ : MethodName).cls (⟨"java/lang/Integer", "numberOfTrailingZeros", "(I)I"⟩ : MethodName).name jdk_33_method_48_code 2 (some .int) n0 T (RR) 0 0 → Go p e below (EndS below s n0 Z 0 0 (fun v L' => v = some (.int (FT p0)) ∧ L' = (RR))) (T.setTop (mkF m 49 #[.val (.int j13), .val (.int j14)] [])) := by
      intro T j13 j14 ej13 ej14 A
      have J49_20 : ∀ (T : State) (j19 : Int32) (j20 : Int32), j19 = (if (16 : Int32) < j13 then ((j13.toUInt32 >>> ((4 : Int32) &&& 31).toUInt32).toInt32) else j13) → j20 = (if (16 : Int32) < j13 then (j14 + Int32.ofInt 4) else j14) → Here p l e ({ frames := 0, cells := 0, slots := 0, locals := 0 } : Room) s m ([(.int p0)] : List Value).toArray below meth c Z a0 tables_1 (⟨"java/lang/Integer", "numberOfTrailingZeros", "(I)I"⟩ : MethodName).cls (⟨"java/lang/Integer", "numberOfTrailingZeros", "(I)I"⟩ : MethodName).name jdk_33_method_48_code 2 (some .int) n0 T (RR) 0 0 → Go p e below (EndS below s n0 Z 0 0 (fun v L' => v = some (.int (FT p0)) ∧ L' = (RR))) (T.setTop (mkF m 62 #[.val (.int j19), .val (.int j20)] [])) := by
       intro T j19 j20 ej19 ej20 A
       have J62_26 : ∀ (T : State) (j25 : Int32) (j26 : Int32), j25 = (if (4 : Int32) < j19 then ((j19.toUInt32 >>> ((2 : Int32) &&& 31).toUInt32).toInt32) else j19) → j26 = (if (4 : Int32) < j19 then (j20 + Int32.ofInt 2) else j20) → Here p l e ({ frames := 0, cells := 0, slots := 0, locals := 0 } : Room) s m ([(.int p0)] : List Value).toArray below meth c Z a0 tables_1 (⟨"java/lang/Integer", "numberOfTrailingZeros", "(I)I"⟩ : MethodName).cls (⟨"java/lang/Integer", "numberOfTrailingZeros", "(I)I"⟩ : MethodName).name jdk_33_method_48_code 2 (some .int) n0 T (RR) 0 0 → Go p e below (EndS below s n0 Z 0 0 (fun v L' => v = some (.int (FT p0)) ∧ L' = (RR))) (T.setTop (mkF m 74 #[.val (.int j25), .val (.int j26)] [])) := by
        intro T j25 j26 ej25 ej26 A
        refine A.iloadN (q := 75) d9_74 rfl rfl ?_
        refine A.iloadN (q := 76) d9_75 rfl rfl ?_
        refine A.iconst (q := 77) (v := (1 : Int32)) d9_76 rfl (by decide) ?_
        obtain ⟨v28, e28⟩ : ∃ v : Int32, (j25.toUInt32 >>> ((1 : Int32) &&& 31).toUInt32).toInt32 = v := ⟨_, rfl⟩
        refine A.iushr (q := 78) d9_77 rfl e28 ?_
        obtain ⟨v29, e29⟩ : ∃ v : Int32, j26 + v28 = v := ⟨_, rfl⟩
        refine A.iadd (q := 79) d9_78 rfl e29 ?_
        subst e1 e2 e3 ej7 ej8 ej13 ej14 ej19 ej20 ej25 ej26 e28 e29
        exact A.retI d9_79 (by decide) (by decide) ⟨(by simp only [FT, if_pos h4]), by first | rfl | (simp only [if_pos h4])⟩
       refine A.iloadN (q := 63) d9_62 rfl rfl ?_
       refine A.iconst (q := 64) (v := (4 : Int32)) d9_63 rfl (by decide) ?_
       refine A.icmp_le (q := 67) (r := 74) d9_64 rfl (by decide) (fun h22 => ?_) (fun h22 => ?_)
       · exact J62_26 T _ _ (by simp only [if_neg h22]) (by simp only [if_neg h22]) A
       · obtain ⟨v23, e23⟩ : ∃ v : Int32, j20 + Int32.ofInt 2 = v := ⟨_, rfl⟩
         refine A.iinc (q := 70) (l' := #[.val (.int j19), .val (.int v23)]) d9_67 rfl rfl e23 rfl ?_
         refine A.iloadN (q := 71) d9_70 rfl rfl ?_
         refine A.iconst (q := 72) (v := (2 : Int32)) d9_71 rfl (by decide) ?_
         obtain ⟨v24, e24⟩ : ∃ v : Int32, (j19.toUInt32 >>> ((2 : Int32) &&& 31).toUInt32).toInt32 = v := ⟨_, rfl⟩
         refine A.iushr (q := 73) d9_72 rfl e24 ?_
         refine A.istoreN (q := 74) (l' := #[.val (.int v24), .val (.int v23)]) d9_73 rfl rfl ?_
         exact J62_26 T _ _ (by simp only [e23, e24, if_pos h22]) (by simp only [e23, e24, if_pos h22]) A
      refine A.iloadN (q := 50) d9_49 rfl rfl ?_
      refine A.bipush (q := 52) (v := (16 : Int32)) d9_50 rfl (by decide) ?_
      refine A.icmp_le (q := 55) (r := 62) d9_52 rfl (by decide) (fun h16 => ?_) (fun h16 => ?_)
      · exact J49_20 T _ _ (by simp only [if_neg h16]) (by simp only [if_neg h16]) A
      · obtain ⟨v17, e17⟩ : ∃ v : Int32, j14 + Int32.ofInt 4 = v := ⟨_, rfl⟩
        refine A.iinc (q := 58) (l' := #[.val (.int j13), .val (.int v17)]) d9_55 rfl rfl e17 rfl ?_
        refine A.iloadN (q := 59) d9_58 rfl rfl ?_
        refine A.iconst (q := 60) (v := (4 : Int32)) d9_59 rfl (by decide) ?_
        obtain ⟨v18, e18⟩ : ∃ v : Int32, (j13.toUInt32 >>> ((4 : Int32) &&& 31).toUInt32).toInt32 = v := ⟨_, rfl⟩
        refine A.iushr (q := 61) d9_60 rfl e18 ?_
        refine A.istoreN (q := 62) (l' := #[.val (.int v18), .val (.int v17)]) d9_61 rfl rfl ?_
        exact J49_20 T _ _ (by simp only [e17, e18, if_pos h16]) (by simp only [e17, e18, if_pos h16]) A
     refine A.iloadN (q := 35) d9_34 rfl rfl ?_
     refine A.sipush (q := 38) (v := (256 : Int32)) d9_35 rfl (by decide) ?_
     refine A.icmp_le (q := 41) (r := 49) d9_38 rfl (by decide) (fun h10 => ?_) (fun h10 => ?_)
     · exact J34_14 T _ _ (by simp only [if_neg h10]) (by simp only [if_neg h10]) A
     · obtain ⟨v11, e11⟩ : ∃ v : Int32, j8 + Int32.ofInt 8 = v := ⟨_, rfl⟩
       refine A.iinc (q := 44) (l' := #[.val (.int j7), .val (.int v11)]) d9_41 rfl rfl e11 rfl ?_
       refine A.iloadN (q := 45) d9_44 rfl rfl ?_
       refine A.bipush (q := 47) (v := (8 : Int32)) d9_45 rfl (by decide) ?_
       obtain ⟨v12, e12⟩ : ∃ v : Int32, (j7.toUInt32 >>> ((8 : Int32) &&& 31).toUInt32).toInt32 = v := ⟨_, rfl⟩
       refine A.iushr (q := 48) d9_47 rfl e12 ?_
       refine A.istoreN (q := 49) (l' := #[.val (.int v12), .val (.int v11)]) d9_48 rfl rfl ?_
       exact J34_14 T _ _ (by simp only [e11, e12, if_pos h10]) (by simp only [e11, e12, if_pos h10]) A
    refine A.iloadN (q := 20) d9_19 rfl rfl ?_
    refine A.ldc_w (q := 23) (v := (65536 : Int32)) (w := 47) d9_20 rfl rfl ?_
    refine A.icmp_le (q := 26) (r := 34) d9_23 rfl (by decide) (fun h5 => ?_) (fun h5 => ?_)
    · exact J19_8 T _ _ (by simp only [if_neg h5]) (by simp only [if_neg h5]) A
    · refine A.iinc (q := 29) (v := (17 : Int32)) (l' := #[.val (.int v3), .val (.int (17 : Int32))]) d9_26 rfl rfl (by decide) rfl ?_
      refine A.iloadN (q := 30) d9_29 rfl rfl ?_
      refine A.bipush (q := 32) (v := (16 : Int32)) d9_30 rfl (by decide) ?_
      obtain ⟨v6, e6⟩ : ∃ v : Int32, (v3.toUInt32 >>> ((16 : Int32) &&& 31).toUInt32).toInt32 = v := ⟨_, rfl⟩
      refine A.iushr (q := 33) d9_32 rfl e6 ?_
      refine A.istoreN (q := 34) (l' := #[.val (.int v6), .val (.int (17 : Int32))]) d9_33 rfl rfl ?_
      exact J19_8 T _ _ (by simp only [e6, if_pos h5]) (by simp only [e6, if_pos h5]) A
  · refine A.iloadN (q := 13) d9_12 rfl rfl ?_
    refine A.bipush (q := 15) (v := (32 : Int32)) d9_13 rfl (by decide) ?_
    obtain ⟨v30, e30⟩ : ∃ v : Int32, v3 &&& (32 : Int32) = v := ⟨_, rfl⟩
    refine A.iand (q := 16) d9_15 rfl e30 ?_
    subst e1 e2 e3 e30
    exact A.retI d9_16 (by decide) (by decide) ⟨(by simp only [FT, if_neg h4]), by first | rfl | (simp only [if_neg h4])⟩
def FU (q0 : Int64) : Int32 := (if (q0.toInt32) = (0 : Int32) then ((32 : Int32) + ((FT (((q0.toUInt64 >>> ((32 : Int32) &&& 0x3f).toInt64.toUInt64).toInt64).toInt32)))) else ((FT (q0.toInt32))))
theorem d8_0 : decode jdk_35_method_49_code 0 = .ok (.lload_n 0, 1) := by decide +kernel
theorem d8_1 : decode jdk_35_method_49_code 1 = .ok (.l2i, 1) := by decide +kernel
theorem d8_2 : decode jdk_35_method_49_code 2 = .ok (.istore_n 2, 1) := by decide +kernel
theorem d8_3 : decode jdk_35_method_49_code 3 = .ok (.iload_n 2, 1) := by decide +kernel
theorem d8_4 : decode jdk_35_method_49_code 4 = .ok (.ifCond .ne 17, 3) := by decide +kernel
theorem d8_7 : decode jdk_35_method_49_code 7 = .ok (.bipush 32, 2) := by decide +kernel
theorem d8_9 : decode jdk_35_method_49_code 9 = .ok (.lload_n 0, 1) := by decide +kernel
theorem d8_10 : decode jdk_35_method_49_code 10 = .ok (.bipush 32, 2) := by decide +kernel
theorem d8_12 : decode jdk_35_method_49_code 12 = .ok (.lushr, 1) := by decide +kernel
theorem d8_13 : decode jdk_35_method_49_code 13 = .ok (.l2i, 1) := by decide +kernel
theorem d8_14 : decode jdk_35_method_49_code 14 = .ok (.invokestatic 311, 3) := by decide +kernel
theorem d8_17 : decode jdk_35_method_49_code 17 = .ok (.iadd, 1) := by decide +kernel
theorem d8_18 : decode jdk_35_method_49_code 18 = .ok (.goto 7, 3) := by decide +kernel
theorem d8_21 : decode jdk_35_method_49_code 21 = .ok (.iload_n 2, 1) := by decide +kernel
theorem d8_22 : decode jdk_35_method_49_code 22 = .ok (.invokestatic 311, 3) := by decide +kernel
theorem d8_25 : decode jdk_35_method_49_code 25 = .ok (.ireturn, 1) := by decide +kernel
theorem pn_8 : plainFor (⟨"java/lang/Long", "numberOfTrailingZeros", "(J)I"⟩ : MethodName) = true := plainFor_of_name (by first | (simp [plainName, overriddenIn]; done) | decide +kernel)
set_option maxRecDepth 65536 in
set_option maxHeartbeats 8000000 in
theorem rmU (l : Launch) (Z : State) (a0 : Array Value) (hw : ∀ d ∈ tables_1, d.before a0 Z = true) (n0 : Nat) (q0 : Int64) (RR : Obs) :
    Triple l Z n0 (⟨"java/lang/Long", "numberOfTrailingZeros", "(J)I"⟩ : MethodName) jdk_35_method_49_code 3 (some .int) ({ frames := 1, cells := 0, slots := 0, locals := 14 } : Room) 0 0 [(.long q0)] (RR) (fun v L' => v = some (.int (FU q0)) ∧ L' = (RR)) := by
  refine Triple.of_body (tbl := tables_1) (a0 := a0) (Ls := #[.val (.long q0), .second, .unset]) pn_8 hw rfl ?_
  intro p e s m below meth c T A
  refine A.lloadN (q := 1) d8_0 rfl rfl ?_
  obtain ⟨v1, e1⟩ : ∃ v : Int32, q0.toInt32 = v := ⟨_, rfl⟩
  refine A.l2i (q := 2) d8_1 rfl e1 ?_
  refine A.istoreN (q := 3) (l' := #[.val (.long q0), .second, .val (.int v1)]) d8_2 rfl rfl ?_
  refine A.iloadN (q := 4) d8_3 rfl rfl ?_
  refine A.if_ne (q := 7) (r := 21) d8_4 rfl (by decide) (fun h2 => ?_) (fun h2 => ?_)
  · refine A.iloadN (q := 22) d8_21 rfl rfl ?_
    refine A.callS (q := 25) (w1 := 43) (w2 := 44) (w3 := 45) (w4 := 46) (as := [(.int v1)]) (st := []) (W := 0) d8_22 rfl rfl rfl rfl rfl (rmT l Z a0 hw n0 v1 _) (by decide) ⟨_, _, pd_0, rfl⟩ rfl rfl rfl (by decide) (by decide) (by decide) (by decide) ?_
    rintro _ T _ ⟨rfl, rfl⟩ A
    show Go p e below _ (T.setTop (mkF m 25 #[.val (.long q0), .second, .val (.int v1)] [(.int (FT v1))]))
    obtain ⟨v3, e3⟩ : ∃ v : Int32, (FT v1) = v := ⟨_, rfl⟩
    rw [e3]
    subst e1 e3
    exact A.retI d8_25 (by decide) (by decide) ⟨(by simp only [FU, if_neg h2]), by first | rfl | (simp only [if_neg h2])⟩
  · refine A.bipush (q := 9) (v := (32 : Int32)) d8_7 rfl (by decide) ?_
    refine A.lloadN (q := 10) d8_9 rfl rfl ?_
    refine A.bipush (q := 12) (v := (32 : Int32)) d8_10 rfl (by decide) ?_
    obtain ⟨v4, e4⟩ : ∃ v : Int64, (q0.toUInt64 >>> ((32 : Int32) &&& 0x3f).toInt64.toUInt64).toInt64 = v := ⟨_, rfl⟩
    refine A.lushr (q := 13) d8_12 rfl e4 ?_
    obtain ⟨v5, e5⟩ : ∃ v : Int32, v4.toInt32 = v := ⟨_, rfl⟩
    refine A.l2i (q := 14) d8_13 rfl e5 ?_
    refine A.callS (q := 17) (w1 := 43) (w2 := 44) (w3 := 45) (w4 := 46) (as := [(.int v5)]) (st := [(.int (32 : Int32))]) (W := 1) d8_14 rfl rfl rfl rfl rfl (rmT l Z a0 hw n0 v5 _) (by decide) ⟨_, _, pd_0, rfl⟩ rfl rfl rfl (by decide) (by decide) (by decide) (by decide) ?_
    rintro _ T _ ⟨rfl, rfl⟩ A
    show Go p e below _ (T.setTop (mkF m 17 #[.val (.long q0), .second, .val (.int v1)] [(.int (FT v5)), (.int (32 : Int32))]))
    obtain ⟨v6, e6⟩ : ∃ v : Int32, (FT v5) = v := ⟨_, rfl⟩
    rw [e6]
    obtain ⟨v7, e7⟩ : ∃ v : Int32, (32 : Int32) + v6 = v := ⟨_, rfl⟩
    refine A.iadd (q := 18) d8_17 rfl e7 ?_
    refine A.goto (r := 25) d8_18 (by decide) ?_
    subst e1 e4 e5 e6 e7
    exact A.retI d8_25 (by decide) (by decide) ⟨(by simp only [FU, if_pos h2]), by first | rfl | (simp only [if_pos h2])⟩
theorem pd_2 : parseMethodDescriptor "(J)I" = some ⟨[.long], some .int⟩ := by decide +kernel
theorem pd_3 : parseMethodDescriptor "(II)I" = some ⟨[.int, .int], some .int⟩ := by decide +kernel
def FF (p0 : Int32) (p1 : Int32) (ds : List Int64) (es : List Int64) : Int32 := (if ((((ds.getD (((p0.toUInt32 >>> ((6 : Int32) &&& 31).toUInt32).toInt32)).toNatClampNeg (0 : Int64)) ^^^ (-1 : Int64)) ||| (es.getD (((p0.toUInt32 >>> ((6 : Int32) &&& 31).toUInt32).toInt32)).toNatClampNeg (0 : Int64))) &&& ((-1 : Int64) <<< (p0 &&& 0x3f).toInt64)) = (0 : Int64) then ((FM p1 p1)) else ((FM ((((p0.toUInt32 >>> ((6 : Int32) &&& 31).toUInt32).toInt32) <<< ((6 : Int32) &&& 31)) + ((FU ((((ds.getD (((p0.toUInt32 >>> ((6 : Int32) &&& 31).toUInt32).toInt32)).toNatClampNeg (0 : Int64)) ^^^ (-1 : Int64)) ||| (es.getD (((p0.toUInt32 >>> ((6 : Int32) &&& 31).toUInt32).toInt32)).toNatClampNeg (0 : Int64))) &&& ((-1 : Int64) <<< (p0 &&& 0x3f).toInt64))))) p1)))
theorem d7_0 : decode prog_140_method_6_code 0 = .ok (.iload_n 1, 1) := by decide +kernel
theorem d7_1 : decode prog_140_method_6_code 1 = .ok (.iload_n 2, 1) := by decide +kernel
theorem d7_2 : decode prog_140_method_6_code 2 = .ok (.if_icmp .lt 5, 3) := by decide +kernel
theorem d7_5 : decode prog_140_method_6_code 5 = .ok (.iload_n 2, 1) := by decide +kernel
theorem d7_6 : decode prog_140_method_6_code 6 = .ok (.ireturn, 1) := by decide +kernel
theorem d7_7 : decode prog_140_method_6_code 7 = .ok (.iload_n 1, 1) := by decide +kernel
theorem d7_8 : decode prog_140_method_6_code 8 = .ok (.bipush 6, 2) := by decide +kernel
theorem d7_10 : decode prog_140_method_6_code 10 = .ok (.iushr, 1) := by decide +kernel
theorem d7_11 : decode prog_140_method_6_code 11 = .ok (.istore_n 3, 1) := by decide +kernel
theorem d7_12 : decode prog_140_method_6_code 12 = .ok (.aload_n 0, 1) := by decide +kernel
theorem d7_13 : decode prog_140_method_6_code 13 = .ok (.getfield 20, 3) := by decide +kernel
theorem d7_16 : decode prog_140_method_6_code 16 = .ok (.iload_n 3, 1) := by decide +kernel
theorem d7_17 : decode prog_140_method_6_code 17 = .ok (.laload, 1) := by decide +kernel
theorem d7_18 : decode prog_140_method_6_code 18 = .ok (.ldc2_w 33, 3) := by decide +kernel
theorem d7_21 : decode prog_140_method_6_code 21 = .ok (.lxor, 1) := by decide +kernel
theorem d7_22 : decode prog_140_method_6_code 22 = .ok (.aload_n 0, 1) := by decide +kernel
theorem d7_23 : decode prog_140_method_6_code 23 = .ok (.getfield 24, 3) := by decide +kernel
theorem d7_26 : decode prog_140_method_6_code 26 = .ok (.iload_n 3, 1) := by decide +kernel
theorem d7_27 : decode prog_140_method_6_code 27 = .ok (.laload, 1) := by decide +kernel
theorem d7_28 : decode prog_140_method_6_code 28 = .ok (.lor, 1) := by decide +kernel
theorem d7_29 : decode prog_140_method_6_code 29 = .ok (.ldc2_w 33, 3) := by decide +kernel
theorem d7_32 : decode prog_140_method_6_code 32 = .ok (.iload_n 1, 1) := by decide +kernel
theorem d7_33 : decode prog_140_method_6_code 33 = .ok (.lshl, 1) := by decide +kernel
theorem d7_34 : decode prog_140_method_6_code 34 = .ok (.land, 1) := by decide +kernel
theorem d7_35 : decode prog_140_method_6_code 35 = .ok (.lstore 4, 2) := by decide +kernel
theorem d7_37 : decode prog_140_method_6_code 37 = .ok (.lload 4, 2) := by decide +kernel
theorem d7_39 : decode prog_140_method_6_code 39 = .ok (.lconst 0, 1) := by decide +kernel
theorem d7_40 : decode prog_140_method_6_code 40 = .ok (.lcmp, 1) := by decide +kernel
theorem d7_41 : decode prog_140_method_6_code 41 = .ok (.ifCond .ne 36, 3) := by decide +kernel
theorem d7_44 : decode prog_140_method_6_code 44 = .ok (.iinc 3 1, 3) := by decide +kernel
theorem d7_47 : decode prog_140_method_6_code 47 = .ok (.iload_n 3, 1) := by decide +kernel
theorem d7_48 : decode prog_140_method_6_code 48 = .ok (.bipush 6, 2) := by decide +kernel
theorem d7_50 : decode prog_140_method_6_code 50 = .ok (.ishl, 1) := by decide +kernel
theorem d7_51 : decode prog_140_method_6_code 51 = .ok (.iload_n 2, 1) := by decide +kernel
theorem d7_52 : decode prog_140_method_6_code 52 = .ok (.if_icmp .ge 25, 3) := by decide +kernel
theorem d7_55 : decode prog_140_method_6_code 55 = .ok (.aload_n 0, 1) := by decide +kernel
theorem d7_56 : decode prog_140_method_6_code 56 = .ok (.getfield 20, 3) := by decide +kernel
theorem d7_59 : decode prog_140_method_6_code 59 = .ok (.iload_n 3, 1) := by decide +kernel
theorem d7_60 : decode prog_140_method_6_code 60 = .ok (.laload, 1) := by decide +kernel
theorem d7_61 : decode prog_140_method_6_code 61 = .ok (.ldc2_w 33, 3) := by decide +kernel
theorem d7_64 : decode prog_140_method_6_code 64 = .ok (.lxor, 1) := by decide +kernel
theorem d7_65 : decode prog_140_method_6_code 65 = .ok (.aload_n 0, 1) := by decide +kernel
theorem d7_66 : decode prog_140_method_6_code 66 = .ok (.getfield 24, 3) := by decide +kernel
theorem d7_69 : decode prog_140_method_6_code 69 = .ok (.iload_n 3, 1) := by decide +kernel
theorem d7_70 : decode prog_140_method_6_code 70 = .ok (.laload, 1) := by decide +kernel
theorem d7_71 : decode prog_140_method_6_code 71 = .ok (.lor, 1) := by decide +kernel
theorem d7_72 : decode prog_140_method_6_code 72 = .ok (.lstore 4, 2) := by decide +kernel
theorem d7_74 : decode prog_140_method_6_code 74 = .ok (.goto (-37), 3) := by decide +kernel
theorem d7_77 : decode prog_140_method_6_code 77 = .ok (.lload 4, 2) := by decide +kernel
theorem d7_79 : decode prog_140_method_6_code 79 = .ok (.lconst 0, 1) := by decide +kernel
theorem d7_80 : decode prog_140_method_6_code 80 = .ok (.lcmp, 1) := by decide +kernel
theorem d7_81 : decode prog_140_method_6_code 81 = .ok (.ifCond .ne 7, 3) := by decide +kernel
theorem d7_84 : decode prog_140_method_6_code 84 = .ok (.iload_n 2, 1) := by decide +kernel
theorem d7_85 : decode prog_140_method_6_code 85 = .ok (.goto 13, 3) := by decide +kernel
theorem d7_88 : decode prog_140_method_6_code 88 = .ok (.iload_n 3, 1) := by decide +kernel
theorem d7_89 : decode prog_140_method_6_code 89 = .ok (.bipush 6, 2) := by decide +kernel
theorem d7_91 : decode prog_140_method_6_code 91 = .ok (.ishl, 1) := by decide +kernel
theorem d7_92 : decode prog_140_method_6_code 92 = .ok (.lload 4, 2) := by decide +kernel
theorem d7_94 : decode prog_140_method_6_code 94 = .ok (.invokestatic 35, 3) := by decide +kernel
theorem d7_97 : decode prog_140_method_6_code 97 = .ok (.iadd, 1) := by decide +kernel
theorem d7_98 : decode prog_140_method_6_code 98 = .ok (.istore 6, 2) := by decide +kernel
theorem d7_100 : decode prog_140_method_6_code 100 = .ok (.iload 6, 2) := by decide +kernel
theorem d7_102 : decode prog_140_method_6_code 102 = .ok (.iload_n 2, 1) := by decide +kernel
theorem d7_103 : decode prog_140_method_6_code 103 = .ok (.invokestatic 39, 3) := by decide +kernel
theorem d7_106 : decode prog_140_method_6_code 106 = .ok (.ireturn, 1) := by decide +kernel
theorem pn_7 : plainFor (⟨"com/example/capabind/capabind/registry/Verdicts", "firstNotFailing", "(II)I"⟩ : MethodName) = true := plainFor_of_name (by first | (simp [plainName, overriddenIn]; done) | decide +kernel)
set_option maxRecDepth 65536 in
set_option maxHeartbeats 8000000 in
theorem rmF (l : Launch) (Z : State) (a0 : Array Value) (hw : ∀ d ∈ tables_1, d.before a0 Z = true) (n0 : Nat) (r0 : Addr) (p0 : Int32) (p1 : Int32) (q9 : Int64) (r1 : Addr) (r2 : Addr) (ds : List Int64) (es : List Int64) (RR : Obs) (hi0 : ¬ ixI p0 < 0) (hds : (ixI p0).toNatClampNeg < ds.length) (hes : (ixI p0).toNatClampNeg < es.length) (hft : p0 < p1) (hge : ¬ (ixI p0 + Int32.ofInt 1) <<< ((6 : Int32) &&& 31) < p1) :
    Triple l Z n0 (⟨"com/example/capabind/capabind/registry/Verdicts", "firstNotFailing", "(II)I"⟩ : MethodName) prog_140_method_6_code 7 (some .int) ({ frames := 2, cells := 0, slots := 0, locals := 29 } : Room) 0 0 [(.ref r0), (.int p0), (.int p1)] ((r0, ob0 (.long q9) (.ref r1) (.ref r2)) :: (r1, .inr (.long, List.map Value.long ds)) :: (r2, .inr (.long, List.map Value.long es)) :: RR) (fun v L' => v = some (.int (FF p0 p1 ds es)) ∧ L' = ((r0, ob0 (.long q9) (.ref r1) (.ref r2)) :: (r1, .inr (.long, List.map Value.long ds)) :: (r2, .inr (.long, List.map Value.long es)) :: RR)) := by
  refine Triple.of_body (tbl := tables_1) (a0 := a0) (Ls := #[.val (.ref r0), .val (.int p0), .val (.int p1), .unset, .unset, .unset, .unset]) pn_7 hw rfl ?_
  intro p e s m below meth c T A
  refine A.iloadN (q := 1) d7_0 rfl rfl ?_
  refine A.iloadN (q := 2) d7_1 rfl rfl ?_
  refine A.icmp_lt (q := 5) (r := 7) d7_2 rfl (by decide) (fun _ => ?_) (fun h => (h hft).elim)
  refine A.iloadN (q := 8) d7_7 rfl rfl ?_
  refine A.bipush (q := 10) (v := (6 : Int32)) d7_8 rfl (by decide) ?_
  obtain ⟨v2, e2⟩ : ∃ v : Int32, (p0.toUInt32 >>> ((6 : Int32) &&& 31).toUInt32).toInt32 = v := ⟨_, rfl⟩
  refine A.iushr (q := 11) d7_10 rfl e2 ?_
  refine A.istoreN (q := 12) (l' := #[.val (.ref r0), .val (.int p0), .val (.int p1), .val (.int v2), .unset, .unset, .unset]) d7_11 rfl rfl ?_
  refine A.aloadN (q := 13) d7_12 rfl rfl rfl ?_
  refine A.getF (q := 16) (w := 19) (i := 0) (j := 1) d7_13 rfl rfl rfl rfl ?_
  intro T A
  refine A.iloadN (q := 17) d7_16 rfl rfl ?_
  refine A.laloadM (q := 18) (i := 1) (v := (ds.getD (v2).toNatClampNeg (0 : Int64))) d7_17 rfl rfl (by subst e2; exact hi0) (own_gd (by subst e2; exact hds)) ?_
  refine A.ldc2_w (q := 21) (v := (-1 : Int64)) (w := 38) d7_18 rfl rfl ?_
  obtain ⟨v3, e3⟩ : ∃ v : Int64, (ds.getD (v2).toNatClampNeg (0 : Int64)) ^^^ (-1 : Int64) = v := ⟨_, rfl⟩
  refine A.lxor (q := 22) d7_21 rfl e3 ?_
  refine A.aloadN (q := 23) d7_22 rfl rfl rfl ?_
  refine A.getF (q := 26) (w := 21) (i := 0) (j := 2) d7_23 rfl rfl rfl rfl ?_
  intro T A
  refine A.iloadN (q := 27) d7_26 rfl rfl ?_
  refine A.laloadM (q := 28) (i := 2) (v := (es.getD (v2).toNatClampNeg (0 : Int64))) d7_27 rfl rfl (by subst e2 e3; exact hi0) (own_gd (by subst e2 e3; exact hes)) ?_
  obtain ⟨v4, e4⟩ : ∃ v : Int64, v3 ||| (es.getD (v2).toNatClampNeg (0 : Int64)) = v := ⟨_, rfl⟩
  refine A.lor (q := 29) d7_28 rfl e4 ?_
  refine A.ldc2_w (q := 32) (v := (-1 : Int64)) (w := 38) d7_29 rfl rfl ?_
  refine A.iloadN (q := 33) d7_32 rfl rfl ?_
  obtain ⟨v5, e5⟩ : ∃ v : Int64, (-1 : Int64) <<< (p0 &&& 0x3f).toInt64 = v := ⟨_, rfl⟩
  refine A.lshl (q := 34) d7_33 rfl e5 ?_
  obtain ⟨v6, e6⟩ : ∃ v : Int64, v4 &&& v5 = v := ⟨_, rfl⟩
  refine A.land (q := 35) d7_34 rfl e6 ?_
  refine A.lstore (q := 37) (l' := #[.val (.ref r0), .val (.int p0), .val (.int p1), .val (.int v2), .val (.long v6), .second, .unset]) d7_35 rfl rfl ?_
  refine A.lload (q := 39) d7_37 rfl rfl ?_
  refine A.lconst (q := 40) (v := (0 : Int64)) d7_39 rfl (by decide) ?_
  refine A.lcmp_ne (q := 41) (q2 := 44) (r := 77) d7_40 rfl d7_41 rfl (by decide) (fun h7 => ?_) (fun h7 => ?_)
  · refine A.lload (q := 79) d7_77 rfl rfl ?_
    refine A.lconst (q := 80) (v := (0 : Int64)) d7_79 rfl (by decide) ?_
    refine A.lcmp_ne (q := 81) (q2 := 84) (r := 88) d7_80 rfl d7_81 rfl (by decide) (fun _ => ?_) (fun h => (h7 h).elim)
    refine A.iloadN (q := 89) d7_88 rfl rfl ?_
    refine A.bipush (q := 91) (v := (6 : Int32)) d7_89 rfl (by decide) ?_
    obtain ⟨v9, e9⟩ : ∃ v : Int32, v2 <<< ((6 : Int32) &&& 31) = v := ⟨_, rfl⟩
    refine A.ishl (q := 92) d7_91 rfl e9 ?_
    refine A.lload (q := 94) d7_92 rfl rfl ?_
    refine A.callS (q := 97) (w1 := 39) (w2 := 40) (w3 := 41) (w4 := 42) (as := [(.long v6)]) (st := [(.int v9)]) (W := 1) d7_94 rfl rfl rfl rfl rfl (rmU l Z a0 hw n0 v6 _) (by decide) ⟨_, _, pd_2, rfl⟩ rfl rfl rfl (by decide) (by decide) (by decide) (by decide) ?_
    rintro _ T _ ⟨rfl, rfl⟩ A
    show Go p e below _ (T.setTop (mkF m 97 #[.val (.ref r0), .val (.int p0), .val (.int p1), .val (.int v2), .val (.long v6), .second, .unset] [(.int (FU v6)), (.int v9)]))
    obtain ⟨v10, e10⟩ : ∃ v : Int32, (FU v6) = v := ⟨_, rfl⟩
    rw [e10]
    obtain ⟨v11, e11⟩ : ∃ v : Int32, v9 + v10 = v := ⟨_, rfl⟩
    refine A.iadd (q := 98) d7_97 rfl e11 ?_
    refine A.istore (q := 100) (l' := #[.val (.ref r0), .val (.int p0), .val (.int p1), .val (.int v2), .val (.long v6), .second, .val (.int v11)]) d7_98 rfl rfl ?_
    refine A.iload (q := 102) d7_100 rfl rfl ?_
    refine A.iloadN (q := 103) d7_102 rfl rfl ?_
    refine A.callS (q := 106) (w1 := 48) (w2 := 49) (w3 := 50) (w4 := 51) (as := [(.int v11), (.int p1)]) (st := []) (W := 0) d7_103 rfl rfl rfl rfl rfl (rmM l Z a0 hw n0 v11 p1 _) (by decide) ⟨_, _, pd_3, rfl⟩ rfl rfl rfl (by decide) (by decide) (by decide) (by decide) ?_
    rintro _ T _ ⟨rfl, rfl⟩ A
    show Go p e below _ (T.setTop (mkF m 106 #[.val (.ref r0), .val (.int p0), .val (.int p1), .val (.int v2), .val (.long v6), .second, .val (.int v11)] [(.int (FM v11 p1))]))
    obtain ⟨v12, e12⟩ : ∃ v : Int32, (FM v11 p1) = v := ⟨_, rfl⟩
    rw [e12]
    subst e2 e3 e4 e5 e6 e9 e10 e11 e12
    exact A.retI d7_106 (by decide) (by decide) ⟨(by simp only [FF, if_neg h7]), by first | rfl | (simp only [if_neg h7])⟩
  · obtain ⟨v13, e13⟩ : ∃ v : Int32, v2 + Int32.ofInt 1 = v := ⟨_, rfl⟩
    refine A.iinc (q := 47) (l' := #[.val (.ref r0), .val (.int p0), .val (.int p1), .val (.int v13), .val (.long v6), .second, .unset]) d7_44 rfl rfl e13 rfl ?_
    refine A.iloadN (q := 48) d7_47 rfl rfl ?_
    refine A.bipush (q := 50) (v := (6 : Int32)) d7_48 rfl (by decide) ?_
    obtain ⟨v14, e14⟩ : ∃ v : Int32, v13 <<< ((6 : Int32) &&& 31) = v := ⟨_, rfl⟩
    refine A.ishl (q := 51) d7_50 rfl e14 ?_
    refine A.iloadN (q := 52) d7_51 rfl rfl ?_
    refine A.icmp_ge (q := 55) (r := 77) d7_52 rfl (by decide) (fun _ => ?_) (fun h => ((by subst e2 e3 e4 e5 e6 e13 e14; exact hge : ¬ v14 < p1) h).elim)
    refine A.lload (q := 79) d7_77 rfl rfl ?_
    refine A.lconst (q := 80) (v := (0 : Int64)) d7_79 rfl (by decide) ?_
    refine A.lcmp_ne (q := 81) (q2 := 84) (r := 88) d7_80 rfl d7_81 rfl (by decide) (fun h => (h h7).elim) (fun _ => ?_)
    refine A.iloadN (q := 85) d7_84 rfl rfl ?_
    refine A.goto (r := 98) d7_85 (by decide) ?_
    refine A.istore (q := 100) (l' := #[.val (.ref r0), .val (.int p0), .val (.int p1), .val (.int v13), .val (.long v6), .second, .val (.int p1)]) d7_98 rfl rfl ?_
    refine A.iload (q := 102) d7_100 rfl rfl ?_
    refine A.iloadN (q := 103) d7_102 rfl rfl ?_
    refine A.callS (q := 106) (w1 := 48) (w2 := 49) (w3 := 50) (w4 := 51) (as := [(.int p1), (.int p1)]) (st := []) (W := 0) d7_103 rfl rfl rfl rfl rfl (rmM l Z a0 hw n0 p1 p1 _) (by decide) ⟨_, _, pd_3, rfl⟩ rfl rfl rfl (by decide) (by decide) (by decide) (by decide) ?_
    rintro _ T _ ⟨rfl, rfl⟩ A
    show Go p e below _ (T.setTop (mkF m 106 #[.val (.ref r0), .val (.int p0), .val (.int p1), .val (.int v13), .val (.long v6), .second, .val (.int p1)] [(.int (FM p1 p1))]))
    obtain ⟨v17, e17⟩ : ∃ v : Int32, (FM p1 p1) = v := ⟨_, rfl⟩
    rw [e17]
    subst e2 e3 e4 e5 e6 e13 e14 e17
    exact A.retI d7_106 (by decide) (by decide) ⟨(by simp only [FF, if_pos h7]), by first | rfl | (simp only [if_pos h7])⟩
theorem own_r3 {v : Int32} (h : 0 ≤ v.toInt ∧ v.toInt < 3) : v = 0 ∨ v = 1 ∨ v = 2 := by
  have q : v.toInt = (0 : Int32).toInt ∨ v.toInt = (1 : Int32).toInt ∨ v.toInt = (2 : Int32).toInt := by simp only [Int32.reduceToInt]; omega
  exact q.imp Int32.toInt_inj.mp (Or.imp Int32.toInt_inj.mp Int32.toInt_inj.mp)
theorem own_r4 {v : Int32} (h : 0 ≤ v.toInt ∧ v.toInt < 4) : v = 0 ∨ v = 1 ∨ v = 2 ∨ v = 3 := by
  have q : v.toInt = (0 : Int32).toInt ∨ v.toInt = (1 : Int32).toInt ∨ v.toInt = (2 : Int32).toInt ∨ v.toInt = (3 : Int32).toInt := by simp only [Int32.reduceToInt]; omega
  exact q.imp Int32.toInt_inj.mp (Or.imp Int32.toInt_inj.mp (Or.imp Int32.toInt_inj.mp Int32.toInt_inj.mp))
theorem own_r5 {v : Int32} (h : 0 ≤ v.toInt ∧ v.toInt < 5) : v = 0 ∨ v = 1 ∨ v = 2 ∨ v = 3 ∨ v = 4 := by
  have q : v.toInt = (0 : Int32).toInt ∨ v.toInt = (1 : Int32).toInt ∨ v.toInt = (2 : Int32).toInt ∨ v.toInt = (3 : Int32).toInt ∨ v.toInt = (4 : Int32).toInt := by simp only [Int32.reduceToInt]; omega
  exact q.imp Int32.toInt_inj.mp (Or.imp Int32.toInt_inj.mp (Or.imp Int32.toInt_inj.mp (Or.imp Int32.toInt_inj.mp Int32.toInt_inj.mp)))
theorem own_and3 (x : Int32) : x &&& (3 : Int32) = 0 ∨ x &&& (3 : Int32) = 1 ∨ x &&& (3 : Int32) = 2 ∨ x &&& (3 : Int32) = 3 :=
  own_r4 (by have h := c_mask x 3 2 (by decide) (by decide); omega)
theorem own_mod3 (x : Int32) : (x &&& (2147483647 : Int32)) % (3 : Int32) = 0 ∨ (x &&& (2147483647 : Int32)) % (3 : Int32) = 1 ∨ (x &&& (2147483647 : Int32)) % (3 : Int32) = 2 :=
  own_r3 (by
    have h1 := c_mask x 2147483647 31 (by decide) (by decide)
    have h2 := c_irem (x &&& (2147483647 : Int32)) 3 3 (by decide)
    omega)
theorem own_mod5 (x : Int32) : (x &&& (2147483647 : Int32)) % (5 : Int32) = 0 ∨ (x &&& (2147483647 : Int32)) % (5 : Int32) = 1 ∨ (x &&& (2147483647 : Int32)) % (5 : Int32) = 2 ∨ (x &&& (2147483647 : Int32)) % (5 : Int32) = 3 ∨ (x &&& (2147483647 : Int32)) % (5 : Int32) = 4 :=
  own_r5 (by
    have h1 := c_mask x 2147483647 31 (by decide) (by decide)
    have h2 := c_irem (x &&& (2147483647 : Int32)) 5 5 (by decide)
    omega)
theorem own_r2 {v : Int32} (h : 0 ≤ v.toInt ∧ v.toInt < 2) : v = 0 ∨ v = 1 := by
  have q : v.toInt = (0 : Int32).toInt ∨ v.toInt = (1 : Int32).toInt := by simp only [Int32.reduceToInt]; omega
  exact q.imp Int32.toInt_inj.mp Int32.toInt_inj.mp
theorem own_r1 {v : Int32} (h : 0 ≤ v.toInt ∧ v.toInt < 1) : v = 0 := by
  have q : v.toInt = (0 : Int32).toInt := by simp only [Int32.reduceToInt]; omega
  exact Int32.toInt_inj.mp q
theorem own_modb (x k : Int32) (d : Int) (hk : k.toInt = d) (hd : 0 < d) : 0 ≤ ((x &&& (2147483647 : Int32)) % k).toInt ∧ ((x &&& (2147483647 : Int32)) % k).toInt < d := by
  have h1 := c_mask x 2147483647 31 (by decide) (by decide)
  have h2 := (c_irem (x &&& (2147483647 : Int32)) k d hk).1 (by omega)
  rw [h2]
  exact ⟨Int.emod_nonneg _ (by omega), Int.emod_lt_of_pos _ hd⟩
theorem own_nb (x : Int32) : nar .byte (x.toInt8.toInt32) = x.toInt8.toInt32 := by
  have h1 := c_i2b x
  have h2 := c_i2b (x.toInt8.toInt32)
  refine Int32.toInt_inj.mp ?_
  show (x.toInt8.toInt32).toInt8.toInt32.toInt = _
  omega

theorem own_em (p : Prop) : p = True ∨ p = False := Classical.propComplete p
theorem own_n (rg : Int32) : 2 ≤ ((rg &&& (127 : Int32)) + (2 : Int32)).toInt ∧ ((rg &&& (127 : Int32)) + (2 : Int32)).toInt ≤ 129 := by
  have h1 := c_mask rg 127 7 (by decide) (by decide)
  have h2 := c_iadd (rg &&& (127 : Int32)) 2
  have h3 := rng32 ((rg &&& (127 : Int32)) + (2 : Int32))
  simp only [Int32.reduceToInt] at h2
  omega
theorem own_n0 (rg : Int32) : (rg &&& (127 : Int32)) + (2 : Int32) ≠ 0 := fun h => by
  have q := (own_n rg).1
  rw [h] at q; exact absurd q (by decide)
theorem own_nm (n : Int32) (hn : 2 ≤ n.toInt ∧ n.toInt ≤ 129) : (n - (1 : Int32)).toInt = n.toInt - 1 := by
  have h2 := c_isub n 1
  have h3 := rng32 (n - (1 : Int32))
  simp only [Int32.reduceToInt] at h2
  omega
theorem own_n1 (rg : Int32) : (rg &&& (127 : Int32)) + (2 : Int32) - (1 : Int32) ≠ 0 := fun h => by
  have q := own_nm _ (own_n rg)
  have q2 := (own_n rg).1
  rw [h] at q
  simp only [Int32.reduceToInt] at q
  omega
theorem own_p (rg x : Int32) : 0 ≤ ((x &&& (2147483647 : Int32)) % ((rg &&& (127 : Int32)) + (2 : Int32))).toInt ∧ ((x &&& (2147483647 : Int32)) % ((rg &&& (127 : Int32)) + (2 : Int32))).toInt < ((rg &&& (127 : Int32)) + (2 : Int32)).toInt :=
  own_modb _ _ _ rfl (by have := own_n rg; omega)
theorem own_q (rg a b : Int32) : 0 ≤ (((a &&& (2147483647 : Int32)) % ((rg &&& (127 : Int32)) + (2 : Int32)) + (1 : Int32) + (b &&& (2147483647 : Int32)) % ((rg &&& (127 : Int32)) + (2 : Int32) - (1 : Int32))) % ((rg &&& (127 : Int32)) + (2 : Int32))).toInt ∧ (((a &&& (2147483647 : Int32)) % ((rg &&& (127 : Int32)) + (2 : Int32)) + (1 : Int32) + (b &&& (2147483647 : Int32)) % ((rg &&& (127 : Int32)) + (2 : Int32) - (1 : Int32))) % ((rg &&& (127 : Int32)) + (2 : Int32))).toInt < ((rg &&& (127 : Int32)) + (2 : Int32)).toInt := by
  have h0 := own_n rg
  have h1 := own_p rg a
  have hm := own_nm _ h0
  have h2 := own_modb b _ _ (rfl : ((rg &&& (127 : Int32)) + (2 : Int32) - (1 : Int32)).toInt = _) (by omega)
  generalize (rg &&& (127 : Int32)) + (2 : Int32) = n at *
  generalize (a &&& (2147483647 : Int32)) % n = p at *
  generalize (b &&& (2147483647 : Int32)) % (n - (1 : Int32)) = r at *
  have h3 := c_iadd p 1
  have h4 := rng32 (p + (1 : Int32))
  simp only [Int32.reduceToInt] at h3
  have h5 := c_iadd (p + (1 : Int32)) r
  have h6 := rng32 (p + (1 : Int32) + r)
  have h7 := (c_irem (p + (1 : Int32) + r) n n.toInt rfl).1 (by omega)
  rw [h7]
  exact ⟨Int.emod_nonneg _ (by omega), Int.emod_lt_of_pos _ (by omega)⟩
theorem own_wd {n : Int32} (hn : 2 ≤ n.toInt ∧ n.toInt ≤ 129) : ((n + (63 : Int32)) / (64 : Int32)).toInt = (n.toInt + 63) / 64 := by
  have h1 := c_iadd n 63
  have h2 := rng32 (n + (63 : Int32))
  simp only [Int32.reduceToInt] at h1
  have h3 : (n + (63 : Int32)).toInt = n.toInt + 63 := by omega
  have h4 := (c_idiv (n + (63 : Int32)) 64 64 (by decide) (by decide)).1 (by omega)
  rw [h4, h3]
theorem own_i0 {n : Int32} (hn : 2 ≤ n.toInt ∧ n.toInt ≤ 129) : ¬ (n + (63 : Int32)) / (64 : Int32) < 0 := by
  have h := own_wd hn
  rw [Int32.lt_iff_toInt_lt, h]; simp only [Int32.reduceToInt]; omega
theorem own_i3 {n : Int32} (hn : 2 ≤ n.toInt ∧ n.toInt ≤ 129) : ((n + (63 : Int32)) / (64 : Int32)).toNatClampNeg ≤ 3 := by
  have h := own_wd hn
  simp only [Int32.toNatClampNeg, h]; omega
theorem own_wi {x : Int32} (h : 0 ≤ x.toInt) : (ixI x).toInt = x.toInt / 64 := by
  have h1 := c_iushr x 6 6 (by decide) (by decide)
  have h2 := rng32 x
  show ((x.toUInt32 >>> ((6 : Int32) &&& 31).toUInt32).toInt32).toInt = _
  rw [h1]; omega
theorem own_x {n x : Int32} (hn : 2 ≤ n.toInt ∧ n.toInt ≤ 129) (hx : 0 ≤ x.toInt ∧ x.toInt < n.toInt) : ¬ ixI x < 0 ∧ (ixI x).toNatClampNeg < ((n + (63 : Int32)) / (64 : Int32)).toNatClampNeg := by
  have h1 := own_wi hx.1
  have h2 := own_wd hn
  rw [Int32.lt_iff_toInt_lt, h1]
  simp only [Int32.reduceToInt, Int32.toNatClampNeg, h1, h2]; omega
theorem own_s1 {n x : Int32} (hn : 2 ≤ n.toInt ∧ n.toInt ≤ 129) (hx : 0 ≤ x.toInt ∧ x.toInt < n.toInt) : (x + (1 : Int32)).toInt = x.toInt + 1 := by
  have h1 := c_iadd x 1
  have h2 := rng32 (x + (1 : Int32))
  simp only [Int32.reduceToInt] at h1
  omega
theorem own_lt {n x : Int32} (hn : 2 ≤ n.toInt ∧ n.toInt ≤ 129) (hx : 0 ≤ x.toInt ∧ x.toInt < n.toInt) : x < x + (1 : Int32) := by
  rw [Int32.lt_iff_toInt_lt, own_s1 hn hx]; omega
theorem own_ge {n x : Int32} (hn : 2 ≤ n.toInt ∧ n.toInt ≤ 129) (hx : 0 ≤ x.toInt ∧ x.toInt < n.toInt) : ¬ (ixI x + Int32.ofInt 1) <<< ((6 : Int32) &&& 31) < x + (1 : Int32) := by
  have h1 := own_wi hx.1
  have h2 := own_s1 hn hx
  have h3 := c_iadd (ixI x) (Int32.ofInt 1)
  have h4 := rng32 (ixI x + Int32.ofInt 1)
  have h5 : (Int32.ofInt 1).toInt = 1 := by decide
  have h6 := c_ishl (ixI x + Int32.ofInt 1) 6 6 (by decide)
  have h7 := rng32 ((ixI x + Int32.ofInt 1) <<< ((6 : Int32) &&& 31))
  rw [Int32.lt_iff_toInt_lt]
  omega
def wi (x : Int32) : Nat := (ixI x).toNatClampNeg
def bt (x : Int32) : Int64 := (1 : Int64) <<< (x &&& 0x3f).toInt64
def put (l : List Int64) (x : Int32) : List Int64 := l.set (wi x) (l.getD (wi x) 0 ||| bt x)
def kb (x : Int32) : Nat := x.toInt.toNat % 64
def tb (x : Int64) (k : Nat) : Bool := x.toBitVec.getLsbD k
theorem own_wn {x : Int32} (h : 0 ≤ x.toInt) : wi x = x.toInt.toNat / 64 := by
  show (ixI x).toInt.toNat = _
  rw [own_wi h]; omega
theorem own_tn {x : Int32} (h : 0 ≤ x.toInt) : x.toBitVec.toNat = x.toInt.toNat := by
  have e : x.toInt = x.toBitVec.toInt := rfl
  have h' : 0 ≤ x.toBitVec.toInt := h
  rw [e]
  rw [BitVec.toInt_eq_toNat_cond] at h' ⊢
  have := x.toBitVec.isLt
  by_cases hk : 2 * x.toBitVec.toNat < 2 ^ 32
  · rw [if_pos hk] at h' ⊢; omega
  · rw [if_neg hk] at h' ⊢; omega
theorem own_bt {x : Int32} (h : 0 ≤ x.toInt) : (bt x).toBitVec = BitVec.twoPow 64 (kb x) := by
  have h1 : x.toBitVec.toNat % 64 = kb x := by rw [own_tn h]; rfl
  show ((1 : Int64).toBitVec <<< ((x &&& 0x3f).toInt64.toBitVec.smod 64)) = _
  rw [BitVec.shiftLeft_eq', (sm64 x _ h1).1, smod64 _ (sm64 x _ h1).2]
  rfl
theorem own_tb {x : Int32} (h : 0 ≤ x.toInt) (k : Nat) : tb (bt x) k = decide (kb x = k) := by
  unfold tb
  rw [own_bt h, BitVec.getLsbD_twoPow]
  have : kb x < 64 := Nat.mod_lt _ (by decide)
  simp [this]
theorem own_same {x s : Int32} (hx : 0 ≤ x.toInt) (hs : 0 ≤ s.toInt) : (wi x = wi s ∧ kb x = kb s) ↔ x = s := by
  rw [own_wn hx, own_wn hs]
  unfold kb
  constructor
  · rintro ⟨h1, h2⟩
    refine Int32.toInt_inj.mp ?_
    omega
  · rintro rfl; exact ⟨rfl, rfl⟩
theorem own_put (l : List Int64) {x s : Int32} (hx : 0 ≤ x.toInt) (hs : 0 ≤ s.toInt) (hl : wi x < l.length) : tb ((put l x).getD (wi s) 0) (kb s) = (tb (l.getD (wi s) 0) (kb s) || decide (x = s)) := by
  unfold put
  by_cases h : wi x = wi s
  · have e : (l.set (wi x) (l.getD (wi x) 0 ||| bt x)).getD (wi s) 0 = l.getD (wi s) 0 ||| bt x := by
      rw [← h, List.getD_eq_getElem?_getD, List.getElem?_set_self hl]; rfl
    rw [e]
    show (l.getD (wi s) 0 ||| bt x).toBitVec.getLsbD (kb s) = _
    rw [Int64.toBitVec_or, BitVec.getLsbD_or]
    show (tb (l.getD (wi s) 0) (kb s) || tb (bt x) (kb s)) = _
    rw [own_tb hx]
    congr 1
    have := own_same hx hs
    by_cases hk : kb x = kb s
    · have : x = s := this.mp ⟨h, hk⟩
      simp [hk, this]
    · have : ¬ x = s := fun e => hk (this.mpr e).2
      simp [hk, this]
  · have e : (l.set (wi x) (l.getD (wi x) 0 ||| bt x)).getD (wi s) 0 = l.getD (wi s) 0 := by
      rw [List.getD_eq_getElem?_getD, List.getElem?_set_ne h, ← List.getD_eq_getElem?_getD]
    have hne : ¬ x = s := fun e => h ((own_same hx hs).mpr e).1
    rw [e]; simp [hne]
theorem own_rep (n k : Nat) (w : Nat) : tb ((List.replicate n (0 : Int64)).getD w 0) k = false := by
  have : (List.replicate n (0 : Int64)).getD w 0 = 0 := by
    rw [List.getD_eq_getElem?_getD, List.getElem?_replicate]
    split <;> rfl
  rw [this]
  show (0 : Int64).toBitVec.getLsbD k = false
  have : (0 : Int64).toBitVec = 0#64 := by decide
  rw [this, BitVec.getLsbD_zero]
theorem own_len (l : List Int64) (x : Int32) : (put l x).length = l.length := by unfold put; rw [List.length_set]
theorem own_bit64 (x m : Int64) (k : Nat) (hk : k < 64) (hm : m.toBitVec = BitVec.twoPow 64 k) : x &&& m = 0 ↔ tb x k = false := by
  unfold tb
  rw [← Int64.toBitVec_inj, Int64.toBitVec_and, hm, BitVec.and_twoPow]
  have z : (0 : Int64).toBitVec = 0#64 := by decide
  rw [z]
  cases x.toBitVec.getLsbD k
  · simp
  · simp only [↓reduceIte, Bool.true_eq_false, iff_false]
    intro h
    have := congrArg (fun z => z.getLsbD k) h
    simp [hk] at this
theorem own_FE {s : Int32} (hs : 0 ≤ s.toInt) (es : List Int64) : FE s es = if tb (es.getD (wi s) 0) (kb s) = true then 1 else 0 := by
  have h := own_bit64 (es.getD (wi s) 0) (bt s) (kb s) (Nat.mod_lt _ (by decide)) (own_bt hs)
  show (if es.getD (wi s) 0 &&& bt s = 0 then (0 : Int32) else 1) = _
  cases hb : tb (es.getD (wi s) 0) (kb s)
  · rw [if_pos (h.mpr hb)]; rfl
  · rw [if_neg (fun q => by rw [h.mp q] at hb; cases hb)]; rfl
theorem own_E {n p q s m1 m2 : Int32} (hn : 2 ≤ n.toInt ∧ n.toInt ≤ 129) (hp : 0 ≤ p.toInt ∧ p.toInt < n.toInt) (hq : 0 ≤ q.toInt ∧ q.toInt < n.toInt) (hs : 0 ≤ s.toInt ∧ s.toInt < n.toInt) (es : List Int64)
    (he : es = if m2 = (0 : Int32) then (if m1 = (0 : Int32) then List.replicate ((n + (63 : Int32)) / (64 : Int32)).toNatClampNeg (0 : Int64) else put (List.replicate ((n + (63 : Int32)) / (64 : Int32)).toNatClampNeg (0 : Int64)) p) else put (if m1 = (0 : Int32) then List.replicate ((n + (63 : Int32)) / (64 : Int32)).toNatClampNeg (0 : Int64) else put (List.replicate ((n + (63 : Int32)) / (64 : Int32)).toNatClampNeg (0 : Int64)) p) q) :
    tb (es.getD (wi s) 0) (kb s) = ((!decide (m1 = (0 : Int32)) && decide (p = s)) || (!decide (m2 = (0 : Int32)) && decide (q = s))) := by
  have l1 : wi p < (List.replicate ((n + (63 : Int32)) / (64 : Int32)).toNatClampNeg (0 : Int64)).length := by rw [List.length_replicate]; exact (own_x hn hp).2
  have l2 : wi q < (List.replicate ((n + (63 : Int32)) / (64 : Int32)).toNatClampNeg (0 : Int64)).length := by rw [List.length_replicate]; exact (own_x hn hq).2
  subst he
  by_cases a : m1 = (0 : Int32) <;> by_cases b : m2 = (0 : Int32)
  · simp only [a, b, ↓reduceIte]; rw [own_rep]; simp
  · simp only [a, b, ↓reduceIte]; rw [own_put _ hq.1 hs.1 l2, own_rep]; simp
  · simp only [a, b, ↓reduceIte]; rw [own_put _ hp.1 hs.1 l1, own_rep]; simp
  · simp only [a, b, ↓reduceIte]; rw [own_put _ hq.1 hs.1 (by rw [own_len]; exact l2), own_put _ hp.1 hs.1 l1, own_rep]; simp
theorem own_D {n p q s : Int32} (hn : 2 ≤ n.toInt ∧ n.toInt ≤ 129) (hp : 0 ≤ p.toInt ∧ p.toInt < n.toInt) (hq : 0 ≤ q.toInt ∧ q.toInt < n.toInt) (hs : 0 ≤ s.toInt ∧ s.toInt < n.toInt) :
    tb ((put (put (List.replicate ((n + (63 : Int32)) / (64 : Int32)).toNatClampNeg (0 : Int64)) p) q).getD (wi s) 0) (kb s) = (decide (p = s) || decide (q = s)) := by
  have l1 : wi p < (List.replicate ((n + (63 : Int32)) / (64 : Int32)).toNatClampNeg (0 : Int64)).length := by rw [List.length_replicate]; exact (own_x hn hp).2
  have l2 : wi q < (List.replicate ((n + (63 : Int32)) / (64 : Int32)).toNatClampNeg (0 : Int64)).length := by rw [List.length_replicate]; exact (own_x hn hq).2
  rw [own_put _ hq.1 hs.1 (by rw [own_len]; exact l2), own_put _ hp.1 hs.1 l1, own_rep]; simp
theorem own_187 {n p q s m1 m2 : Int32} (hn : 2 ≤ n.toInt ∧ n.toInt ≤ 129) (hp : 0 ≤ p.toInt ∧ p.toInt < n.toInt) (hq : 0 ≤ q.toInt ∧ q.toInt < n.toInt) (hs : 0 ≤ s.toInt ∧ s.toInt < n.toInt) :
    FE s (if m2 = (0 : Int32) then (if m1 = (0 : Int32) then List.replicate ((n + (63 : Int32)) / (64 : Int32)).toNatClampNeg (0 : Int64) else put (List.replicate ((n + (63 : Int32)) / (64 : Int32)).toNatClampNeg (0 : Int64)) p) else put (if m1 = (0 : Int32) then List.replicate ((n + (63 : Int32)) / (64 : Int32)).toNatClampNeg (0 : Int64) else put (List.replicate ((n + (63 : Int32)) / (64 : Int32)).toNatClampNeg (0 : Int64)) p) q)
      = (if s = p then (if m1 = (0 : Int32) then (if s = q then (if m2 = (0 : Int32) then (0 : Int32) else (1 : Int32)) else (0 : Int32)) else (1 : Int32)) else (if s = q then (if m2 = (0 : Int32) then (0 : Int32) else (1 : Int32)) else (0 : Int32))) := by
  rw [own_FE hs.1, own_E hn hp hq hs _ rfl]
  have e1 : (p = s) ↔ (s = p) := eq_comm
  have e2 : (q = s) ↔ (s = q) := eq_comm
  rcases own_em (s = p) with a | a <;> rcases own_em (s = q) with b | b <;> rcases own_em (m1 = (0 : Int32)) with d | d <;> rcases own_em (m2 = (0 : Int32)) with e | e <;> simp [e1, e2, a, b, d, e]
def FTm (i : Int32) : Int32 := (if (0 : Int32) < i then (let j7 : Int32 := (if (65536 : Int32) < i then ((i.toUInt32 >>> ((16 : Int32) &&& 31).toUInt32).toInt32) else i); let j8 : Int32 := (if (65536 : Int32) < i then (17 : Int32) else (1 : Int32)); let j13 : Int32 := (if (256 : Int32) < j7 then ((j7.toUInt32 >>> ((8 : Int32) &&& 31).toUInt32).toInt32) else j7); let j14 : Int32 := (if (256 : Int32) < j7 then (j8 + Int32.ofInt 8) else j8); let j19 : Int32 := (if (16 : Int32) < j13 then ((j13.toUInt32 >>> ((4 : Int32) &&& 31).toUInt32).toInt32) else j13); let j20 : Int32 := (if (16 : Int32) < j13 then (j14 + Int32.ofInt 4) else j14); let j25 : Int32 := (if (4 : Int32) < j19 then ((j19.toUInt32 >>> ((2 : Int32) &&& 31).toUInt32).toInt32) else j19); let j26 : Int32 := (if (4 : Int32) < j19 then (j20 + Int32.ofInt 2) else j20); let v28 : Int32 := (j25.toUInt32 >>> ((1 : Int32) &&& 31).toUInt32).toInt32; let v29 : Int32 := j26 + v28; v29) else i &&& (32 : Int32))
theorem own_FTm : ∀ t : Fin 32, FTm (Int32.ofNat (2 ^ t.val - 1)) = Int32.ofNat t.val := by decide +kernel
theorem own_nat (t m i : Nat) (ht : t < 32) (hX : 2 ^ t * (2 * m + 1) < 2 ^ 32) : ((2 ^ 32 - 1 - 2 ^ t * (2 * m + 1)) &&& (2 ^ t * (2 * m + 1) - 1)) = 2 ^ t - 1 := by
  have hP : 0 < 2 ^ t := Nat.two_pow_pos t
  refine Nat.eq_of_testBit_eq fun i => ?_
  have e1 : 2 ^ 32 - 1 - 2 ^ t * (2 * m + 1) = 2 ^ 32 - (2 ^ t * (2 * m + 1) + 1) := by omega
  have e2 : 2 ^ t * (2 * m + 1) - 1 = 2 ^ t * (2 * m) + (2 ^ t - 1) := by rw [Nat.mul_add, Nat.mul_one]; omega
  rw [Nat.testBit_and, e1, Nat.testBit_two_pow_sub_succ hX, e2, Nat.testBit_two_pow_mul_add _ (by omega), Nat.testBit_two_pow_mul, Nat.testBit_two_pow_sub_one]
  by_cases h : i < t
  · have h2 : i < 32 := by omega
    have h3 : ¬ t ≤ i := by omega
    simp [h, h2, h3]
  · have h3 : t ≤ i := by omega
    simp only [h, ↓reduceIte, decide_false]
    obtain ⟨j, hj⟩ : ∃ j, i - t = j := ⟨_, rfl⟩
    rw [hj]
    cases j with
    | zero => simp [h3]
    | succ j =>
      rw [Nat.testBit_succ, Nat.testBit_succ]
      have a1 : (2 * m + 1) / 2 = m := by omega
      have a2 : (2 * m) / 2 = m := by omega
      rw [a1, a2]
      cases m.testBit j <;> simp [h3]
theorem own_FT (x : Int32) (t m : Nat) (ht : t < 32) (h : x.toBitVec.toNat = 2 ^ t * (2 * m + 1)) : FT x = Int32.ofNat t := by
  have hX := x.toBitVec.isLt
  rw [h] at hX
  have hP : 0 < 2 ^ t := Nat.two_pow_pos t
  have hpos : 0 < 2 ^ t * (2 * m + 1) := Nat.mul_pos hP (by omega)
  have hm : (x ^^^ (-1 : Int32)) &&& (x - (1 : Int32)) = Int32.ofNat (2 ^ t - 1) := by
    refine Int32.toBitVec_inj.mp (BitVec.eq_of_toNat_eq ?_)
    have e0 : (x ^^^ (-1 : Int32)).toBitVec = ~~~ x.toBitVec := by
      rw [Int32.toBitVec_xor, show (-1 : Int32).toBitVec = BitVec.allOnes 32 by decide, BitVec.xor_allOnes]
    have e1 : (x - (1 : Int32)).toBitVec.toNat = x.toBitVec.toNat - 1 := by
      rw [Int32.toBitVec_sub, show (1 : Int32).toBitVec = 1#32 by decide, BitVec.toNat_sub_of_le (by rw [BitVec.le_def, h]; show 1 ≤ _; omega)]
      rfl
    rw [Int32.toBitVec_and, e0, BitVec.toNat_and, e1, BitVec.toNat_not, h, own_nat t m 0 ht hX]
    show _ = (BitVec.ofNat 32 (2 ^ t - 1)).toNat
    rw [BitVec.toNat_ofNat, Nat.mod_eq_of_lt]
    have : 2 ^ t ≤ 2 ^ 31 := Nat.pow_le_pow_right (by decide) (by omega)
    omega
  have e : FT x = FTm ((x ^^^ (-1 : Int32)) &&& (x - (1 : Int32))) := rfl
  rw [e, hm]
  exact own_FTm ⟨t, ht⟩
theorem own_low (b : Int64) : b.toInt32.toBitVec.toNat = b.toBitVec.toNat % 4294967296 := by
  have h1 := c_l2i b
  have e1 : b.toInt32.toInt = b.toInt32.toBitVec.toInt := rfl
  have e2 : b.toInt = b.toBitVec.toInt := rfl
  rw [e1, e2, BitVec.toInt_eq_toNat_cond, BitVec.toInt_eq_toNat_cond] at h1
  have := b.toInt32.toBitVec.isLt
  have := b.toBitVec.isLt
  split at h1 <;> split at h1 <;> omega
theorem own_high (b : Int64) : ((b.toUInt64 >>> ((32 : Int32) &&& 0x3f).toInt64.toUInt64).toInt64).toInt32.toBitVec.toNat = b.toBitVec.toNat / 4294967296 := by
  have h1 := c_lushr b 32 32 (by decide) (by decide)
  rw [own_low]
  generalize (b.toUInt64 >>> ((32 : Int32) &&& 0x3f).toInt64.toUInt64).toInt64 = d at *
  have e1 : d.toInt = d.toBitVec.toInt := rfl
  have e2 : b.toInt = b.toBitVec.toInt := rfl
  rw [e1, e2, BitVec.toInt_eq_toNat_cond, BitVec.toInt_eq_toNat_cond] at h1
  have := d.toBitVec.isLt
  have := b.toBitVec.isLt
  split at h1 <;> split at h1 <;> omega
theorem own_FU (b : Int64) (t m : Nat) (ht : t < 64) (h : b.toBitVec.toNat = 2 ^ t * (2 * m + 1)) : FU b = Int32.ofNat t := by
  have hl := own_low b
  have hh := own_high b
  unfold FU
  by_cases h32 : t < 32
  · have e : (2 : Nat) ^ 32 = 2 ^ t * 2 ^ (32 - t) := by rw [← Nat.pow_add]; congr 1; omega
    have e2 : (2 : Nat) ^ (32 - t) = 2 * 2 ^ (31 - t) := by rw [← Nat.pow_succ']; congr 1; omega
    have k : b.toInt32.toBitVec.toNat = 2 ^ t * (2 * (((2 * m + 1) % 2 ^ (32 - t)) / 2) + 1) := by
      rw [hl, h, show (4294967296 : Nat) = 2 ^ 32 by decide, e, Nat.mul_mod_mul_left]
      congr 1
      rw [e2]
      have : ((2 * m + 1) % (2 * 2 ^ (31 - t))) % 2 = 1 := by rw [Nat.mod_mul_right_mod]; omega
      omega
    have nz : ¬ b.toInt32 = 0 := fun z => by
      have : b.toInt32.toBitVec.toNat = 0 := by rw [z]; rfl
      rw [this] at k
      have hP : 0 < 2 ^ t := Nat.two_pow_pos t
      have := Nat.mul_pos hP (show 0 < 2 * (((2 * m + 1) % 2 ^ (32 - t)) / 2) + 1 by omega)
      omega
    rw [if_neg nz]
    exact own_FT _ t _ h32 k
  · have e : (2 : Nat) ^ t = 4294967296 * 2 ^ (t - 32) := by
      rw [show (4294967296 : Nat) = 2 ^ 32 by decide, ← Nat.pow_add]; congr 1; omega
    rw [e, Nat.mul_assoc] at h
    have z : b.toInt32 = 0 := by
      refine Int32.toBitVec_inj.mp (BitVec.eq_of_toNat_eq ?_)
      rw [hl, h, Nat.mul_mod_right]; rfl
    have k : ((b.toUInt64 >>> ((32 : Int32) &&& 0x3f).toInt64.toUInt64).toInt64).toInt32.toBitVec.toNat = 2 ^ (t - 32) * (2 * m + 1) := by
      rw [hh, h, Nat.mul_div_cancel_left _ (by decide)]
    rw [if_pos z, own_FT _ (t - 32) m (by omega) k]
    have : ∀ u : Fin 32, (32 : Int32) + Int32.ofNat u.val = Int32.ofNat (u.val + 32) := by decide +kernel
    have q := this ⟨t - 32, by omega⟩
    rw [q]
    congr 1
    show t - 32 + 32 = t
    omega
theorem own_split : ∀ (n N : Nat), N ≤ n → 0 < N → ∃ t m, N = 2 ^ t * (2 * m + 1)
  | 0, N, h, h0 => by omega
  | n + 1, N, h, h0 => by
    by_cases o : N % 2 = 1
    · exact ⟨0, N / 2, by omega⟩
    · obtain ⟨t, m, e⟩ := own_split n (N / 2) (by omega) (by omega)
      refine ⟨t + 1, m, ?_⟩
      rw [Nat.pow_succ, Nat.mul_comm (2 ^ t) 2, Nat.mul_assoc, ← e]
      omega
theorem own_odd (t m : Nat) : (2 ^ t * (2 * m + 1)).testBit t = true := by
  rw [Nat.testBit_two_pow_mul]
  simp
theorem own_bits (N k : Nat) (h1 : ∀ j, j < k → N.testBit j = false) (h2 : N.testBit k = true) : N = 2 ^ k * (2 * (N / 2 ^ k / 2) + 1) := by
  have z : N % 2 ^ k = 0 := by
    refine Nat.eq_of_testBit_eq fun i => ?_
    rw [Nat.testBit_mod_two_pow, Nat.zero_testBit]
    by_cases hi : i < k
    · rw [h1 i hi]; simp
    · simp [hi]
  rw [Nat.testBit_eq_decide_div_mod_eq, decide_eq_true_iff] at h2
  have e := Nat.div_add_mod N (2 ^ k)
  have o : 2 * (N / 2 ^ k / 2) + 1 = N / 2 ^ k := by omega
  rw [o]
  omega
def Bs (D E : Int64) (s : Int32) : Int64 := ((D ^^^ (-1 : Int64)) ||| E) &&& ((-1 : Int64) <<< (s &&& 0x3f).toInt64)
theorem own_B {s : Int32} (hs : 0 ≤ s.toInt) (D E : Int64) (j : Nat) (hj : j < 64) : tb (Bs D E s) j = (decide (kb s ≤ j) && (!tb D j || tb E j)) := by
  have h1 : s.toBitVec.toNat % 64 = kb s := by rw [own_tn hs]; rfl
  have e1 : ((-1 : Int64) <<< (s &&& 0x3f).toInt64).toBitVec = BitVec.allOnes 64 <<< kb s := by
    show ((-1 : Int64).toBitVec <<< ((s &&& 0x3f).toInt64.toBitVec.smod 64)) = _
    rw [BitVec.shiftLeft_eq', (sm64 s _ h1).1, smod64 _ (sm64 s _ h1).2, show (-1 : Int64).toBitVec = BitVec.allOnes 64 by decide]
  have e2 : (D ^^^ (-1 : Int64)).toBitVec = ~~~ D.toBitVec := by
    rw [Int64.toBitVec_xor, show (-1 : Int64).toBitVec = BitVec.allOnes 64 by decide, BitVec.xor_allOnes]
  unfold tb Bs
  rw [Int64.toBitVec_and, Int64.toBitVec_or, e1, e2, BitVec.getLsbD_and, BitVec.getLsbD_or, BitVec.getLsbD_not, BitVec.getLsbD_shiftLeft, BitVec.getLsbD_allOnes]
  by_cases q : j < kb s
  · have q2 : ¬ kb s ≤ j := by omega
    simp [q, q2]
  · have q2 : kb s ≤ j := by omega
    have q3 : j - kb s < 64 := by omega
    simp [q, q2, q3, hj]
theorem own_sum {n s : Int32} (hn : 2 ≤ n.toInt ∧ n.toInt ≤ 129) (hs : 0 ≤ s.toInt ∧ s.toInt < n.toInt) (t : Nat) (ht : t < 64) : ((ixI s <<< ((6 : Int32) &&& 31)) + Int32.ofNat t).toInt = 64 * (s.toInt / 64) + t := by
  have h1 := own_wi hs.1
  have h2 := c_ishl (ixI s) 6 6 (by decide)
  have h3 := rng32 (ixI s <<< ((6 : Int32) &&& 31))
  have h4 : (Int32.ofNat t).toInt = t := Int32.toInt_ofNat_of_lt (by omega)
  have h5 := c_iadd (ixI s <<< ((6 : Int32) &&& 31)) (Int32.ofNat t)
  have h6 := rng32 ((ixI s <<< ((6 : Int32) &&& 31)) + Int32.ofNat t)
  omega
theorem own_FF {n s : Int32} (hn : 2 ≤ n.toInt ∧ n.toInt ≤ 129) (hs : 0 ≤ s.toInt ∧ s.toInt < n.toInt) (ds es : List Int64) :
    FF s (s + (1 : Int32)) ds es = if (!tb (ds.getD (wi s) 0) (kb s) || tb (es.getD (wi s) 0) (kb s)) = true then s else s + (1 : Int32) := by
  have s1 := own_s1 hn hs
  have hk : kb s < 64 := Nat.mod_lt _ (by decide)
  have e : FF s (s + (1 : Int32)) ds es = if Bs (ds.getD (wi s) 0) (es.getD (wi s) 0) s = 0 then FM (s + (1 : Int32)) (s + (1 : Int32)) else FM ((ixI s <<< ((6 : Int32) &&& 31)) + FU (Bs (ds.getD (wi s) 0) (es.getD (wi s) 0) s)) (s + (1 : Int32)) := rfl
  rw [e]
  have hB := own_B hs.1 (ds.getD (wi s) 0) (es.getD (wi s) 0)
  generalize ds.getD (wi s) 0 = D at *
  generalize es.getD (wi s) 0 = E at *
  generalize Bs D E s = B at *
  have tbN : ∀ j, tb B j = B.toBitVec.toNat.testBit j := fun j => rfl
  have kbd : (kb s : Int) = s.toInt % 64 := by unfold kb; omega
  by_cases g : (!tb D (kb s) || tb E (kb s)) = true
  · rw [if_pos g]
    have b1 : tb B (kb s) = true := by rw [hB _ hk, g]; simp
    have b0 : ∀ j, j < kb s → tb B j = false := fun j hj => by
      rw [hB _ (by omega)]
      have : ¬ kb s ≤ j := by omega
      simp [this]
    have nz : ¬ B = 0 := fun z => by
      rw [z] at b1
      have : tb (0 : Int64) (kb s) = false := by
        show (0 : Int64).toBitVec.getLsbD _ = false
        rw [show (0 : Int64).toBitVec = 0#64 by decide, BitVec.getLsbD_zero]
      rw [this] at b1; cases b1
    rw [if_neg nz, own_FU B (kb s) _ hk (own_bits _ _ (fun j hj => by rw [← tbN]; exact b0 j hj) (by rw [← tbN]; exact b1))]
    have v := own_sum hn hs (kb s) hk
    have v2 : (ixI s <<< ((6 : Int32) &&& 31)) + Int32.ofNat (kb s) = s := Int32.toInt_inj.mp (by rw [v, kbd]; omega)
    rw [v2]
    unfold FM
    rw [if_neg (by rw [Int32.lt_iff_toInt_lt, s1]; omega)]
  · rw [if_neg g]
    have gk : tb B (kb s) = false := by
      rw [hB _ hk]
      cases h : (!tb D (kb s) || tb E (kb s))
      · simp
      · exact absurd h g
    by_cases z : B = 0
    · rw [if_pos z]; unfold FM; split <;> rfl
    · rw [if_neg z]
      have hpos : 0 < B.toBitVec.toNat := by
        rcases Nat.eq_zero_or_pos B.toBitVec.toNat with q | q
        · exact absurd (Int64.toBitVec_inj.mp (BitVec.eq_of_toNat_eq (by rw [q]; rfl))) z
        · exact q
      obtain ⟨t, m, ht⟩ := own_split _ _ (Nat.le_refl _) hpos
      have hlt := B.toBitVec.isLt
      have bt' : tb B t = true := by rw [tbN, ht]; exact own_odd t m
      have t64 : t < 64 := by
        rcases Nat.lt_or_ge t 64 with q | q
        · exact q
        · exfalso
          have := Nat.pow_le_pow_right (show 0 < 2 by decide) q
          have h2 : 2 ^ t ≤ 2 ^ t * (2 * m + 1) := Nat.le_mul_of_pos_right _ (by omega)
          omega
      have tk : kb s ≤ t := by
        rw [hB _ t64] at bt'
        simp only [Bool.and_eq_true, decide_eq_true_eq] at bt'
        exact bt'.1
      have tne : t ≠ kb s := fun q => by rw [q, gk] at bt'; cases bt'
      rw [own_FU B t m t64 ht]
      have v := own_sum hn hs t t64
      unfold FM
      by_cases c1 : s + (1 : Int32) < (ixI s <<< ((6 : Int32) &&& 31)) + Int32.ofNat t
      · rw [if_pos c1]
      · rw [if_neg c1]
        rw [Int32.lt_iff_toInt_lt, v, s1] at c1
        refine Int32.toInt_inj.mp ?_
        rw [v, s1]
        have : kb s = s.toInt.toNat % 64 := rfl
        omega
theorem own_203 {n p q s m1 m2 : Int32} (hn : 2 ≤ n.toInt ∧ n.toInt ≤ 129) (hp : 0 ≤ p.toInt ∧ p.toInt < n.toInt) (hq : 0 ≤ q.toInt ∧ q.toInt < n.toInt) (hs : 0 ≤ s.toInt ∧ s.toInt < n.toInt) :
    FF s (s + (1 : Int32)) (put (put (List.replicate ((n + (63 : Int32)) / (64 : Int32)).toNatClampNeg (0 : Int64)) p) q) (if m2 = (0 : Int32) then (if m1 = (0 : Int32) then List.replicate ((n + (63 : Int32)) / (64 : Int32)).toNatClampNeg (0 : Int64) else put (List.replicate ((n + (63 : Int32)) / (64 : Int32)).toNatClampNeg (0 : Int64)) p) else put (if m1 = (0 : Int32) then List.replicate ((n + (63 : Int32)) / (64 : Int32)).toNatClampNeg (0 : Int64) else put (List.replicate ((n + (63 : Int32)) / (64 : Int32)).toNatClampNeg (0 : Int64)) p) q)
      = (if (if s = p then (1 : Int32) else (if s = q then (1 : Int32) else (0 : Int32))) = (0 : Int32) then s else (if (if s = p then (if m1 = (0 : Int32) then (if s = q then (if m2 = (0 : Int32) then (0 : Int32) else (1 : Int32)) else (0 : Int32)) else (1 : Int32)) else (if s = q then (if m2 = (0 : Int32) then (0 : Int32) else (1 : Int32)) else (0 : Int32))) = (0 : Int32) then (s + (1 : Int32)) else s)) := by
  rw [own_FF hn hs, own_D hn hp hq hs, own_E hn hp hq hs _ rfl]
  have e1 : (p = s) ↔ (s = p) := eq_comm
  have e2 : (q = s) ↔ (s = q) := eq_comm
  rcases own_em (s = p) with a | a <;> rcases own_em (s = q) with b | b <;> rcases own_em (m1 = (0 : Int32)) with d | d <;> rcases own_em (m2 = (0 : Int32)) with e | e <;> simp [e1, e2, a, b, d, e]

theorem pd_4 : parseMethodDescriptor "(JI)V" = some ⟨[.long, .int], none⟩ := by decide +kernel
theorem pd_5 : parseMethodDescriptor "(IZ)V" = some ⟨[.int, .boolean], none⟩ := by decide +kernel
theorem pd_6 : parseMethodDescriptor "(I)Z" = some ⟨[.int], some .boolean⟩ := by decide +kernel
theorem pd_7 : parseMethodDescriptor "()J" = some ⟨[], some .long⟩ := by decide +kernel
theorem pn_0 : plainFor (⟨"com/example/capabind/capabind/registry/VerdictsDecidePinLaw", "law", "(JIIIII)Z"⟩ : MethodName) = true := plainFor_of_name (by first | (simp [plainName, overriddenIn]; done) | decide +kernel)
set_option maxRecDepth 65536 in
set_option maxHeartbeats 8000000 in
theorem rm0 (l : Launch) (Z : State) (a0 : Array Value) (hw : ∀ d ∈ tables_1, d.before a0 Z = true) (n0 : Nat) (ver : Int64) (rg a b d fl : Int32) :
    Triple l Z n0 x code 17 (some .boolean) room_1 16 128 [(.long ver), (.int rg), (.int a), (.int b), (.int d), (.int fl)] [] (fun v _ => v = some (.int 1)) := by
  refine Triple.of_body (tbl := tables_1) (a0 := a0) (Ls := #[.val (.long ver), .second, .val (.int rg), .val (.int a), .val (.int b), .val (.int d), .val (.int fl), .unset, .unset, .unset, .unset, .unset, .unset, .unset, .unset, .unset, .unset]) pn_0 hw rfl ?_
  intro p e s m below meth c T A
  refine A.iloadN (q := 1) at_0 rfl rfl ?_
  refine A.bipush (q := 3) (v := (127 : Int32)) at_1 rfl (by decide) ?_
  obtain ⟨v1, e1⟩ : ∃ v : Int32, rg &&& (127 : Int32) = v := ⟨_, rfl⟩
  refine A.iand (q := 4) at_3 rfl e1 ?_
  refine A.iconst (q := 5) (v := (2 : Int32)) at_4 rfl (by decide) ?_
  obtain ⟨v2, e2⟩ : ∃ v : Int32, v1 + (2 : Int32) = v := ⟨_, rfl⟩
  refine A.iadd (q := 6) at_5 rfl e2 ?_
  refine A.istore (q := 8) (l' := #[.val (.long ver), .second, .val (.int rg), .val (.int a), .val (.int b), .val (.int d), .val (.int fl), .val (.int v2), .unset, .unset, .unset, .unset, .unset, .unset, .unset, .unset, .unset]) at_6 rfl rfl ?_
  refine A.iloadN (q := 9) at_8 rfl rfl ?_
  refine A.ldc (q := 11) (v := (2147483647 : Int32)) (w := 0) at_9 rfl rfl ?_
  obtain ⟨v3, e3⟩ : ∃ v : Int32, a &&& (2147483647 : Int32) = v := ⟨_, rfl⟩
  refine A.iand (q := 12) at_11 rfl e3 ?_
  refine A.iload (q := 14) at_12 rfl rfl ?_
  obtain ⟨v4, e4⟩ : ∃ v : Int32, v3 % v2 = v := ⟨_, rfl⟩
  refine A.irem (q := 15) at_14 rfl (by subst e1 e2 e3; exact own_n0 rg) e4 ?_
  refine A.istore (q := 17) (l' := #[.val (.long ver), .second, .val (.int rg), .val (.int a), .val (.int b), .val (.int d), .val (.int fl), .val (.int v2), .val (.int v4), .unset, .unset, .unset, .unset, .unset, .unset, .unset, .unset]) at_15 rfl rfl ?_
  refine A.iload (q := 19) at_17 rfl rfl ?_
  refine A.iconst (q := 20) (v := (1 : Int32)) at_19 rfl (by decide) ?_
  obtain ⟨v5, e5⟩ : ∃ v : Int32, v4 + (1 : Int32) = v := ⟨_, rfl⟩
  refine A.iadd (q := 21) at_20 rfl e5 ?_
  refine A.iload (q := 23) at_21 rfl rfl ?_
  refine A.ldc (q := 25) (v := (2147483647 : Int32)) (w := 0) at_23 rfl rfl ?_
  obtain ⟨v6, e6⟩ : ∃ v : Int32, b &&& (2147483647 : Int32) = v := ⟨_, rfl⟩
  refine A.iand (q := 26) at_25 rfl e6 ?_
  refine A.iload (q := 28) at_26 rfl rfl ?_
  refine A.iconst (q := 29) (v := (1 : Int32)) at_28 rfl (by decide) ?_
  obtain ⟨v7, e7⟩ : ∃ v : Int32, v2 - (1 : Int32) = v := ⟨_, rfl⟩
  refine A.isub (q := 30) at_29 rfl e7 ?_
  obtain ⟨v8, e8⟩ : ∃ v : Int32, v6 % v7 = v := ⟨_, rfl⟩
  refine A.irem (q := 31) at_30 rfl (by subst e1 e2 e3 e4 e5 e6 e7; exact own_n1 rg) e8 ?_
  obtain ⟨v9, e9⟩ : ∃ v : Int32, v5 + v8 = v := ⟨_, rfl⟩
  refine A.iadd (q := 32) at_31 rfl e9 ?_
  refine A.iload (q := 34) at_32 rfl rfl ?_
  obtain ⟨v10, e10⟩ : ∃ v : Int32, v9 % v2 = v := ⟨_, rfl⟩
  refine A.irem (q := 35) at_34 rfl (by subst e1 e2 e3 e4 e5 e6 e7 e8 e9; exact own_n0 rg) e10 ?_
  refine A.istore (q := 37) (l' := #[.val (.long ver), .second, .val (.int rg), .val (.int a), .val (.int b), .val (.int d), .val (.int fl), .val (.int v2), .val (.int v4), .val (.int v10), .unset, .unset, .unset, .unset, .unset, .unset, .unset]) at_35 rfl rfl ?_
  refine A.iload (q := 39) at_37 rfl rfl ?_
  refine A.ldc (q := 41) (v := (2147483647 : Int32)) (w := 0) at_39 rfl rfl ?_
  obtain ⟨v11, e11⟩ : ∃ v : Int32, d &&& (2147483647 : Int32) = v := ⟨_, rfl⟩
  refine A.iand (q := 42) at_41 rfl e11 ?_
  refine A.iload (q := 44) at_42 rfl rfl ?_
  obtain ⟨v12, e12⟩ : ∃ v : Int32, v11 % v2 = v := ⟨_, rfl⟩
  refine A.irem (q := 45) at_44 rfl (by subst e1 e2 e3 e4 e5 e6 e7 e8 e9 e10 e11; exact own_n0 rg) e12 ?_
  refine A.istore (q := 47) (l' := #[.val (.long ver), .second, .val (.int rg), .val (.int a), .val (.int b), .val (.int d), .val (.int fl), .val (.int v2), .val (.int v4), .val (.int v10), .val (.int v12), .unset, .unset, .unset, .unset, .unset, .unset]) at_45 rfl rfl ?_
  have J47_15 : ∀ (T : State) (j15 : Int32), j15 = (if (fl &&& (1 : Int32)) = (0 : Int32) then (0 : Int32) else (1 : Int32)) → Here p l e room_1 s m ([(.long ver), (.int rg), (.int a), (.int b), (.int d), (.int fl)] : List Value).toArray below meth c Z a0 tables_1 x.cls x.name code 17 (some .boolean) n0 T [] 0 0 → Go p e below (EndS below s n0 Z 16 128 (fun v _ => v = some (.int 1))) (T.setTop (mkF m 59 #[.val (.long ver), .second, .val (.int rg), .val (.int a), .val (.int b), .val (.int d), .val (.int fl), .val (.int v2), .val (.int v4), .val (.int v10), .val (.int v12), .unset, .unset, .unset, .unset, .unset, .unset] [(.int j15)])) := by
   intro T j15 ej15 A
   have z_j15 : nar .boolean j15 = j15 := by rw [ej15]; (repeat' split) <;> first | decide | assumption
   refine A.istore (q := 61) (l' := #[.val (.long ver), .second, .val (.int rg), .val (.int a), .val (.int b), .val (.int d), .val (.int fl), .val (.int v2), .val (.int v4), .val (.int v10), .val (.int v12), .val (.int j15), .unset, .unset, .unset, .unset, .unset]) at_59 rfl rfl ?_
   have J61_19 : ∀ (T : State) (j19 : Int32), j19 = (if (fl &&& (2 : Int32)) = (0 : Int32) then (0 : Int32) else (1 : Int32)) → Here p l e room_1 s m ([(.long ver), (.int rg), (.int a), (.int b), (.int d), (.int fl)] : List Value).toArray below meth c Z a0 tables_1 x.cls x.name code 17 (some .boolean) n0 T [] 0 0 → Go p e below (EndS below s n0 Z 16 128 (fun v _ => v = some (.int 1))) (T.setTop (mkF m 73 #[.val (.long ver), .second, .val (.int rg), .val (.int a), .val (.int b), .val (.int d), .val (.int fl), .val (.int v2), .val (.int v4), .val (.int v10), .val (.int v12), .val (.int j15), .unset, .unset, .unset, .unset, .unset] [(.int j19)])) := by
    intro T j19 ej19 A
    have z_j19 : nar .boolean j19 = j19 := by rw [ej19]; (repeat' split) <;> first | decide | assumption
    refine A.istore (q := 75) (l' := #[.val (.long ver), .second, .val (.int rg), .val (.int a), .val (.int b), .val (.int d), .val (.int fl), .val (.int v2), .val (.int v4), .val (.int v10), .val (.int v12), .val (.int j15), .val (.int j19), .unset, .unset, .unset, .unset]) at_73 rfl rfl ?_
    have hn : 2 ≤ v2.toInt ∧ v2.toInt ≤ 129 := by subst e1 e2 e3 e4 e5 e6 e7 e8 e9 e10 e11 e12 ej15 ej19; exact own_n rg
    have hp : 0 ≤ v4.toInt ∧ v4.toInt < v2.toInt := by subst e1 e2 e3 e4 e5 e6 e7 e8 e9 e10 e11 e12 ej15 ej19; exact own_p rg a
    have hq : 0 ≤ v10.toInt ∧ v10.toInt < v2.toInt := by subst e1 e2 e3 e4 e5 e6 e7 e8 e9 e10 e11 e12 ej15 ej19; exact own_q rg a b
    have hs : 0 ≤ v12.toInt ∧ v12.toInt < v2.toInt := by subst e1 e2 e3 e4 e5 e6 e7 e8 e9 e10 e11 e12 ej15 ej19; exact own_p rg d
    refine A.newO (q := 78) (w1 := 1) (w2 := 2) (w3 := 3) (n := 3) (fs := [(("com/example/capabind/capabind/registry/Verdicts", "version", "J"), (.long (0 : Int64))), (("com/example/capabind/capabind/registry/Verdicts", "decided", "[J"), .null), (("com/example/capabind/capabind/registry/Verdicts", "meets", "[J"), .null)]) at_75 rfl rfl rfl rfl (lay_0 Z a0 hw) (by decide) (by decide) (by decide) ?_
    intro T b21 A
    refine A.dup (q := 79) at_78 rfl rfl ?_
    refine A.lloadN (q := 80) at_79 rfl rfl ?_
    refine A.iload (q := 82) at_80 rfl rfl ?_
    refine A.callI (q := 85) (w1 := 4) (w2 := 5) (w3 := 3) (w4 := 6) (a := b21) (as := [(.long ver), (.int v2)]) (st := [(.ref b21)]) (W := 1) at_82 rfl rfl rfl rfl rfl rfl (rmN l Z a0 hw n0 b21 ver v2 _ (own_i0 hn) (own_i3 hn)) (by decide) ⟨_, _, pd_4, rfl⟩ rfl rfl rfl (by decide) (by decide) (by decide) (by decide) ?_
    rintro _ T _ ⟨b22, b23, rfl, rfl⟩ A
    show Go p e below _ (T.setTop (mkF m 85 #[.val (.long ver), .second, .val (.int rg), .val (.int a), .val (.int b), .val (.int d), .val (.int fl), .val (.int v2), .val (.int v4), .val (.int v10), .val (.int v12), .val (.int j15), .val (.int j19), .unset, .unset, .unset, .unset] [(.ref b21)]))
    refine A.astore (q := 87) (l' := #[.val (.long ver), .second, .val (.int rg), .val (.int a), .val (.int b), .val (.int d), .val (.int fl), .val (.int v2), .val (.int v4), .val (.int v10), .val (.int v12), .val (.int j15), .val (.int j19), .val (.ref b21), .unset, .unset, .unset]) at_85 rfl rfl rfl ?_
    refine A.aload (q := 89) at_87 rfl rfl rfl ?_
    refine A.iload (q := 91) at_89 rfl rfl ?_
    refine A.iload (q := 93) at_91 rfl rfl ?_
    have A := A.front (i := 1) rfl rfl
    have A := A.front (i := 2) rfl rfl
    have A := A.front (i := 2) (L' := [(b21, ob0 (.long ver) (.ref b23) (.ref b22)), (b23, .inr (.long, List.map Value.long (List.replicate ((((v2 + (63 : Int32)) / (64 : Int32)))).toNatClampNeg (0 : Int64)))), (b22, .inr (.long, List.map Value.long (List.replicate ((((v2 + (63 : Int32)) / (64 : Int32)))).toNatClampNeg (0 : Int64))))]) rfl rfl
    refine A.callV (q := 96) (i := 0) (w1 := 23) (w2 := 24) (w3 := 3) (w4 := 27) (w5 := 26) (w6 := 25) (a := b21) (as := [(.int v4), (.int j15)]) (st := []) (W := 0) at_93 rfl rfl rfl rfl rfl rfl rfl rfl (rmD l Z a0 hw n0 b21 v4 j15 ver b23 b22 (List.replicate ((((v2 + (63 : Int32)) / (64 : Int32)))).toNatClampNeg (0 : Int64)) (List.replicate ((((v2 + (63 : Int32)) / (64 : Int32)))).toNatClampNeg (0 : Int64)) _ (own_x hn hp).1 (by (repeat' split) <;> simp only [List.length_set, List.length_replicate] <;> exact (own_x hn hp).2) (by (repeat' split) <;> simp only [List.length_set, List.length_replicate] <;> exact (own_x hn hp).2)) (by decide) ⟨_, _, pd_5, rfl⟩ rfl rfl rfl (by decide) (by decide) (by decide) (by decide) ?_
    rintro _ T _ ⟨rfl, rfl⟩ A
    show Go p e below _ (T.setTop (mkF m 96 #[.val (.long ver), .second, .val (.int rg), .val (.int a), .val (.int b), .val (.int d), .val (.int fl), .val (.int v2), .val (.int v4), .val (.int v10), .val (.int v12), .val (.int j15), .val (.int j19), .val (.ref b21), .unset, .unset, .unset] []))
    refine A.aload (q := 98) at_96 rfl rfl rfl ?_
    refine A.iload (q := 100) at_98 rfl rfl ?_
    refine A.iload (q := 102) at_100 rfl rfl ?_
    refine A.callV (q := 105) (i := 0) (w1 := 23) (w2 := 24) (w3 := 3) (w4 := 27) (w5 := 26) (w6 := 25) (a := b21) (as := [(.int v10), (.int j19)]) (st := []) (W := 0) at_102 rfl rfl rfl rfl rfl rfl rfl rfl (rmD l Z a0 hw n0 b21 v10 j19 ver b23 b22 ((List.replicate ((((v2 + (63 : Int32)) / (64 : Int32)))).toNatClampNeg (0 : Int64)).set (((v4.toUInt32 >>> ((6 : Int32) &&& 31).toUInt32).toInt32)).toNatClampNeg (((List.replicate ((((v2 + (63 : Int32)) / (64 : Int32)))).toNatClampNeg (0 : Int64)).getD (((v4.toUInt32 >>> ((6 : Int32) &&& 31).toUInt32).toInt32)).toNatClampNeg (0 : Int64)) ||| ((1 : Int64) <<< (v4 &&& 0x3f).toInt64))) (if j15 = (0 : Int32) then (List.replicate ((((v2 + (63 : Int32)) / (64 : Int32)))).toNatClampNeg (0 : Int64)) else ((List.replicate ((((v2 + (63 : Int32)) / (64 : Int32)))).toNatClampNeg (0 : Int64)).set (((v4.toUInt32 >>> ((6 : Int32) &&& 31).toUInt32).toInt32)).toNatClampNeg (((List.replicate ((((v2 + (63 : Int32)) / (64 : Int32)))).toNatClampNeg (0 : Int64)).getD (((v4.toUInt32 >>> ((6 : Int32) &&& 31).toUInt32).toInt32)).toNatClampNeg (0 : Int64)) ||| ((1 : Int64) <<< (v4 &&& 0x3f).toInt64)))) _ (own_x hn hq).1 (by (repeat' split) <;> simp only [List.length_set, List.length_replicate] <;> exact (own_x hn hq).2) (by (repeat' split) <;> simp only [List.length_set, List.length_replicate] <;> exact (own_x hn hq).2)) (by decide) ⟨_, _, pd_5, rfl⟩ rfl rfl rfl (by decide) (by decide) (by decide) (by decide) ?_
    rintro _ T _ ⟨rfl, rfl⟩ A
    show Go p e below _ (T.setTop (mkF m 105 #[.val (.long ver), .second, .val (.int rg), .val (.int a), .val (.int b), .val (.int d), .val (.int fl), .val (.int v2), .val (.int v4), .val (.int v10), .val (.int v12), .val (.int j15), .val (.int j19), .val (.ref b21), .unset, .unset, .unset] []))
    have J105_26 : ∀ (T : State) (j26 : Int32), j26 = (if v12 = v4 then (1 : Int32) else (if v12 = v10 then (1 : Int32) else (0 : Int32))) → Here p l e room_1 s m ([(.long ver), (.int rg), (.int a), (.int b), (.int d), (.int fl)] : List Value).toArray below meth c Z a0 tables_1 x.cls x.name code 17 (some .boolean) n0 T [(b21, ob0 (.long ver) (.ref b23) (.ref b22)), (b23, .inr (.long, List.map Value.long (((List.replicate ((((v2 + (63 : Int32)) / (64 : Int32)))).toNatClampNeg (0 : Int64)).set (((v4.toUInt32 >>> ((6 : Int32) &&& 31).toUInt32).toInt32)).toNatClampNeg (((List.replicate ((((v2 + (63 : Int32)) / (64 : Int32)))).toNatClampNeg (0 : Int64)).getD (((v4.toUInt32 >>> ((6 : Int32) &&& 31).toUInt32).toInt32)).toNatClampNeg (0 : Int64)) ||| ((1 : Int64) <<< (v4 &&& 0x3f).toInt64))).set (((v10.toUInt32 >>> ((6 : Int32) &&& 31).toUInt32).toInt32)).toNatClampNeg ((((List.replicate ((((v2 + (63 : Int32)) / (64 : Int32)))).toNatClampNeg (0 : Int64)).set (((v4.toUInt32 >>> ((6 : Int32) &&& 31).toUInt32).toInt32)).toNatClampNeg (((List.replicate ((((v2 + (63 : Int32)) / (64 : Int32)))).toNatClampNeg (0 : Int64)).getD (((v4.toUInt32 >>> ((6 : Int32) &&& 31).toUInt32).toInt32)).toNatClampNeg (0 : Int64)) ||| ((1 : Int64) <<< (v4 &&& 0x3f).toInt64))).getD (((v10.toUInt32 >>> ((6 : Int32) &&& 31).toUInt32).toInt32)).toNatClampNeg (0 : Int64)) ||| ((1 : Int64) <<< (v10 &&& 0x3f).toInt64))))), (b22, .inr (.long, List.map Value.long (if j19 = (0 : Int32) then (if j15 = (0 : Int32) then (List.replicate ((((v2 + (63 : Int32)) / (64 : Int32)))).toNatClampNeg (0 : Int64)) else ((List.replicate ((((v2 + (63 : Int32)) / (64 : Int32)))).toNatClampNeg (0 : Int64)).set (((v4.toUInt32 >>> ((6 : Int32) &&& 31).toUInt32).toInt32)).toNatClampNeg (((List.replicate ((((v2 + (63 : Int32)) / (64 : Int32)))).toNatClampNeg (0 : Int64)).getD (((v4.toUInt32 >>> ((6 : Int32) &&& 31).toUInt32).toInt32)).toNatClampNeg (0 : Int64)) ||| ((1 : Int64) <<< (v4 &&& 0x3f).toInt64)))) else ((if j15 = (0 : Int32) then (List.replicate ((((v2 + (63 : Int32)) / (64 : Int32)))).toNatClampNeg (0 : Int64)) else ((List.replicate ((((v2 + (63 : Int32)) / (64 : Int32)))).toNatClampNeg (0 : Int64)).set (((v4.toUInt32 >>> ((6 : Int32) &&& 31).toUInt32).toInt32)).toNatClampNeg (((List.replicate ((((v2 + (63 : Int32)) / (64 : Int32)))).toNatClampNeg (0 : Int64)).getD (((v4.toUInt32 >>> ((6 : Int32) &&& 31).toUInt32).toInt32)).toNatClampNeg (0 : Int64)) ||| ((1 : Int64) <<< (v4 &&& 0x3f).toInt64)))).set (((v10.toUInt32 >>> ((6 : Int32) &&& 31).toUInt32).toInt32)).toNatClampNeg (((if j15 = (0 : Int32) then (List.replicate ((((v2 + (63 : Int32)) / (64 : Int32)))).toNatClampNeg (0 : Int64)) else ((List.replicate ((((v2 + (63 : Int32)) / (64 : Int32)))).toNatClampNeg (0 : Int64)).set (((v4.toUInt32 >>> ((6 : Int32) &&& 31).toUInt32).toInt32)).toNatClampNeg (((List.replicate ((((v2 + (63 : Int32)) / (64 : Int32)))).toNatClampNeg (0 : Int64)).getD (((v4.toUInt32 >>> ((6 : Int32) &&& 31).toUInt32).toInt32)).toNatClampNeg (0 : Int64)) ||| ((1 : Int64) <<< (v4 &&& 0x3f).toInt64)))).getD (((v10.toUInt32 >>> ((6 : Int32) &&& 31).toUInt32).toInt32)).toNatClampNeg (0 : Int64)) ||| ((1 : Int64) <<< (v10 &&& 0x3f).toInt64))))))] 3 9 → Go p e below (EndS below s n0 Z 16 128 (fun v _ => v = some (.int 1))) (T.setTop (mkF m 124 #[.val (.long ver), .second, .val (.int rg), .val (.int a), .val (.int b), .val (.int d), .val (.int fl), .val (.int v2), .val (.int v4), .val (.int v10), .val (.int v12), .val (.int j15), .val (.int j19), .val (.ref b21), .unset, .unset, .unset] [(.int j26)])) := by
     intro T j26 ej26 A
     have z_j26 : nar .boolean j26 = j26 := by rw [ej26]; (repeat' split) <;> first | decide | assumption
     refine A.istore (q := 126) (l' := #[.val (.long ver), .second, .val (.int rg), .val (.int a), .val (.int b), .val (.int d), .val (.int fl), .val (.int v2), .val (.int v4), .val (.int v10), .val (.int v12), .val (.int j15), .val (.int j19), .val (.ref b21), .val (.int j26), .unset, .unset]) at_124 rfl rfl ?_
     have J126_34 : ∀ (T : State) (j34 : Int32), j34 = (if v12 = v4 then (if j15 = (0 : Int32) then (if v12 = v10 then (if j19 = (0 : Int32) then (0 : Int32) else (1 : Int32)) else (0 : Int32)) else (1 : Int32)) else (if v12 = v10 then (if j19 = (0 : Int32) then (0 : Int32) else (1 : Int32)) else (0 : Int32))) → Here p l e room_1 s m ([(.long ver), (.int rg), (.int a), (.int b), (.int d), (.int fl)] : List Value).toArray below meth c Z a0 tables_1 x.cls x.name code 17 (some .boolean) n0 T [(b21, ob0 (.long ver) (.ref b23) (.ref b22)), (b23, .inr (.long, List.map Value.long (((List.replicate ((((v2 + (63 : Int32)) / (64 : Int32)))).toNatClampNeg (0 : Int64)).set (((v4.toUInt32 >>> ((6 : Int32) &&& 31).toUInt32).toInt32)).toNatClampNeg (((List.replicate ((((v2 + (63 : Int32)) / (64 : Int32)))).toNatClampNeg (0 : Int64)).getD (((v4.toUInt32 >>> ((6 : Int32) &&& 31).toUInt32).toInt32)).toNatClampNeg (0 : Int64)) ||| ((1 : Int64) <<< (v4 &&& 0x3f).toInt64))).set (((v10.toUInt32 >>> ((6 : Int32) &&& 31).toUInt32).toInt32)).toNatClampNeg ((((List.replicate ((((v2 + (63 : Int32)) / (64 : Int32)))).toNatClampNeg (0 : Int64)).set (((v4.toUInt32 >>> ((6 : Int32) &&& 31).toUInt32).toInt32)).toNatClampNeg (((List.replicate ((((v2 + (63 : Int32)) / (64 : Int32)))).toNatClampNeg (0 : Int64)).getD (((v4.toUInt32 >>> ((6 : Int32) &&& 31).toUInt32).toInt32)).toNatClampNeg (0 : Int64)) ||| ((1 : Int64) <<< (v4 &&& 0x3f).toInt64))).getD (((v10.toUInt32 >>> ((6 : Int32) &&& 31).toUInt32).toInt32)).toNatClampNeg (0 : Int64)) ||| ((1 : Int64) <<< (v10 &&& 0x3f).toInt64))))), (b22, .inr (.long, List.map Value.long (if j19 = (0 : Int32) then (if j15 = (0 : Int32) then (List.replicate ((((v2 + (63 : Int32)) / (64 : Int32)))).toNatClampNeg (0 : Int64)) else ((List.replicate ((((v2 + (63 : Int32)) / (64 : Int32)))).toNatClampNeg (0 : Int64)).set (((v4.toUInt32 >>> ((6 : Int32) &&& 31).toUInt32).toInt32)).toNatClampNeg (((List.replicate ((((v2 + (63 : Int32)) / (64 : Int32)))).toNatClampNeg (0 : Int64)).getD (((v4.toUInt32 >>> ((6 : Int32) &&& 31).toUInt32).toInt32)).toNatClampNeg (0 : Int64)) ||| ((1 : Int64) <<< (v4 &&& 0x3f).toInt64)))) else ((if j15 = (0 : Int32) then (List.replicate ((((v2 + (63 : Int32)) / (64 : Int32)))).toNatClampNeg (0 : Int64)) else ((List.replicate ((((v2 + (63 : Int32)) / (64 : Int32)))).toNatClampNeg (0 : Int64)).set (((v4.toUInt32 >>> ((6 : Int32) &&& 31).toUInt32).toInt32)).toNatClampNeg (((List.replicate ((((v2 + (63 : Int32)) / (64 : Int32)))).toNatClampNeg (0 : Int64)).getD (((v4.toUInt32 >>> ((6 : Int32) &&& 31).toUInt32).toInt32)).toNatClampNeg (0 : Int64)) ||| ((1 : Int64) <<< (v4 &&& 0x3f).toInt64)))).set (((v10.toUInt32 >>> ((6 : Int32) &&& 31).toUInt32).toInt32)).toNatClampNeg (((if j15 = (0 : Int32) then (List.replicate ((((v2 + (63 : Int32)) / (64 : Int32)))).toNatClampNeg (0 : Int64)) else ((List.replicate ((((v2 + (63 : Int32)) / (64 : Int32)))).toNatClampNeg (0 : Int64)).set (((v4.toUInt32 >>> ((6 : Int32) &&& 31).toUInt32).toInt32)).toNatClampNeg (((List.replicate ((((v2 + (63 : Int32)) / (64 : Int32)))).toNatClampNeg (0 : Int64)).getD (((v4.toUInt32 >>> ((6 : Int32) &&& 31).toUInt32).toInt32)).toNatClampNeg (0 : Int64)) ||| ((1 : Int64) <<< (v4 &&& 0x3f).toInt64)))).getD (((v10.toUInt32 >>> ((6 : Int32) &&& 31).toUInt32).toInt32)).toNatClampNeg (0 : Int64)) ||| ((1 : Int64) <<< (v10 &&& 0x3f).toInt64))))))] 3 9 → Go p e below (EndS below s n0 Z 16 128 (fun v _ => v = some (.int 1))) (T.setTop (mkF m 155 #[.val (.long ver), .second, .val (.int rg), .val (.int a), .val (.int b), .val (.int d), .val (.int fl), .val (.int v2), .val (.int v4), .val (.int v10), .val (.int v12), .val (.int j15), .val (.int j19), .val (.ref b21), .val (.int j26), .unset, .unset] [(.int j34)])) := by
      intro T j34 ej34 A
      have z_j34 : nar .boolean j34 = j34 := by rw [ej34]; (repeat' split) <;> first | decide | assumption
      refine A.istore (q := 157) (l' := #[.val (.long ver), .second, .val (.int rg), .val (.int a), .val (.int b), .val (.int d), .val (.int fl), .val (.int v2), .val (.int v4), .val (.int v10), .val (.int v12), .val (.int j15), .val (.int j19), .val (.ref b21), .val (.int j26), .val (.int j34), .unset]) at_155 rfl rfl ?_
      have J157_39 : ∀ (T : State) (j39 : Int32), j39 = (if j26 = (0 : Int32) then v12 else (if j34 = (0 : Int32) then (v12 + (1 : Int32)) else v12)) → Here p l e room_1 s m ([(.long ver), (.int rg), (.int a), (.int b), (.int d), (.int fl)] : List Value).toArray below meth c Z a0 tables_1 x.cls x.name code 17 (some .boolean) n0 T [(b21, ob0 (.long ver) (.ref b23) (.ref b22)), (b23, .inr (.long, List.map Value.long (((List.replicate ((((v2 + (63 : Int32)) / (64 : Int32)))).toNatClampNeg (0 : Int64)).set (((v4.toUInt32 >>> ((6 : Int32) &&& 31).toUInt32).toInt32)).toNatClampNeg (((List.replicate ((((v2 + (63 : Int32)) / (64 : Int32)))).toNatClampNeg (0 : Int64)).getD (((v4.toUInt32 >>> ((6 : Int32) &&& 31).toUInt32).toInt32)).toNatClampNeg (0 : Int64)) ||| ((1 : Int64) <<< (v4 &&& 0x3f).toInt64))).set (((v10.toUInt32 >>> ((6 : Int32) &&& 31).toUInt32).toInt32)).toNatClampNeg ((((List.replicate ((((v2 + (63 : Int32)) / (64 : Int32)))).toNatClampNeg (0 : Int64)).set (((v4.toUInt32 >>> ((6 : Int32) &&& 31).toUInt32).toInt32)).toNatClampNeg (((List.replicate ((((v2 + (63 : Int32)) / (64 : Int32)))).toNatClampNeg (0 : Int64)).getD (((v4.toUInt32 >>> ((6 : Int32) &&& 31).toUInt32).toInt32)).toNatClampNeg (0 : Int64)) ||| ((1 : Int64) <<< (v4 &&& 0x3f).toInt64))).getD (((v10.toUInt32 >>> ((6 : Int32) &&& 31).toUInt32).toInt32)).toNatClampNeg (0 : Int64)) ||| ((1 : Int64) <<< (v10 &&& 0x3f).toInt64))))), (b22, .inr (.long, List.map Value.long (if j19 = (0 : Int32) then (if j15 = (0 : Int32) then (List.replicate ((((v2 + (63 : Int32)) / (64 : Int32)))).toNatClampNeg (0 : Int64)) else ((List.replicate ((((v2 + (63 : Int32)) / (64 : Int32)))).toNatClampNeg (0 : Int64)).set (((v4.toUInt32 >>> ((6 : Int32) &&& 31).toUInt32).toInt32)).toNatClampNeg (((List.replicate ((((v2 + (63 : Int32)) / (64 : Int32)))).toNatClampNeg (0 : Int64)).getD (((v4.toUInt32 >>> ((6 : Int32) &&& 31).toUInt32).toInt32)).toNatClampNeg (0 : Int64)) ||| ((1 : Int64) <<< (v4 &&& 0x3f).toInt64)))) else ((if j15 = (0 : Int32) then (List.replicate ((((v2 + (63 : Int32)) / (64 : Int32)))).toNatClampNeg (0 : Int64)) else ((List.replicate ((((v2 + (63 : Int32)) / (64 : Int32)))).toNatClampNeg (0 : Int64)).set (((v4.toUInt32 >>> ((6 : Int32) &&& 31).toUInt32).toInt32)).toNatClampNeg (((List.replicate ((((v2 + (63 : Int32)) / (64 : Int32)))).toNatClampNeg (0 : Int64)).getD (((v4.toUInt32 >>> ((6 : Int32) &&& 31).toUInt32).toInt32)).toNatClampNeg (0 : Int64)) ||| ((1 : Int64) <<< (v4 &&& 0x3f).toInt64)))).set (((v10.toUInt32 >>> ((6 : Int32) &&& 31).toUInt32).toInt32)).toNatClampNeg (((if j15 = (0 : Int32) then (List.replicate ((((v2 + (63 : Int32)) / (64 : Int32)))).toNatClampNeg (0 : Int64)) else ((List.replicate ((((v2 + (63 : Int32)) / (64 : Int32)))).toNatClampNeg (0 : Int64)).set (((v4.toUInt32 >>> ((6 : Int32) &&& 31).toUInt32).toInt32)).toNatClampNeg (((List.replicate ((((v2 + (63 : Int32)) / (64 : Int32)))).toNatClampNeg (0 : Int64)).getD (((v4.toUInt32 >>> ((6 : Int32) &&& 31).toUInt32).toInt32)).toNatClampNeg (0 : Int64)) ||| ((1 : Int64) <<< (v4 &&& 0x3f).toInt64)))).getD (((v10.toUInt32 >>> ((6 : Int32) &&& 31).toUInt32).toInt32)).toNatClampNeg (0 : Int64)) ||| ((1 : Int64) <<< (v10 &&& 0x3f).toInt64))))))] 3 9 → Go p e below (EndS below s n0 Z 16 128 (fun v _ => v = some (.int 1))) (T.setTop (mkF m 176 #[.val (.long ver), .second, .val (.int rg), .val (.int a), .val (.int b), .val (.int d), .val (.int fl), .val (.int v2), .val (.int v4), .val (.int v10), .val (.int v12), .val (.int j15), .val (.int j19), .val (.ref b21), .val (.int j26), .val (.int j34), .unset] [(.int j39)])) := by
       intro T j39 ej39 A
       refine A.istore (q := 178) (l' := #[.val (.long ver), .second, .val (.int rg), .val (.int a), .val (.int b), .val (.int d), .val (.int fl), .val (.int v2), .val (.int v4), .val (.int v10), .val (.int v12), .val (.int j15), .val (.int j19), .val (.ref b21), .val (.int j26), .val (.int j34), .val (.int j39)]) at_176 rfl rfl ?_
       refine A.aload (q := 180) at_178 rfl rfl rfl ?_
       refine A.iload (q := 182) at_180 rfl rfl ?_
       refine A.callV (q := 185) (i := 0) (w1 := 28) (w2 := 29) (w3 := 3) (w4 := 32) (w5 := 31) (w6 := 30) (a := b21) (as := [(.int v12)]) (st := []) (W := 0) at_182 rfl rfl rfl rfl rfl rfl rfl rfl (rmE l Z a0 hw n0 b21 v12 ver b23 b22 (((List.replicate ((((v2 + (63 : Int32)) / (64 : Int32)))).toNatClampNeg (0 : Int64)).set (((v4.toUInt32 >>> ((6 : Int32) &&& 31).toUInt32).toInt32)).toNatClampNeg (((List.replicate ((((v2 + (63 : Int32)) / (64 : Int32)))).toNatClampNeg (0 : Int64)).getD (((v4.toUInt32 >>> ((6 : Int32) &&& 31).toUInt32).toInt32)).toNatClampNeg (0 : Int64)) ||| ((1 : Int64) <<< (v4 &&& 0x3f).toInt64))).set (((v10.toUInt32 >>> ((6 : Int32) &&& 31).toUInt32).toInt32)).toNatClampNeg ((((List.replicate ((((v2 + (63 : Int32)) / (64 : Int32)))).toNatClampNeg (0 : Int64)).set (((v4.toUInt32 >>> ((6 : Int32) &&& 31).toUInt32).toInt32)).toNatClampNeg (((List.replicate ((((v2 + (63 : Int32)) / (64 : Int32)))).toNatClampNeg (0 : Int64)).getD (((v4.toUInt32 >>> ((6 : Int32) &&& 31).toUInt32).toInt32)).toNatClampNeg (0 : Int64)) ||| ((1 : Int64) <<< (v4 &&& 0x3f).toInt64))).getD (((v10.toUInt32 >>> ((6 : Int32) &&& 31).toUInt32).toInt32)).toNatClampNeg (0 : Int64)) ||| ((1 : Int64) <<< (v10 &&& 0x3f).toInt64))) (if j19 = (0 : Int32) then (if j15 = (0 : Int32) then (List.replicate ((((v2 + (63 : Int32)) / (64 : Int32)))).toNatClampNeg (0 : Int64)) else ((List.replicate ((((v2 + (63 : Int32)) / (64 : Int32)))).toNatClampNeg (0 : Int64)).set (((v4.toUInt32 >>> ((6 : Int32) &&& 31).toUInt32).toInt32)).toNatClampNeg (((List.replicate ((((v2 + (63 : Int32)) / (64 : Int32)))).toNatClampNeg (0 : Int64)).getD (((v4.toUInt32 >>> ((6 : Int32) &&& 31).toUInt32).toInt32)).toNatClampNeg (0 : Int64)) ||| ((1 : Int64) <<< (v4 &&& 0x3f).toInt64)))) else ((if j15 = (0 : Int32) then (List.replicate ((((v2 + (63 : Int32)) / (64 : Int32)))).toNatClampNeg (0 : Int64)) else ((List.replicate ((((v2 + (63 : Int32)) / (64 : Int32)))).toNatClampNeg (0 : Int64)).set (((v4.toUInt32 >>> ((6 : Int32) &&& 31).toUInt32).toInt32)).toNatClampNeg (((List.replicate ((((v2 + (63 : Int32)) / (64 : Int32)))).toNatClampNeg (0 : Int64)).getD (((v4.toUInt32 >>> ((6 : Int32) &&& 31).toUInt32).toInt32)).toNatClampNeg (0 : Int64)) ||| ((1 : Int64) <<< (v4 &&& 0x3f).toInt64)))).set (((v10.toUInt32 >>> ((6 : Int32) &&& 31).toUInt32).toInt32)).toNatClampNeg (((if j15 = (0 : Int32) then (List.replicate ((((v2 + (63 : Int32)) / (64 : Int32)))).toNatClampNeg (0 : Int64)) else ((List.replicate ((((v2 + (63 : Int32)) / (64 : Int32)))).toNatClampNeg (0 : Int64)).set (((v4.toUInt32 >>> ((6 : Int32) &&& 31).toUInt32).toInt32)).toNatClampNeg (((List.replicate ((((v2 + (63 : Int32)) / (64 : Int32)))).toNatClampNeg (0 : Int64)).getD (((v4.toUInt32 >>> ((6 : Int32) &&& 31).toUInt32).toInt32)).toNatClampNeg (0 : Int64)) ||| ((1 : Int64) <<< (v4 &&& 0x3f).toInt64)))).getD (((v10.toUInt32 >>> ((6 : Int32) &&& 31).toUInt32).toInt32)).toNatClampNeg (0 : Int64)) ||| ((1 : Int64) <<< (v10 &&& 0x3f).toInt64)))) _ (own_x hn hs).1 (by (repeat' split) <;> simp only [List.length_set, List.length_replicate] <;> exact (own_x hn hs).2) (by (repeat' split) <;> simp only [List.length_set, List.length_replicate] <;> exact (own_x hn hs).2)) (by decide) ⟨_, _, pd_6, rfl⟩ rfl rfl rfl (by decide) (by decide) (by decide) (by decide) ?_
       rintro _ T _ ⟨rfl, rfl⟩ A
       show Go p e below _ (T.setTop (mkF m 185 #[.val (.long ver), .second, .val (.int rg), .val (.int a), .val (.int b), .val (.int d), .val (.int fl), .val (.int v2), .val (.int v4), .val (.int v10), .val (.int v12), .val (.int j15), .val (.int j19), .val (.ref b21), .val (.int j26), .val (.int j34), .val (.int j39)] [(.int (FE v12 (if j19 = (0 : Int32) then (if j15 = (0 : Int32) then (List.replicate ((((v2 + (63 : Int32)) / (64 : Int32)))).toNatClampNeg (0 : Int64)) else ((List.replicate ((((v2 + (63 : Int32)) / (64 : Int32)))).toNatClampNeg (0 : Int64)).set (((v4.toUInt32 >>> ((6 : Int32) &&& 31).toUInt32).toInt32)).toNatClampNeg (((List.replicate ((((v2 + (63 : Int32)) / (64 : Int32)))).toNatClampNeg (0 : Int64)).getD (((v4.toUInt32 >>> ((6 : Int32) &&& 31).toUInt32).toInt32)).toNatClampNeg (0 : Int64)) ||| ((1 : Int64) <<< (v4 &&& 0x3f).toInt64)))) else ((if j15 = (0 : Int32) then (List.replicate ((((v2 + (63 : Int32)) / (64 : Int32)))).toNatClampNeg (0 : Int64)) else ((List.replicate ((((v2 + (63 : Int32)) / (64 : Int32)))).toNatClampNeg (0 : Int64)).set (((v4.toUInt32 >>> ((6 : Int32) &&& 31).toUInt32).toInt32)).toNatClampNeg (((List.replicate ((((v2 + (63 : Int32)) / (64 : Int32)))).toNatClampNeg (0 : Int64)).getD (((v4.toUInt32 >>> ((6 : Int32) &&& 31).toUInt32).toInt32)).toNatClampNeg (0 : Int64)) ||| ((1 : Int64) <<< (v4 &&& 0x3f).toInt64)))).set (((v10.toUInt32 >>> ((6 : Int32) &&& 31).toUInt32).toInt32)).toNatClampNeg (((if j15 = (0 : Int32) then (List.replicate ((((v2 + (63 : Int32)) / (64 : Int32)))).toNatClampNeg (0 : Int64)) else ((List.replicate ((((v2 + (63 : Int32)) / (64 : Int32)))).toNatClampNeg (0 : Int64)).set (((v4.toUInt32 >>> ((6 : Int32) &&& 31).toUInt32).toInt32)).toNatClampNeg (((List.replicate ((((v2 + (63 : Int32)) / (64 : Int32)))).toNatClampNeg (0 : Int64)).getD (((v4.toUInt32 >>> ((6 : Int32) &&& 31).toUInt32).toInt32)).toNatClampNeg (0 : Int64)) ||| ((1 : Int64) <<< (v4 &&& 0x3f).toInt64)))).getD (((v10.toUInt32 >>> ((6 : Int32) &&& 31).toUInt32).toInt32)).toNatClampNeg (0 : Int64)) ||| ((1 : Int64) <<< (v10 &&& 0x3f).toInt64))))))]))
       obtain ⟨v41, e41⟩ : ∃ v : Int32, (FE v12 (if j19 = (0 : Int32) then (if j15 = (0 : Int32) then (List.replicate ((((v2 + (63 : Int32)) / (64 : Int32)))).toNatClampNeg (0 : Int64)) else ((List.replicate ((((v2 + (63 : Int32)) / (64 : Int32)))).toNatClampNeg (0 : Int64)).set (((v4.toUInt32 >>> ((6 : Int32) &&& 31).toUInt32).toInt32)).toNatClampNeg (((List.replicate ((((v2 + (63 : Int32)) / (64 : Int32)))).toNatClampNeg (0 : Int64)).getD (((v4.toUInt32 >>> ((6 : Int32) &&& 31).toUInt32).toInt32)).toNatClampNeg (0 : Int64)) ||| ((1 : Int64) <<< (v4 &&& 0x3f).toInt64)))) else ((if j15 = (0 : Int32) then (List.replicate ((((v2 + (63 : Int32)) / (64 : Int32)))).toNatClampNeg (0 : Int64)) else ((List.replicate ((((v2 + (63 : Int32)) / (64 : Int32)))).toNatClampNeg (0 : Int64)).set (((v4.toUInt32 >>> ((6 : Int32) &&& 31).toUInt32).toInt32)).toNatClampNeg (((List.replicate ((((v2 + (63 : Int32)) / (64 : Int32)))).toNatClampNeg (0 : Int64)).getD (((v4.toUInt32 >>> ((6 : Int32) &&& 31).toUInt32).toInt32)).toNatClampNeg (0 : Int64)) ||| ((1 : Int64) <<< (v4 &&& 0x3f).toInt64)))).set (((v10.toUInt32 >>> ((6 : Int32) &&& 31).toUInt32).toInt32)).toNatClampNeg (((if j15 = (0 : Int32) then (List.replicate ((((v2 + (63 : Int32)) / (64 : Int32)))).toNatClampNeg (0 : Int64)) else ((List.replicate ((((v2 + (63 : Int32)) / (64 : Int32)))).toNatClampNeg (0 : Int64)).set (((v4.toUInt32 >>> ((6 : Int32) &&& 31).toUInt32).toInt32)).toNatClampNeg (((List.replicate ((((v2 + (63 : Int32)) / (64 : Int32)))).toNatClampNeg (0 : Int64)).getD (((v4.toUInt32 >>> ((6 : Int32) &&& 31).toUInt32).toInt32)).toNatClampNeg (0 : Int64)) ||| ((1 : Int64) <<< (v4 &&& 0x3f).toInt64)))).getD (((v10.toUInt32 >>> ((6 : Int32) &&& 31).toUInt32).toInt32)).toNatClampNeg (0 : Int64)) ||| ((1 : Int64) <<< (v10 &&& 0x3f).toInt64))))) = v := ⟨_, rfl⟩
       rw [e41]
       refine A.iload (q := 187) at_185 rfl rfl ?_
       refine A.icmpF (q := 190) at_187 rfl (teq (by subst ej26 ej34 ej39 e41; exact own_187 hn hp hq hs : v41 = j34)).2 ?_
       refine A.aload (q := 192) at_190 rfl rfl rfl ?_
       refine A.iload (q := 194) at_192 rfl rfl ?_
       refine A.iload (q := 196) at_194 rfl rfl ?_
       refine A.iconst (q := 197) (v := (1 : Int32)) at_196 rfl (by decide) ?_
       obtain ⟨v42, e42⟩ : ∃ v : Int32, v12 + (1 : Int32) = v := ⟨_, rfl⟩
       refine A.iadd (q := 198) at_197 rfl e42 ?_
       refine A.callV (q := 201) (i := 0) (w1 := 33) (w2 := 34) (w3 := 3) (w4 := 37) (w5 := 36) (w6 := 35) (a := b21) (as := [(.int v12), (.int v42)]) (st := []) (W := 0) at_198 rfl rfl rfl rfl rfl rfl rfl rfl (rmF l Z a0 hw n0 b21 v12 v42 ver b23 b22 (((List.replicate ((((v2 + (63 : Int32)) / (64 : Int32)))).toNatClampNeg (0 : Int64)).set (((v4.toUInt32 >>> ((6 : Int32) &&& 31).toUInt32).toInt32)).toNatClampNeg (((List.replicate ((((v2 + (63 : Int32)) / (64 : Int32)))).toNatClampNeg (0 : Int64)).getD (((v4.toUInt32 >>> ((6 : Int32) &&& 31).toUInt32).toInt32)).toNatClampNeg (0 : Int64)) ||| ((1 : Int64) <<< (v4 &&& 0x3f).toInt64))).set (((v10.toUInt32 >>> ((6 : Int32) &&& 31).toUInt32).toInt32)).toNatClampNeg ((((List.replicate ((((v2 + (63 : Int32)) / (64 : Int32)))).toNatClampNeg (0 : Int64)).set (((v4.toUInt32 >>> ((6 : Int32) &&& 31).toUInt32).toInt32)).toNatClampNeg (((List.replicate ((((v2 + (63 : Int32)) / (64 : Int32)))).toNatClampNeg (0 : Int64)).getD (((v4.toUInt32 >>> ((6 : Int32) &&& 31).toUInt32).toInt32)).toNatClampNeg (0 : Int64)) ||| ((1 : Int64) <<< (v4 &&& 0x3f).toInt64))).getD (((v10.toUInt32 >>> ((6 : Int32) &&& 31).toUInt32).toInt32)).toNatClampNeg (0 : Int64)) ||| ((1 : Int64) <<< (v10 &&& 0x3f).toInt64))) (if j19 = (0 : Int32) then (if j15 = (0 : Int32) then (List.replicate ((((v2 + (63 : Int32)) / (64 : Int32)))).toNatClampNeg (0 : Int64)) else ((List.replicate ((((v2 + (63 : Int32)) / (64 : Int32)))).toNatClampNeg (0 : Int64)).set (((v4.toUInt32 >>> ((6 : Int32) &&& 31).toUInt32).toInt32)).toNatClampNeg (((List.replicate ((((v2 + (63 : Int32)) / (64 : Int32)))).toNatClampNeg (0 : Int64)).getD (((v4.toUInt32 >>> ((6 : Int32) &&& 31).toUInt32).toInt32)).toNatClampNeg (0 : Int64)) ||| ((1 : Int64) <<< (v4 &&& 0x3f).toInt64)))) else ((if j15 = (0 : Int32) then (List.replicate ((((v2 + (63 : Int32)) / (64 : Int32)))).toNatClampNeg (0 : Int64)) else ((List.replicate ((((v2 + (63 : Int32)) / (64 : Int32)))).toNatClampNeg (0 : Int64)).set (((v4.toUInt32 >>> ((6 : Int32) &&& 31).toUInt32).toInt32)).toNatClampNeg (((List.replicate ((((v2 + (63 : Int32)) / (64 : Int32)))).toNatClampNeg (0 : Int64)).getD (((v4.toUInt32 >>> ((6 : Int32) &&& 31).toUInt32).toInt32)).toNatClampNeg (0 : Int64)) ||| ((1 : Int64) <<< (v4 &&& 0x3f).toInt64)))).set (((v10.toUInt32 >>> ((6 : Int32) &&& 31).toUInt32).toInt32)).toNatClampNeg (((if j15 = (0 : Int32) then (List.replicate ((((v2 + (63 : Int32)) / (64 : Int32)))).toNatClampNeg (0 : Int64)) else ((List.replicate ((((v2 + (63 : Int32)) / (64 : Int32)))).toNatClampNeg (0 : Int64)).set (((v4.toUInt32 >>> ((6 : Int32) &&& 31).toUInt32).toInt32)).toNatClampNeg (((List.replicate ((((v2 + (63 : Int32)) / (64 : Int32)))).toNatClampNeg (0 : Int64)).getD (((v4.toUInt32 >>> ((6 : Int32) &&& 31).toUInt32).toInt32)).toNatClampNeg (0 : Int64)) ||| ((1 : Int64) <<< (v4 &&& 0x3f).toInt64)))).getD (((v10.toUInt32 >>> ((6 : Int32) &&& 31).toUInt32).toInt32)).toNatClampNeg (0 : Int64)) ||| ((1 : Int64) <<< (v10 &&& 0x3f).toInt64)))) _ (own_x hn hs).1 (by (repeat' split) <;> simp only [List.length_set, List.length_replicate] <;> exact (own_x hn hs).2) (by (repeat' split) <;> simp only [List.length_set, List.length_replicate] <;> exact (own_x hn hs).2) (by rw [← e42]; exact own_lt hn hs) (by rw [← e42]; exact own_ge hn hs)) (by decide) ⟨_, _, pd_3, rfl⟩ rfl rfl rfl (by decide) (by decide) (by decide) (by decide) ?_
       rintro _ T _ ⟨rfl, rfl⟩ A
       show Go p e below _ (T.setTop (mkF m 201 #[.val (.long ver), .second, .val (.int rg), .val (.int a), .val (.int b), .val (.int d), .val (.int fl), .val (.int v2), .val (.int v4), .val (.int v10), .val (.int v12), .val (.int j15), .val (.int j19), .val (.ref b21), .val (.int j26), .val (.int j34), .val (.int j39)] [(.int (FF v12 v42 (((List.replicate ((((v2 + (63 : Int32)) / (64 : Int32)))).toNatClampNeg (0 : Int64)).set (((v4.toUInt32 >>> ((6 : Int32) &&& 31).toUInt32).toInt32)).toNatClampNeg (((List.replicate ((((v2 + (63 : Int32)) / (64 : Int32)))).toNatClampNeg (0 : Int64)).getD (((v4.toUInt32 >>> ((6 : Int32) &&& 31).toUInt32).toInt32)).toNatClampNeg (0 : Int64)) ||| ((1 : Int64) <<< (v4 &&& 0x3f).toInt64))).set (((v10.toUInt32 >>> ((6 : Int32) &&& 31).toUInt32).toInt32)).toNatClampNeg ((((List.replicate ((((v2 + (63 : Int32)) / (64 : Int32)))).toNatClampNeg (0 : Int64)).set (((v4.toUInt32 >>> ((6 : Int32) &&& 31).toUInt32).toInt32)).toNatClampNeg (((List.replicate ((((v2 + (63 : Int32)) / (64 : Int32)))).toNatClampNeg (0 : Int64)).getD (((v4.toUInt32 >>> ((6 : Int32) &&& 31).toUInt32).toInt32)).toNatClampNeg (0 : Int64)) ||| ((1 : Int64) <<< (v4 &&& 0x3f).toInt64))).getD (((v10.toUInt32 >>> ((6 : Int32) &&& 31).toUInt32).toInt32)).toNatClampNeg (0 : Int64)) ||| ((1 : Int64) <<< (v10 &&& 0x3f).toInt64))) (if j19 = (0 : Int32) then (if j15 = (0 : Int32) then (List.replicate ((((v2 + (63 : Int32)) / (64 : Int32)))).toNatClampNeg (0 : Int64)) else ((List.replicate ((((v2 + (63 : Int32)) / (64 : Int32)))).toNatClampNeg (0 : Int64)).set (((v4.toUInt32 >>> ((6 : Int32) &&& 31).toUInt32).toInt32)).toNatClampNeg (((List.replicate ((((v2 + (63 : Int32)) / (64 : Int32)))).toNatClampNeg (0 : Int64)).getD (((v4.toUInt32 >>> ((6 : Int32) &&& 31).toUInt32).toInt32)).toNatClampNeg (0 : Int64)) ||| ((1 : Int64) <<< (v4 &&& 0x3f).toInt64)))) else ((if j15 = (0 : Int32) then (List.replicate ((((v2 + (63 : Int32)) / (64 : Int32)))).toNatClampNeg (0 : Int64)) else ((List.replicate ((((v2 + (63 : Int32)) / (64 : Int32)))).toNatClampNeg (0 : Int64)).set (((v4.toUInt32 >>> ((6 : Int32) &&& 31).toUInt32).toInt32)).toNatClampNeg (((List.replicate ((((v2 + (63 : Int32)) / (64 : Int32)))).toNatClampNeg (0 : Int64)).getD (((v4.toUInt32 >>> ((6 : Int32) &&& 31).toUInt32).toInt32)).toNatClampNeg (0 : Int64)) ||| ((1 : Int64) <<< (v4 &&& 0x3f).toInt64)))).set (((v10.toUInt32 >>> ((6 : Int32) &&& 31).toUInt32).toInt32)).toNatClampNeg (((if j15 = (0 : Int32) then (List.replicate ((((v2 + (63 : Int32)) / (64 : Int32)))).toNatClampNeg (0 : Int64)) else ((List.replicate ((((v2 + (63 : Int32)) / (64 : Int32)))).toNatClampNeg (0 : Int64)).set (((v4.toUInt32 >>> ((6 : Int32) &&& 31).toUInt32).toInt32)).toNatClampNeg (((List.replicate ((((v2 + (63 : Int32)) / (64 : Int32)))).toNatClampNeg (0 : Int64)).getD (((v4.toUInt32 >>> ((6 : Int32) &&& 31).toUInt32).toInt32)).toNatClampNeg (0 : Int64)) ||| ((1 : Int64) <<< (v4 &&& 0x3f).toInt64)))).getD (((v10.toUInt32 >>> ((6 : Int32) &&& 31).toUInt32).toInt32)).toNatClampNeg (0 : Int64)) ||| ((1 : Int64) <<< (v10 &&& 0x3f).toInt64))))))]))
       obtain ⟨v43, e43⟩ : ∃ v : Int32, (FF v12 v42 (((List.replicate ((((v2 + (63 : Int32)) / (64 : Int32)))).toNatClampNeg (0 : Int64)).set (((v4.toUInt32 >>> ((6 : Int32) &&& 31).toUInt32).toInt32)).toNatClampNeg (((List.replicate ((((v2 + (63 : Int32)) / (64 : Int32)))).toNatClampNeg (0 : Int64)).getD (((v4.toUInt32 >>> ((6 : Int32) &&& 31).toUInt32).toInt32)).toNatClampNeg (0 : Int64)) ||| ((1 : Int64) <<< (v4 &&& 0x3f).toInt64))).set (((v10.toUInt32 >>> ((6 : Int32) &&& 31).toUInt32).toInt32)).toNatClampNeg ((((List.replicate ((((v2 + (63 : Int32)) / (64 : Int32)))).toNatClampNeg (0 : Int64)).set (((v4.toUInt32 >>> ((6 : Int32) &&& 31).toUInt32).toInt32)).toNatClampNeg (((List.replicate ((((v2 + (63 : Int32)) / (64 : Int32)))).toNatClampNeg (0 : Int64)).getD (((v4.toUInt32 >>> ((6 : Int32) &&& 31).toUInt32).toInt32)).toNatClampNeg (0 : Int64)) ||| ((1 : Int64) <<< (v4 &&& 0x3f).toInt64))).getD (((v10.toUInt32 >>> ((6 : Int32) &&& 31).toUInt32).toInt32)).toNatClampNeg (0 : Int64)) ||| ((1 : Int64) <<< (v10 &&& 0x3f).toInt64))) (if j19 = (0 : Int32) then (if j15 = (0 : Int32) then (List.replicate ((((v2 + (63 : Int32)) / (64 : Int32)))).toNatClampNeg (0 : Int64)) else ((List.replicate ((((v2 + (63 : Int32)) / (64 : Int32)))).toNatClampNeg (0 : Int64)).set (((v4.toUInt32 >>> ((6 : Int32) &&& 31).toUInt32).toInt32)).toNatClampNeg (((List.replicate ((((v2 + (63 : Int32)) / (64 : Int32)))).toNatClampNeg (0 : Int64)).getD (((v4.toUInt32 >>> ((6 : Int32) &&& 31).toUInt32).toInt32)).toNatClampNeg (0 : Int64)) ||| ((1 : Int64) <<< (v4 &&& 0x3f).toInt64)))) else ((if j15 = (0 : Int32) then (List.replicate ((((v2 + (63 : Int32)) / (64 : Int32)))).toNatClampNeg (0 : Int64)) else ((List.replicate ((((v2 + (63 : Int32)) / (64 : Int32)))).toNatClampNeg (0 : Int64)).set (((v4.toUInt32 >>> ((6 : Int32) &&& 31).toUInt32).toInt32)).toNatClampNeg (((List.replicate ((((v2 + (63 : Int32)) / (64 : Int32)))).toNatClampNeg (0 : Int64)).getD (((v4.toUInt32 >>> ((6 : Int32) &&& 31).toUInt32).toInt32)).toNatClampNeg (0 : Int64)) ||| ((1 : Int64) <<< (v4 &&& 0x3f).toInt64)))).set (((v10.toUInt32 >>> ((6 : Int32) &&& 31).toUInt32).toInt32)).toNatClampNeg (((if j15 = (0 : Int32) then (List.replicate ((((v2 + (63 : Int32)) / (64 : Int32)))).toNatClampNeg (0 : Int64)) else ((List.replicate ((((v2 + (63 : Int32)) / (64 : Int32)))).toNatClampNeg (0 : Int64)).set (((v4.toUInt32 >>> ((6 : Int32) &&& 31).toUInt32).toInt32)).toNatClampNeg (((List.replicate ((((v2 + (63 : Int32)) / (64 : Int32)))).toNatClampNeg (0 : Int64)).getD (((v4.toUInt32 >>> ((6 : Int32) &&& 31).toUInt32).toInt32)).toNatClampNeg (0 : Int64)) ||| ((1 : Int64) <<< (v4 &&& 0x3f).toInt64)))).getD (((v10.toUInt32 >>> ((6 : Int32) &&& 31).toUInt32).toInt32)).toNatClampNeg (0 : Int64)) ||| ((1 : Int64) <<< (v10 &&& 0x3f).toInt64))))) = v := ⟨_, rfl⟩
       rw [e43]
       refine A.iload (q := 203) at_201 rfl rfl ?_
       refine A.icmpF (q := 206) at_203 rfl (teq (by subst ej26 ej34 ej39 e41 e42 e43; exact own_203 hn hp hq hs : v43 = j39)).2 ?_
       refine A.aload (q := 208) at_206 rfl rfl rfl ?_
       refine A.callV (q := 211) (i := 0) (w1 := 52) (w2 := 53) (w3 := 3) (w4 := 56) (w5 := 55) (w6 := 54) (a := b21) (as := []) (st := []) (W := 0) at_208 rfl rfl rfl rfl rfl rfl rfl rfl (rmV l Z a0 hw n0 b21 ver b23 b22 (((List.replicate ((((v2 + (63 : Int32)) / (64 : Int32)))).toNatClampNeg (0 : Int64)).set (((v4.toUInt32 >>> ((6 : Int32) &&& 31).toUInt32).toInt32)).toNatClampNeg (((List.replicate ((((v2 + (63 : Int32)) / (64 : Int32)))).toNatClampNeg (0 : Int64)).getD (((v4.toUInt32 >>> ((6 : Int32) &&& 31).toUInt32).toInt32)).toNatClampNeg (0 : Int64)) ||| ((1 : Int64) <<< (v4 &&& 0x3f).toInt64))).set (((v10.toUInt32 >>> ((6 : Int32) &&& 31).toUInt32).toInt32)).toNatClampNeg ((((List.replicate ((((v2 + (63 : Int32)) / (64 : Int32)))).toNatClampNeg (0 : Int64)).set (((v4.toUInt32 >>> ((6 : Int32) &&& 31).toUInt32).toInt32)).toNatClampNeg (((List.replicate ((((v2 + (63 : Int32)) / (64 : Int32)))).toNatClampNeg (0 : Int64)).getD (((v4.toUInt32 >>> ((6 : Int32) &&& 31).toUInt32).toInt32)).toNatClampNeg (0 : Int64)) ||| ((1 : Int64) <<< (v4 &&& 0x3f).toInt64))).getD (((v10.toUInt32 >>> ((6 : Int32) &&& 31).toUInt32).toInt32)).toNatClampNeg (0 : Int64)) ||| ((1 : Int64) <<< (v10 &&& 0x3f).toInt64))) (if j19 = (0 : Int32) then (if j15 = (0 : Int32) then (List.replicate ((((v2 + (63 : Int32)) / (64 : Int32)))).toNatClampNeg (0 : Int64)) else ((List.replicate ((((v2 + (63 : Int32)) / (64 : Int32)))).toNatClampNeg (0 : Int64)).set (((v4.toUInt32 >>> ((6 : Int32) &&& 31).toUInt32).toInt32)).toNatClampNeg (((List.replicate ((((v2 + (63 : Int32)) / (64 : Int32)))).toNatClampNeg (0 : Int64)).getD (((v4.toUInt32 >>> ((6 : Int32) &&& 31).toUInt32).toInt32)).toNatClampNeg (0 : Int64)) ||| ((1 : Int64) <<< (v4 &&& 0x3f).toInt64)))) else ((if j15 = (0 : Int32) then (List.replicate ((((v2 + (63 : Int32)) / (64 : Int32)))).toNatClampNeg (0 : Int64)) else ((List.replicate ((((v2 + (63 : Int32)) / (64 : Int32)))).toNatClampNeg (0 : Int64)).set (((v4.toUInt32 >>> ((6 : Int32) &&& 31).toUInt32).toInt32)).toNatClampNeg (((List.replicate ((((v2 + (63 : Int32)) / (64 : Int32)))).toNatClampNeg (0 : Int64)).getD (((v4.toUInt32 >>> ((6 : Int32) &&& 31).toUInt32).toInt32)).toNatClampNeg (0 : Int64)) ||| ((1 : Int64) <<< (v4 &&& 0x3f).toInt64)))).set (((v10.toUInt32 >>> ((6 : Int32) &&& 31).toUInt32).toInt32)).toNatClampNeg (((if j15 = (0 : Int32) then (List.replicate ((((v2 + (63 : Int32)) / (64 : Int32)))).toNatClampNeg (0 : Int64)) else ((List.replicate ((((v2 + (63 : Int32)) / (64 : Int32)))).toNatClampNeg (0 : Int64)).set (((v4.toUInt32 >>> ((6 : Int32) &&& 31).toUInt32).toInt32)).toNatClampNeg (((List.replicate ((((v2 + (63 : Int32)) / (64 : Int32)))).toNatClampNeg (0 : Int64)).getD (((v4.toUInt32 >>> ((6 : Int32) &&& 31).toUInt32).toInt32)).toNatClampNeg (0 : Int64)) ||| ((1 : Int64) <<< (v4 &&& 0x3f).toInt64)))).getD (((v10.toUInt32 >>> ((6 : Int32) &&& 31).toUInt32).toInt32)).toNatClampNeg (0 : Int64)) ||| ((1 : Int64) <<< (v10 &&& 0x3f).toInt64)))) _) (by decide) ⟨_, _, pd_7, rfl⟩ rfl rfl rfl (by decide) (by decide) (by decide) (by decide) ?_
       rintro _ T _ ⟨rfl, rfl⟩ A
       show Go p e below _ (T.setTop (mkF m 211 #[.val (.long ver), .second, .val (.int rg), .val (.int a), .val (.int b), .val (.int d), .val (.int fl), .val (.int v2), .val (.int v4), .val (.int v10), .val (.int v12), .val (.int j15), .val (.int j19), .val (.ref b21), .val (.int j26), .val (.int j34), .val (.int j39)] [(.long ver)]))
       refine A.lloadN (q := 212) at_211 rfl rfl ?_
       refine A.lcmp_ne (q := 213) (q2 := 216) (r := 220) at_212 rfl at_213 rfl (by decide) (fun h => (h rfl).elim) (fun _ => ?_)
       refine A.iconst (q := 217) (v := (1 : Int32)) at_216 rfl (by decide) ?_
       refine A.goto (r := 221) at_217 (by decide) ?_
       exact A.retZ (v := 1) at_221 (by decide) (by decide) (by decide) rfl
      refine A.iload (q := 159) at_157 rfl rfl ?_
      refine A.if_eq (q := 162) (r := 167) at_159 rfl (by decide) (fun h36 => ?_) (fun h36 => ?_)
      · refine A.iload (q := 169) at_167 rfl rfl ?_
        refine A.goto (r := 176) at_169 (by decide) ?_
        exact J157_39 T _ (by simp only [if_pos h36]) A
      · refine A.iload (q := 164) at_162 rfl rfl ?_
        refine A.if_eq (q := 167) (r := 172) at_164 rfl (by decide) (fun h37 => ?_) (fun h37 => ?_)
        · refine A.iload (q := 174) at_172 rfl rfl ?_
          refine A.iconst (q := 175) (v := (1 : Int32)) at_174 rfl (by decide) ?_
          obtain ⟨v38, e38⟩ : ∃ v : Int32, v12 + (1 : Int32) = v := ⟨_, rfl⟩
          refine A.iadd (q := 176) at_175 rfl e38 ?_
          exact J157_39 T _ (by simp only [e38, if_neg h36, if_pos h37]) A
        · refine A.iload (q := 169) at_167 rfl rfl ?_
          refine A.goto (r := 176) at_169 (by decide) ?_
          exact J157_39 T _ (by simp only [if_neg h36, if_neg h37]) A
     refine A.iload (q := 128) at_126 rfl rfl ?_
     refine A.iload (q := 130) at_128 rfl rfl ?_
     refine A.icmp_ne (q := 133) (r := 138) at_130 rfl (by decide) (fun h28 => ?_) (fun h28 => ?_)
     · refine A.iload (q := 140) at_138 rfl rfl ?_
       refine A.iload (q := 142) at_140 rfl rfl ?_
       refine A.icmp_ne (q := 145) (r := 154) at_142 rfl (by decide) (fun h29 => ?_) (fun h29 => ?_)
       · refine A.iconst (q := 155) (v := (0 : Int32)) at_154 rfl (by decide) ?_
         exact J126_34 T _ (by simp only [if_neg h28, if_neg h29]) A
       · refine A.iload (q := 147) at_145 rfl rfl ?_
         refine A.if_eq (q := 150) (r := 154) at_147 rfl (by decide) (fun h30 => ?_) (fun h30 => ?_)
         · refine A.iconst (q := 155) (v := (0 : Int32)) at_154 rfl (by decide) ?_
           exact J126_34 T _ (by simp only [if_neg h28, if_pos h29, if_pos h30]) A
         · refine A.iconst (q := 151) (v := (1 : Int32)) at_150 rfl (by decide) ?_
           refine A.goto (r := 155) at_151 (by decide) ?_
           exact J126_34 T _ (by simp only [if_neg h28, if_neg h30, if_pos h29]) A
     · refine A.iload (q := 135) at_133 rfl rfl ?_
       refine A.if_ne (q := 138) (r := 150) at_135 rfl (by decide) (fun h31 => ?_) (fun h31 => ?_)
       · refine A.iconst (q := 151) (v := (1 : Int32)) at_150 rfl (by decide) ?_
         refine A.goto (r := 155) at_151 (by decide) ?_
         exact J126_34 T _ (by simp only [if_neg h31, if_pos h28]) A
       · refine A.iload (q := 140) at_138 rfl rfl ?_
         refine A.iload (q := 142) at_140 rfl rfl ?_
         refine A.icmp_ne (q := 145) (r := 154) at_142 rfl (by decide) (fun h32 => ?_) (fun h32 => ?_)
         · refine A.iconst (q := 155) (v := (0 : Int32)) at_154 rfl (by decide) ?_
           exact J126_34 T _ (by simp only [if_neg h32, if_pos h28, if_pos h31]) A
         · refine A.iload (q := 147) at_145 rfl rfl ?_
           refine A.if_eq (q := 150) (r := 154) at_147 rfl (by decide) (fun h33 => ?_) (fun h33 => ?_)
           · refine A.iconst (q := 155) (v := (0 : Int32)) at_154 rfl (by decide) ?_
             exact J126_34 T _ (by simp only [if_pos h28, if_pos h31, if_pos h32, if_pos h33]) A
           · refine A.iconst (q := 151) (v := (1 : Int32)) at_150 rfl (by decide) ?_
             refine A.goto (r := 155) at_151 (by decide) ?_
             exact J126_34 T _ (by simp only [if_neg h33, if_pos h28, if_pos h31, if_pos h32]) A
    refine A.iload (q := 107) at_105 rfl rfl ?_
    refine A.iload (q := 109) at_107 rfl rfl ?_
    refine A.icmp_eq (q := 112) (r := 119) at_109 rfl (by decide) (fun h24 => ?_) (fun h24 => ?_)
    · refine A.iconst (q := 120) (v := (1 : Int32)) at_119 rfl (by decide) ?_
      refine A.goto (r := 124) at_120 (by decide) ?_
      exact J105_26 T _ (by simp only [if_pos h24]) A
    · refine A.iload (q := 114) at_112 rfl rfl ?_
      refine A.iload (q := 116) at_114 rfl rfl ?_
      refine A.icmp_ne (q := 119) (r := 123) at_116 rfl (by decide) (fun h25 => ?_) (fun h25 => ?_)
      · refine A.iconst (q := 124) (v := (0 : Int32)) at_123 rfl (by decide) ?_
        exact J105_26 T _ (by simp only [if_neg h24, if_neg h25]) A
      · refine A.iconst (q := 120) (v := (1 : Int32)) at_119 rfl (by decide) ?_
        refine A.goto (r := 124) at_120 (by decide) ?_
        exact J105_26 T _ (by simp only [if_neg h24, if_pos h25]) A
   refine A.iload (q := 63) at_61 rfl rfl ?_
   refine A.iconst (q := 64) (v := (2 : Int32)) at_63 rfl (by decide) ?_
   obtain ⟨v17, e17⟩ : ∃ v : Int32, fl &&& (2 : Int32) = v := ⟨_, rfl⟩
   refine A.iand (q := 65) at_64 rfl e17 ?_
   refine A.if_eq (q := 68) (r := 72) at_65 rfl (by decide) (fun h18 => ?_) (fun h18 => ?_)
   · refine A.iconst (q := 73) (v := (0 : Int32)) at_72 rfl (by decide) ?_
     exact J61_19 T _ (by simp only [e17, if_pos h18]) A
   · refine A.iconst (q := 69) (v := (1 : Int32)) at_68 rfl (by decide) ?_
     refine A.goto (r := 73) at_69 (by decide) ?_
     exact J61_19 T _ (by simp only [e17, if_neg h18]) A
  refine A.iload (q := 49) at_47 rfl rfl ?_
  refine A.iconst (q := 50) (v := (1 : Int32)) at_49 rfl (by decide) ?_
  obtain ⟨v13, e13⟩ : ∃ v : Int32, fl &&& (1 : Int32) = v := ⟨_, rfl⟩
  refine A.iand (q := 51) at_50 rfl e13 ?_
  refine A.if_eq (q := 54) (r := 58) at_51 rfl (by decide) (fun h14 => ?_) (fun h14 => ?_)
  · refine A.iconst (q := 59) (v := (0 : Int32)) at_58 rfl (by decide) ?_
    exact J47_15 T _ (by simp only [e13, if_pos h14]) A
  · refine A.iconst (q := 55) (v := (1 : Int32)) at_54 rfl (by decide) ?_
    refine A.goto (r := 59) at_55 (by decide) ?_
    exact J47_15 T _ (by simp only [e13, if_neg h14]) A
set_option maxRecDepth 65536 in
set_option maxHeartbeats 8000000 in
theorem comes_1 {Post : Tables → Env → Array Value → State → Outcome → State → Prop} (hpost : ∀ tb e args s v u, (limb_1_1.after args s (.returned v) u = true ∧ limb_1_2.after args s (.returned v) u = true ∧ True) → FrameEnd s (.returned v) u (Jvm.fieldLocs frame_1_writes args s ++ Jvm.arrayLocs frame_1_arrays args s ++ Jvm.staticLocs frame_1_statics s) 16 128 → Post tb e args s (.returned v) u) :
    ArmFor flags0 classFile x code maxLocals ret World_1 tables_1 room_1 Calls_1 rest_1 Pre_1 Post := by
  intro l hfl _ _ p e ha hc hk s m args below hf hA hF happ hP
  obtain ⟨hcalls, hrest, hpre⟩ := hP
  obtain ⟨-, -, -, hnamed, -, -, -, hat⟩ := (Spec.applies_iff hf).mp happ
  obtain ⟨hg, hn⟩ := and_e (Cond.before_iff.mp (show (Jvm.Cond.and given_1 narrow_1).before args s = true from hpre))
  obtain ⟨g1, hg⟩ := and_e hg
  obtain ⟨gv0, hg⟩ := and_e hg
  obtain ⟨gv1, hg⟩ := and_e hg
  obtain ⟨gv2, hg⟩ := and_e hg
  obtain ⟨gv3, hg⟩ := and_e hg
  obtain ⟨gv4, hg⟩ := and_e hg
  have gv5 := hg
  obtain ⟨w0, w1, w2, w3, w4, w5, rfl⟩ : ∃ w0 w1 w2 w3 w4 w5 : Value, args = #[w0, w1, w2, w3, w4, w5] := by
    have hs : args.size = 6 := by simpa [Cond.value, given_1] using g1
    obtain ⟨L⟩ := args
    match L, hs with
    | [w0, w1, w2, w3, w4, w5], _ => exact ⟨w0, w1, w2, w3, w4, w5, rfl⟩
  have hw := fun d (hd : d ∈ tables_1) => atoms_spec (ws := Jvm.Cond.code x code maxLocals ret :: tables_1) hat d (List.mem_cons_of_mem _ hd)
  obtain ⟨i0, ei0⟩ := isL_v gv0
  obtain rfl : w0 = (.long i0) := Option.some.inj ei0
  obtain ⟨i1, ei1⟩ := is_v gv1
  obtain rfl : w1 = (.int i1) := Option.some.inj ei1
  obtain ⟨i2, ei2⟩ := is_v gv2
  obtain rfl : w2 = (.int i2) := Option.some.inj ei2
  obtain ⟨i3, ei3⟩ := is_v gv3
  obtain rfl : w3 = (.int i3) := Option.some.inj ei3
  obtain ⟨i4, ei4⟩ := is_v gv4
  obtain rfl : w4 = (.int i4) := Option.some.inj ei4
  obtain ⟨i5, ei5⟩ := is_v gv5
  obtain rfl : w5 = (.int i5) := Option.some.inj ei5
  obtain ⟨n, o, h1, h2, h3, _, L, rfl, ⟨N, _, L', rfl, _⟩, hq⟩ := rm0 l s _ hw s.heap.size i0 i1 i2 i3 i4 i5 s.heap tables_1 (Nat.le_refl _) ⟨fun _ q => (nomatch q), List.nodup_nil⟩ p e ha hc hk s m _ below hf ((Spec.applies_iff_loose hf).mp happ).1 ⟨rfl, State.Warmed39.refl s, rfl⟩ trivial
  refine ⟨n, _, h1, h2, h3, hpost _ _ _ _ _ _ ⟨Cond.after_iff.mpr rfl, Cond.after_iff.mpr (eq_i res_at (Term.int_eval (1)) rfl), trivial⟩ ⟨hq.1, hq.2.1, hq.2.2.sift fun y hy => Or.inr (N y hy)⟩⟩
theorem main_1_1 : Claimed_1_1 := comes_1 fun _ _ _ _ _ _ h hF => ⟨h.1, hF⟩
theorem main_1_2 : Claimed_1_2 := comes_1 fun _ _ _ _ _ _ h hF => ⟨h.2.1, hF⟩
end Jvm.Pilot.@@N@@
namespace Jvm.Pilot.@@N@@
open Jvm Jvm.ClassFile Sem Op Lib Jvm.Free Jvm.Stand Jvm.Pilot.@@N@@.Jvm.D
/-! MADE BY PROGRAM (witnessworld.py) out of the Statement's table words and the real class files: 18 classes; the members and pool entries that the words name. The judged class is class 1, her method 1. -/
namespace start1
open Jvm.ClassFile
def u (s : String) : CpInfo := .utf8 (stringToUtf16 s)
/-- a pool by its gaps: so many unusable entries, then the entry; so many at the end -/
def gap : Nat → List CpInfo → List CpInfo
  | 0, r => r
  | n + 1, r => .unusable :: gap n r
def poolList (es : List (Nat × CpInfo)) (last : Nat) : List CpInfo := es.foldr (fun e r => gap e.1 (e.2 :: r)) (gap last [])
def pool (es : List (Nat × CpInfo)) (last : Nat) : Array CpInfo := ⟨poolList es last⟩
def fileOf (pool : Array CpInfo) (this : Nat) (attrs : Array Attribute := #[]) (ms : Array MethodInfo := #[]) (fl : Nat := 33) (sup : Nat := 0) (ifs : Array Nat := #[]) (fds : Array FieldInfo := #[]) : ClassFile where
  minorVersion := 0
  majorVersion := 65
  constantPool := pool
  accessFlags := fl
  thisClass := this
  superClass := sup
  interfaces := ifs
  fields := fds
  methods := ms
  attributes := attrs
def plain (name : String) (sup : Option ClassId) : Class where
  name := name
  kind := .ordinary
  loader := none
  accessFlags := 33
  super := sup
  interfaces := #[]
  cf := none
  fields := #[]
  methods := #[]
  instanceTypes := #[]
  staticTypes := #[]
  resolved := #[]
  callSites := []
  init := .initialized
  statics := none
  mirror := none

def pool0 : Array CpInfo := pool [(5, u "<init>"), (0, u "()V"), (1, .class_ 10), (1, u "java/lang/Object")] 113

def k0c0 : Code := { maxStack := 0, maxLocals := 1, code := object_method_1_code, exceptionTable := #[], attributes := #[] }
def k0m0 : Method := { name := "<init>", desc := "()V", sig := { parameters := [], returnType := none }, accessFlags := 1, code := some k0c0 }
/-- java/lang/Object -/
def k0 : Class := { plain "java/lang/Object" none with
  accessFlags := 33
  interfaces := #[]
  cf := some (fileOf pool0 8 #[] #[{ accessFlags := 1, nameIndex := 5, descriptorIndex := 6, attributes := #[] }] 33 0 #[] #[])
  fields := #[]
  methods := #[k0m0]
  instanceTypes := #[]
  staticTypes := #[]
  resolved := Array.replicate 124 none
  statics := none }

def pool1 : Array CpInfo := pool [(2, .class_ 4), (1, u "java/lang/Object"), (0, u "<init>"), (0, u "()V"), (0, .integer 2147483647), (0, .class_ 9), (0, u "com/example/capabind/capabind/registry/Verdicts"), (0, .methodref 8 11), (0, .nameAndType 5 12), (0, u "(JI)V"), (0, .methodref 8 14), (0, .nameAndType 15 16), (0, u "decide"), (0, u "(IZ)V"), (0, .methodref 8 18), (0, .nameAndType 19 20), (0, u "meets"), (0, u "(I)Z"), (0, .methodref 8 22), (0, .nameAndType 23 24), (0, u "firstNotFailing"), (0, u "(II)I"), (0, .methodref 8 26), (0, .nameAndType 27 28), (0, u "version"), (0, u "()J"), (0, .class_ 30), (0, u "com/example/capabind/capabind/registry/VerdictsDecidePinLaw"), (2, u "law"), (0, u "(JIIIII)Z")] 3

def k1m0 : Method := { name := "<init>", desc := "()V", sig := { parameters := [], returnType := none }, accessFlags := 2, code := none }
def k1c1 : Code := { maxStack := 5, maxLocals := 17, code := code, exceptionTable := #[], attributes := #[] }
def k1m1 : Method := { name := "law", desc := "(JIIIII)Z", sig := { parameters := [.long, .int, .int, .int, .int, .int], returnType := some .boolean }, accessFlags := 9, code := some k1c1 }
/-- com/example/capabind/capabind/registry/VerdictsDecidePinLaw -/
def k1 : Class := { plain "com/example/capabind/capabind/registry/VerdictsDecidePinLaw" (some 0) with
  accessFlags := 49
  interfaces := #[]
  cf := some (fileOf pool1 29 #[] #[{ accessFlags := 2, nameIndex := 5, descriptorIndex := 6, attributes := #[] }, { accessFlags := 9, nameIndex := 33, descriptorIndex := 34, attributes := #[] }] 49 2 #[] #[])
  fields := #[]
  methods := #[k1m0, k1m1]
  instanceTypes := #[]
  staticTypes := #[]
  resolved := Array.replicate 38 none
  statics := none }

def pool2 : Array CpInfo := pool [(1, .methodref 2 3), (0, .class_ 4), (0, .nameAndType 5 6), (0, u "com/example/capabind/capabind/registry/Verdicts"), (0, u "words"), (0, u "(I)I"), (0, .methodref 2 8), (0, .nameAndType 9 10), (0, u "<init>"), (0, u "(J[J[J)V"), (0, .methodref 12 13), (0, .class_ 14), (0, .nameAndType 9 15), (0, u "java/lang/Object"), (0, u "()V"), (0, .fieldref 2 17), (0, .nameAndType 18 19), (0, u "version"), (0, u "J"), (0, .fieldref 2 21), (0, .nameAndType 22 23), (0, u "decided"), (0, u "[J"), (0, .fieldref 2 25), (0, .nameAndType 26 23), (0, u "meets"), (2, .class_ 30), (0, u "java/lang/Long"), (2, .long 18446744073709551615), (1, .methodref 29 36), (0, .nameAndType 37 38), (0, u "numberOfTrailingZeros"), (0, u "(J)I"), (0, .methodref 40 41), (0, .class_ 42), (0, .nameAndType 43 44), (0, u "java/lang/Math"), (0, u "min"), (0, u "(II)I"), (71, u "()J"), (4, u "OVERHEAD"), (1, u "(JI)V"), (3, u "firstNotFailing"), (1, u "(I)Z"), (0, u "decide"), (0, u "(IZ)V")] 10

def k2c0 : Code := { maxStack := 5, maxLocals := 4, code := prog_140_method_1_code, exceptionTable := #[], attributes := #[] }
def k2m0 : Method := { name := "<init>", desc := "(JI)V", sig := { parameters := [.long, .int], returnType := none }, accessFlags := 0, code := some k2c0 }
def k2c1 : Code := { maxStack := 3, maxLocals := 5, code := prog_140_method_2_code, exceptionTable := #[], attributes := #[] }
def k2m1 : Method := { name := "<init>", desc := "(J[J[J)V", sig := { parameters := [.long, (.array .long), (.array .long)], returnType := none }, accessFlags := 2, code := some k2c1 }
def k2c2 : Code := { maxStack := 2, maxLocals := 1, code := prog_140_method_3_code, exceptionTable := #[], attributes := #[] }
def k2m2 : Method := { name := "words", desc := "(I)I", sig := { parameters := [.int], returnType := some .int }, accessFlags := 10, code := some k2c2 }
def k2c3 : Code := { maxStack := 2, maxLocals := 1, code := prog_140_method_4_code, exceptionTable := #[], attributes := #[] }
def k2m3 : Method := { name := "version", desc := "()J", sig := { parameters := [], returnType := some .long }, accessFlags := 0, code := some k2c3 }
def k2c4 : Code := { maxStack := 5, maxLocals := 7, code := prog_140_method_6_code, exceptionTable := #[], attributes := #[] }
def k2m4 : Method := { name := "firstNotFailing", desc := "(II)I", sig := { parameters := [.int, .int], returnType := some .int }, accessFlags := 0, code := some k2c4 }
def k2c5 : Code := { maxStack := 5, maxLocals := 2, code := prog_140_method_7_code, exceptionTable := #[], attributes := #[] }
def k2m5 : Method := { name := "meets", desc := "(I)Z", sig := { parameters := [.int], returnType := some .boolean }, accessFlags := 0, code := some k2c5 }
def k2c6 : Code := { maxStack := 7, maxLocals := 3, code := prog_140_method_8_code, exceptionTable := #[], attributes := #[] }
def k2m6 : Method := { name := "decide", desc := "(IZ)V", sig := { parameters := [.int, .boolean], returnType := none }, accessFlags := 0, code := some k2c6 }
/-- com/example/capabind/capabind/registry/Verdicts -/
def k2 : Class := { plain "com/example/capabind/capabind/registry/Verdicts" (some 0) with
  accessFlags := 48
  interfaces := #[]
  cf := some (fileOf pool2 2 #[] #[{ accessFlags := 0, nameIndex := 9, descriptorIndex := 123, attributes := #[] }, { accessFlags := 2, nameIndex := 9, descriptorIndex := 10, attributes := #[] }, { accessFlags := 10, nameIndex := 5, descriptorIndex := 6, attributes := #[] }, { accessFlags := 0, nameIndex := 18, descriptorIndex := 116, attributes := #[] }, { accessFlags := 0, nameIndex := 127, descriptorIndex := 44, attributes := #[] }, { accessFlags := 0, nameIndex := 26, descriptorIndex := 129, attributes := #[] }, { accessFlags := 0, nameIndex := 130, descriptorIndex := 131, attributes := #[] }] 48 12 #[] #[{ accessFlags := 26, nameIndex := 121, descriptorIndex := 19, attributes := #[] }, { accessFlags := 18, nameIndex := 18, descriptorIndex := 19, attributes := #[] }, { accessFlags := 18, nameIndex := 22, descriptorIndex := 23, attributes := #[] }, { accessFlags := 18, nameIndex := 26, descriptorIndex := 23, attributes := #[] }])
  fields := #[{ name := "OVERHEAD", type := .long, accessFlags := 26, slot := 0, constantValue := 0 }, { name := "version", type := .long, accessFlags := 18, slot := 0, constantValue := 0 }, { name := "decided", type := (.array .long), accessFlags := 18, slot := 1, constantValue := 0 }, { name := "meets", type := (.array .long), accessFlags := 18, slot := 2, constantValue := 0 }]
  methods := #[k2m0, k2m1, k2m2, k2m3, k2m4, k2m5, k2m6]
  instanceTypes := #[.long, (.array .long), (.array .long)]
  staticTypes := #[.long]
  resolved := Array.replicate 142 none
  statics := none }

def pool3 : Array CpInfo := pool [(1, .class_ 2), (0, u "java/io/Serializable"), (0, .class_ 4), (0, u "java/lang/Object")] 2

/-- java/io/Serializable -/
def k3 : Class := { plain "java/io/Serializable" (some 0) with
  accessFlags := 1537
  interfaces := #[]
  cf := some (fileOf pool3 1 #[] #[] 1537 3 #[] #[])
  fields := #[]
  methods := #[]
  instanceTypes := #[]
  staticTypes := #[]
  resolved := Array.replicate 7 none
  statics := none }

def pool4 : Array CpInfo := pool [(2, .class_ 4), (1, u "java/lang/Object"), (0, u "<init>"), (0, u "()V"), (1, .class_ 10), (1, u "java/lang/Number"), (2, .class_ 14), (0, u "java/io/Serializable"), (0, u "serialVersionUID"), (0, u "J")] 20

def k4m0 : Method := { name := "<init>", desc := "()V", sig := { parameters := [], returnType := none }, accessFlags := 1, code := none }
/-- java/lang/Number -/
def k4 : Class := { plain "java/lang/Number" (some 0) with
  accessFlags := 1057
  interfaces := #[3]
  cf := some (fileOf pool4 8 #[] #[{ accessFlags := 1, nameIndex := 5, descriptorIndex := 6, attributes := #[] }] 1057 2 #[13] #[{ accessFlags := 26, nameIndex := 15, descriptorIndex := 16, attributes := #[] }])
  fields := #[{ name := "serialVersionUID", type := .long, accessFlags := 26, slot := 0, constantValue := 0 }]
  methods := #[k4m0]
  instanceTypes := #[]
  staticTypes := #[.long]
  resolved := Array.replicate 37 none
  statics := none }

def pool5 : Array CpInfo := pool [(1, .class_ 2), (0, u "java/lang/Comparable"), (0, .class_ 4), (0, u "java/lang/Object")] 7

/-- java/lang/Comparable -/
def k5 : Class := { plain "java/lang/Comparable" (some 0) with
  accessFlags := 1537
  interfaces := #[]
  cf := some (fileOf pool5 1 #[] #[] 1537 3 #[] #[])
  fields := #[]
  methods := #[]
  instanceTypes := #[]
  staticTypes := #[]
  resolved := Array.replicate 12 none
  statics := none }

def pool6 : Array CpInfo := pool [(1, .class_ 2), (0, u "java/lang/constant/Constable"), (0, .class_ 4), (0, u "java/lang/Object")] 6

/-- java/lang/constant/Constable -/
def k6 : Class := { plain "java/lang/constant/Constable" (some 0) with
  accessFlags := 1537
  interfaces := #[]
  cf := some (fileOf pool6 1 #[] #[] 1537 3 #[] #[])
  fields := #[]
  methods := #[]
  instanceTypes := #[]
  staticTypes := #[]
  resolved := Array.replicate 11 none
  statics := none }

def pool7 : Array CpInfo := pool [(1, .class_ 2), (0, u "java/lang/constant/ConstantDesc"), (0, .class_ 4), (0, u "java/lang/Object")] 32

/-- java/lang/constant/ConstantDesc -/
def k7 : Class := { plain "java/lang/constant/ConstantDesc" (some 0) with
  accessFlags := 1537
  interfaces := #[]
  cf := some (fileOf pool7 1 #[] #[] 1537 3 #[] #[])
  fields := #[]
  methods := #[]
  instanceTypes := #[]
  staticTypes := #[]
  resolved := Array.replicate 37 none
  statics := none }

def pool8 : Array CpInfo := pool [(1, .class_ 2), (0, u "java/lang/Long"), (15, .class_ 20), (1, u "java/lang/Integer"), (80, u "(J)I"), (133, .class_ 237), (1, u "java/lang/Long$LongCache"), (33, .class_ 272), (0, u "java/lang/Number"), (2, u "value"), (0, u "J"), (33, u "(I)I"), (0, .methodref 18 312), (0, .nameAndType 313 310), (0, u "numberOfTrailingZeros"), (47, u "TYPE"), (0, u "Ljava/lang/Class;"), (0, .class_ 364), (0, u "java/lang/Comparable"), (0, .class_ 366), (0, u "java/lang/constant/Constable"), (0, .class_ 368), (0, u "java/lang/constant/ConstantDesc"), (0, u "MIN_VALUE"), (1, u "MAX_VALUE"), (4, u "SIZE"), (0, u "I"), (1, u "BYTES"), (1, u "serialVersionUID")] 142

def k8c0 : Code := { maxStack := 4, maxLocals := 3, code := jdk_35_method_49_code, exceptionTable := #[], attributes := #[] }
def k8m0 : Method := { name := "numberOfTrailingZeros", desc := "(J)I", sig := { parameters := [.long], returnType := some .int }, accessFlags := 9, code := some k8c0 }
/-- java/lang/Long -/
def k8 : Class := { plain "java/lang/Long" (some 4) with
  accessFlags := 49
  interfaces := #[5, 6, 7]
  cf := some (fileOf pool8 1 #[.nestMembers #[235]] #[{ accessFlags := 9, nameIndex := 313, descriptorIndex := 101, attributes := #[] }] 49 271 #[363, 365, 367] #[{ accessFlags := 25, nameIndex := 369, descriptorIndex := 276, attributes := #[] }, { accessFlags := 25, nameIndex := 371, descriptorIndex := 276, attributes := #[] }, { accessFlags := 25, nameIndex := 361, descriptorIndex := 362, attributes := #[] }, { accessFlags := 18, nameIndex := 275, descriptorIndex := 276, attributes := #[] }, { accessFlags := 25, nameIndex := 376, descriptorIndex := 377, attributes := #[] }, { accessFlags := 25, nameIndex := 379, descriptorIndex := 377, attributes := #[] }, { accessFlags := 26, nameIndex := 381, descriptorIndex := 276, attributes := #[] }])
  fields := #[{ name := "MIN_VALUE", type := .long, accessFlags := 25, slot := 0, constantValue := 0 }, { name := "MAX_VALUE", type := .long, accessFlags := 25, slot := 1, constantValue := 0 }, { name := "TYPE", type := (.object "java/lang/Class"), accessFlags := 25, slot := 2, constantValue := 0 }, { name := "value", type := .long, accessFlags := 18, slot := 0, constantValue := 0 }, { name := "SIZE", type := .int, accessFlags := 25, slot := 3, constantValue := 0 }, { name := "BYTES", type := .int, accessFlags := 25, slot := 4, constantValue := 0 }, { name := "serialVersionUID", type := .long, accessFlags := 26, slot := 5, constantValue := 0 }]
  methods := #[k8m0]
  instanceTypes := #[.long]
  staticTypes := #[.long, .long, (.object "java/lang/Class"), .int, .int, .long]
  resolved := Array.replicate 524 none
  statics := none }

def pool9 : Array CpInfo := pool [(1, .class_ 2), (0, u "java/lang/Integer"), (16, u "digits"), (0, u "[C"), (33, u "(I)I"), (30, u "DigitOnes"), (0, u "[B"), (2, u "DigitTens"), (99, .class_ 190), (0, u "java/lang/Integer$IntegerCache"), (3, u "I"), (8, .class_ 204), (0, u "java/lang/Number"), (2, u "value"), (56, .integer 65536), (37, u "TYPE"), (0, u "Ljava/lang/Class;"), (0, .class_ 305), (0, u "java/lang/Comparable"), (0, .class_ 307), (0, u "java/lang/constant/Constable"), (0, .class_ 309), (0, u "java/lang/constant/ConstantDesc"), (0, u "MIN_VALUE"), (1, u "MAX_VALUE"), (3, u "SIZE"), (1, u "BYTES"), (1, u "serialVersionUID"), (0, u "J"), (84, u "numberOfTrailingZeros")] 46

def k9c0 : Code := { maxStack := 3, maxLocals := 2, code := jdk_33_method_48_code, exceptionTable := #[], attributes := #[] }
def k9m0 : Method := { name := "numberOfTrailingZeros", desc := "(I)I", sig := { parameters := [.int], returnType := some .int }, accessFlags := 9, code := some k9c0 }
/-- java/lang/Integer -/
def k9 : Class := { plain "java/lang/Integer" (some 4) with
  accessFlags := 49
  interfaces := #[5, 6, 7]
  cf := some (fileOf pool9 1 #[.nestMembers #[189]] #[{ accessFlags := 9, nameIndex := 406, descriptorIndex := 54, attributes := #[] }] 49 203 #[304, 306, 308] #[{ accessFlags := 25, nameIndex := 310, descriptorIndex := 194, attributes := #[] }, { accessFlags := 25, nameIndex := 312, descriptorIndex := 194, attributes := #[] }, { accessFlags := 25, nameIndex := 302, descriptorIndex := 303, attributes := #[] }, { accessFlags := 24, nameIndex := 19, descriptorIndex := 20, attributes := #[] }, { accessFlags := 24, nameIndex := 89, descriptorIndex := 86, attributes := #[] }, { accessFlags := 24, nameIndex := 85, descriptorIndex := 86, attributes := #[] }, { accessFlags := 18, nameIndex := 207, descriptorIndex := 194, attributes := #[] }, { accessFlags := 25, nameIndex := 316, descriptorIndex := 194, attributes := #[] }, { accessFlags := 25, nameIndex := 318, descriptorIndex := 194, attributes := #[] }, { accessFlags := 26, nameIndex := 320, descriptorIndex := 321, attributes := #[] }])
  fields := #[{ name := "MIN_VALUE", type := .int, accessFlags := 25, slot := 0, constantValue := 0 }, { name := "MAX_VALUE", type := .int, accessFlags := 25, slot := 1, constantValue := 0 }, { name := "TYPE", type := (.object "java/lang/Class"), accessFlags := 25, slot := 2, constantValue := 0 }, { name := "digits", type := (.array .char), accessFlags := 24, slot := 3, constantValue := 0 }, { name := "DigitTens", type := (.array .byte), accessFlags := 24, slot := 4, constantValue := 0 }, { name := "DigitOnes", type := (.array .byte), accessFlags := 24, slot := 5, constantValue := 0 }, { name := "value", type := .int, accessFlags := 18, slot := 0, constantValue := 0 }, { name := "SIZE", type := .int, accessFlags := 25, slot := 6, constantValue := 0 }, { name := "BYTES", type := .int, accessFlags := 25, slot := 7, constantValue := 0 }, { name := "serialVersionUID", type := .long, accessFlags := 26, slot := 8, constantValue := 0 }]
  methods := #[k9m0]
  instanceTypes := #[.int]
  staticTypes := #[.int, .int, (.object "java/lang/Class"), (.array .char), (.array .byte), (.array .byte), .int, .int, .long]
  resolved := Array.replicate 453 none
  statics := none }

def pool10 : Array CpInfo := pool [(1, .class_ 2), (0, u "java/lang/Math"), (1, .class_ 6), (1, u "java/lang/Object"), (0, u "<init>"), (0, u "()V"), (89, .class_ 100), (1, u "java/lang/Math$RandomNumberGeneratorHolder"), (71, u "negativeZeroFloatBits"), (0, u "J"), (2, u "negativeZeroDoubleBits"), (24, u "min"), (43, u "$assertionsDisabled"), (0, u "Z"), (88, u "(II)I"), (2, u "twoToTheDoubleScaleDown"), (0, u "D"), (4, u "twoToTheDoubleScaleUp"), (9, u "E"), (3, u "PI"), (2, u "TAU"), (2, u "DEGREES_TO_RADIANS"), (0, u "RADIANS_TO_DEGREES")] 94

def k10m0 : Method := { name := "<init>", desc := "()V", sig := { parameters := [], returnType := none }, accessFlags := 2, code := none }
def k10c1 : Code := { maxStack := 2, maxLocals := 2, code := jdk_29_method_69_code, exceptionTable := #[], attributes := #[] }
def k10m1 : Method := { name := "min", desc := "(II)I", sig := { parameters := [.int, .int], returnType := some .int }, accessFlags := 9, code := some k10c1 }
/-- java/lang/Math -/
def k10 : Class := { plain "java/lang/Math" (some 0) with
  accessFlags := 49
  interfaces := #[]
  cf := some (fileOf pool10 1 #[.nestMembers #[98]] #[{ accessFlags := 2, nameIndex := 7, descriptorIndex := 8, attributes := #[] }, { accessFlags := 9, nameIndex := 201, descriptorIndex := 335, attributes := #[] }] 49 4 #[] #[{ accessFlags := 25, nameIndex := 354, descriptorIndex := 339, attributes := #[] }, { accessFlags := 25, nameIndex := 358, descriptorIndex := 339, attributes := #[] }, { accessFlags := 25, nameIndex := 361, descriptorIndex := 339, attributes := #[] }, { accessFlags := 26, nameIndex := 364, descriptorIndex := 339, attributes := #[] }, { accessFlags := 26, nameIndex := 365, descriptorIndex := 339, attributes := #[] }, { accessFlags := 26, nameIndex := 172, descriptorIndex := 173, attributes := #[] }, { accessFlags := 26, nameIndex := 176, descriptorIndex := 173, attributes := #[] }, { accessFlags := 8, nameIndex := 344, descriptorIndex := 339, attributes := #[] }, { accessFlags := 8, nameIndex := 338, descriptorIndex := 339, attributes := #[] }, { accessFlags := 4120, nameIndex := 245, descriptorIndex := 246, attributes := #[] }])
  fields := #[{ name := "E", type := .double, accessFlags := 25, slot := 0, constantValue := 0 }, { name := "PI", type := .double, accessFlags := 25, slot := 1, constantValue := 0 }, { name := "TAU", type := .double, accessFlags := 25, slot := 2, constantValue := 0 }, { name := "DEGREES_TO_RADIANS", type := .double, accessFlags := 26, slot := 3, constantValue := 0 }, { name := "RADIANS_TO_DEGREES", type := .double, accessFlags := 26, slot := 4, constantValue := 0 }, { name := "negativeZeroFloatBits", type := .long, accessFlags := 26, slot := 5, constantValue := 0 }, { name := "negativeZeroDoubleBits", type := .long, accessFlags := 26, slot := 6, constantValue := 0 }, { name := "twoToTheDoubleScaleUp", type := .double, accessFlags := 8, slot := 7, constantValue := 0 }, { name := "twoToTheDoubleScaleDown", type := .double, accessFlags := 8, slot := 8, constantValue := 0 }, { name := "$assertionsDisabled", type := .boolean, accessFlags := 4120, slot := 9, constantValue := 0 }]
  methods := #[k10m0, k10m1]
  instanceTypes := #[]
  staticTypes := #[.double, .double, .double, .double, .double, .long, .long, .double, .double, .boolean]
  resolved := Array.replicate 460 none
  statics := none }

def pool11 : Array CpInfo := pool [(1, u "java/lang/Cloneable"), (0, .class_ 1), (0, u "java/lang/Object"), (0, .class_ 3)] 3

/-- java/lang/Cloneable -/
def k11 : Class := { plain "java/lang/Cloneable" (some 0) with
  accessFlags := 1537
  interfaces := #[]
  cf := some (fileOf pool11 2 #[] #[] 1537 4 #[] #[])
  fields := #[]
  methods := #[]
  instanceTypes := #[]
  staticTypes := #[]
  resolved := Array.replicate 8 none
  statics := none }

/-- the primitive byte -/
def k12 : Class := { plain "byte" none with kind := .primitive 'B', accessFlags := 0x411 }
/-- [B -/
def k13 : Class := { plain "[B" (some 0) with kind := .array 12 .byte, interfaces := #[11, 3], accessFlags := 1041 }

/-- the primitive int -/
def k14 : Class := { plain "int" none with kind := .primitive 'I', accessFlags := 0x411 }
/-- [I -/
def k15 : Class := { plain "[I" (some 0) with kind := .array 14 .int, interfaces := #[11, 3], accessFlags := 1041 }

/-- the primitive long -/
def k16 : Class := { plain "long" none with kind := .primitive 'J', accessFlags := 0x411 }
/-- [J -/
def k17 : Class := { plain "[J" (some 0) with kind := .array 16 .long, interfaces := #[11, 3], accessFlags := 1041 }

def heap : Heap := #[]
def classes : Array Class := #[k0, k1, k2, k3, k4, k5, k6, k7, k8, k9, k10, k11, k12, k13, k14, k15, k16, k17]
def interned : List (Array UInt16 × Addr) := []
def slotsUsed : Nat := 0
def theMethod : MethodId := ⟨1, 1⟩
def args0 : Array Value := #[.long 9, .int 50, .int 51, .int 52, .int 5, .int 3]
def aboutOver (below : List Frame) : State where
  vm := { classes := classes, interned := interned.toArray }
  heap := heap
  slotsUsed := slotsUsed
  threads := #[{ frames := .invoking theMethod args0 :: below }]
def below0 : List Frame := [.native { method := ⟨0, 0⟩, args := #[] }]
def about1 : State := aboutOver below0
def p0 : Program := .bare "" "" ""
def e0 : Env := launch0.env 0 0 0
theorem w_frames : about1.frames = Frame.invoking theMethod args0 :: below0 := rfl
set_option maxRecDepth 65536 in
theorem w_args : argsFit about1.vm theMethod args0 = true := by decide +kernel
set_option maxRecDepth 65536 in
theorem w_heap : heapFits about1 = true := by decide +kernel
set_option maxRecDepth 65536 in
theorem w_runnable : about1.curStatus? = some .runnable := by decide +kernel
set_option maxRecDepth 65536 in
theorem w_alone : about1.alone = true := by decide +kernel
set_option maxRecDepth 65536 in
theorem w_named : about1.methodNamed? x = some theMethod := by decide +kernel
set_option maxRecDepth 65536 in
theorem w_hears : about1.hears theMethod below0 = true := by decide +kernel
set_option maxRecDepth 65536 in
theorem w_ripe : about1.ripe theMethod args0 below0 = true := by decide +kernel
theorem w_running : about1.status = .running := rfl
set_option maxRecDepth 65536 in
theorem w_room : about1.hasRoom e0.platform room_1 = true :=
  launch0.hasRoom_least _ room_1 (by decide +kernel) (by decide +kernel) (by decide +kernel) (by decide +kernel) (by decide +kernel) (by decide +kernel)
theorem allAtoms_all (ts : List Jvm.Cond) (a : Array Jvm.Value) (st : Jvm.State) : (allAtoms ts).before a st = ts.all (fun c => c.before a st) := by
  induction ts with
  | nil => rfl
  | cons c t ih =>
    show (Jvm.Cond.and c (allAtoms t)).before a st = _
    rw [Jvm.Cond.before_and, ih, List.all_cons]
def words1 : List Jvm.Cond := Jvm.Cond.code x code maxLocals ret :: tables_1
/-- a 'code' word, met by the world's own term for the bytes: nothing is compared byte by byte -/
theorem code_word {y : MethodName} {bytes : ByteArray} {mx : Nat} {rt : Option FieldType} {a : Array Value} {s : State} {m : MethodId} {meth : Method} {c : Code} (h1 : s.methodNamed? y = some m) (h2 : s.vm.method? m = some meth) (h3 : meth.code = some c) (h4 : c.code = bytes)
    (h5 : (c.maxLocals == mx && c.exceptionTable.isEmpty && decide (c.maxStack ≤ mostOperands) && decide (meth.sig.returnType = rt) && !meth.locks && decide (parseMethodDescriptor y.desc = some meth.sig)) = true) : (Jvm.Cond.code y bytes mx rt).before a s = true := by
  simp only [Bool.and_eq_true, beq_iff_eq, Bool.not_eq_true', decide_eq_true_eq] at h5
  obtain ⟨⟨⟨⟨⟨g1, g2⟩, g3⟩, g4⟩, g5⟩, g6⟩ := h5
  simp [Cond.before, Cond.holds, Cond.value, h1, h2, h3, h4, g1, g2, g3, g4, g5, g6]
def isCode : Jvm.Cond → Bool
  | .code _ _ _ _ => true
  | _ => false
theorem all_split {L : List Jvm.Cond} {P : Jvm.Cond → Bool} (h1 : L.all (fun c => isCode c || P c) = true) (h2 : ∀ c ∈ L.filter isCode, P c = true) : L.all P = true := by
  refine List.all_eq_true.mpr fun c hc => ?_
  have h := List.all_eq_true.mp h1 c hc
  rcases Bool.eq_false_or_eq_true (isCode c) with hi | hi
  · exact h2 c (List.mem_filter.mpr ⟨hc, hi⟩)
  · simpa [hi] using h
set_option maxRecDepth 65536 in
theorem w_c0 : (Jvm.Cond.code x code maxLocals ret).before args0 about1 = true := code_word (m := ⟨1, 1⟩) (meth := k1m1) (c := k1c1) (by decide +kernel) rfl rfl rfl (by decide +kernel)
set_option maxRecDepth 65536 in
theorem w_c1 : (Jvm.Cond.code ({ cls := "com/example/capabind/capabind/registry/Verdicts", name := "<init>", desc := "(JI)V" } : Jvm.MethodName) prog_140_method_1_code (4 : Nat) (Option.none : Option Jvm.ClassFile.FieldType)).before args0 about1 = true := code_word (m := ⟨2, 0⟩) (meth := k2m0) (c := k2c0) (by decide +kernel) rfl rfl rfl (by decide +kernel)
set_option maxRecDepth 65536 in
theorem w_c2 : (Jvm.Cond.code ({ cls := "com/example/capabind/capabind/registry/Verdicts", name := "words", desc := "(I)I" } : Jvm.MethodName) prog_140_method_3_code (1 : Nat) (Option.some Jvm.ClassFile.FieldType.int)).before args0 about1 = true := code_word (m := ⟨2, 2⟩) (meth := k2m2) (c := k2c2) (by decide +kernel) rfl rfl rfl (by decide +kernel)
set_option maxRecDepth 65536 in
theorem w_c3 : (Jvm.Cond.code ({ cls := "com/example/capabind/capabind/registry/Verdicts", name := "<init>", desc := "(J[J[J)V" } : Jvm.MethodName) prog_140_method_2_code (5 : Nat) (Option.none : Option Jvm.ClassFile.FieldType)).before args0 about1 = true := code_word (m := ⟨2, 1⟩) (meth := k2m1) (c := k2c1) (by decide +kernel) rfl rfl rfl (by decide +kernel)
set_option maxRecDepth 65536 in
theorem w_c4 : (Jvm.Cond.code ({ cls := "java/lang/Object", name := "<init>", desc := "()V" } : Jvm.MethodName) object_method_1_code (1 : Nat) (Option.none : Option Jvm.ClassFile.FieldType)).before args0 about1 = true := code_word (m := ⟨0, 0⟩) (meth := k0m0) (c := k0c0) (by decide +kernel) rfl rfl rfl (by decide +kernel)
set_option maxRecDepth 65536 in
theorem w_c5 : (Jvm.Cond.code ({ cls := "com/example/capabind/capabind/registry/Verdicts", name := "decide", desc := "(IZ)V" } : Jvm.MethodName) prog_140_method_8_code (3 : Nat) (Option.none : Option Jvm.ClassFile.FieldType)).before args0 about1 = true := code_word (m := ⟨2, 6⟩) (meth := k2m6) (c := k2c6) (by decide +kernel) rfl rfl rfl (by decide +kernel)
set_option maxRecDepth 65536 in
theorem w_c6 : (Jvm.Cond.code ({ cls := "com/example/capabind/capabind/registry/Verdicts", name := "meets", desc := "(I)Z" } : Jvm.MethodName) prog_140_method_7_code (2 : Nat) (Option.some Jvm.ClassFile.FieldType.boolean)).before args0 about1 = true := code_word (m := ⟨2, 5⟩) (meth := k2m5) (c := k2c5) (by decide +kernel) rfl rfl rfl (by decide +kernel)
set_option maxRecDepth 65536 in
theorem w_c7 : (Jvm.Cond.code ({ cls := "com/example/capabind/capabind/registry/Verdicts", name := "firstNotFailing", desc := "(II)I" } : Jvm.MethodName) prog_140_method_6_code (7 : Nat) (Option.some Jvm.ClassFile.FieldType.int)).before args0 about1 = true := code_word (m := ⟨2, 4⟩) (meth := k2m4) (c := k2c4) (by decide +kernel) rfl rfl rfl (by decide +kernel)
set_option maxRecDepth 65536 in
theorem w_c8 : (Jvm.Cond.code ({ cls := "java/lang/Long", name := "numberOfTrailingZeros", desc := "(J)I" } : Jvm.MethodName) jdk_35_method_49_code (3 : Nat) (Option.some Jvm.ClassFile.FieldType.int)).before args0 about1 = true := code_word (m := ⟨8, 0⟩) (meth := k8m0) (c := k8c0) (by decide +kernel) rfl rfl rfl (by decide +kernel)
set_option maxRecDepth 65536 in
theorem w_c9 : (Jvm.Cond.code ({ cls := "java/lang/Integer", name := "numberOfTrailingZeros", desc := "(I)I" } : Jvm.MethodName) jdk_33_method_48_code (2 : Nat) (Option.some Jvm.ClassFile.FieldType.int)).before args0 about1 = true := code_word (m := ⟨9, 0⟩) (meth := k9m0) (c := k9c0) (by decide +kernel) rfl rfl rfl (by decide +kernel)
set_option maxRecDepth 65536 in
theorem w_c10 : (Jvm.Cond.code ({ cls := "java/lang/Math", name := "min", desc := "(II)I" } : Jvm.MethodName) jdk_29_method_69_code (2 : Nat) (Option.some Jvm.ClassFile.FieldType.int)).before args0 about1 = true := code_word (m := ⟨10, 1⟩) (meth := k10m1) (c := k10c1) (by decide +kernel) rfl rfl rfl (by decide +kernel)
set_option maxRecDepth 65536 in
theorem w_c11 : (Jvm.Cond.code ({ cls := "com/example/capabind/capabind/registry/Verdicts", name := "version", desc := "()J" } : Jvm.MethodName) prog_140_method_4_code (1 : Nat) (Option.some Jvm.ClassFile.FieldType.long)).before args0 about1 = true := code_word (m := ⟨2, 3⟩) (meth := k2m3) (c := k2c3) (by decide +kernel) rfl rfl rfl (by decide +kernel)
def codes1 : List Jvm.Cond := [Jvm.Cond.code x code maxLocals ret, Jvm.Cond.code ({ cls := "com/example/capabind/capabind/registry/Verdicts", name := "<init>", desc := "(JI)V" } : Jvm.MethodName) prog_140_method_1_code (4 : Nat) (Option.none : Option Jvm.ClassFile.FieldType), Jvm.Cond.code ({ cls := "com/example/capabind/capabind/registry/Verdicts", name := "words", desc := "(I)I" } : Jvm.MethodName) prog_140_method_3_code (1 : Nat) (Option.some Jvm.ClassFile.FieldType.int), Jvm.Cond.code ({ cls := "com/example/capabind/capabind/registry/Verdicts", name := "<init>", desc := "(J[J[J)V" } : Jvm.MethodName) prog_140_method_2_code (5 : Nat) (Option.none : Option Jvm.ClassFile.FieldType), Jvm.Cond.code ({ cls := "java/lang/Object", name := "<init>", desc := "()V" } : Jvm.MethodName) object_method_1_code (1 : Nat) (Option.none : Option Jvm.ClassFile.FieldType), Jvm.Cond.code ({ cls := "com/example/capabind/capabind/registry/Verdicts", name := "decide", desc := "(IZ)V" } : Jvm.MethodName) prog_140_method_8_code (3 : Nat) (Option.none : Option Jvm.ClassFile.FieldType), Jvm.Cond.code ({ cls := "com/example/capabind/capabind/registry/Verdicts", name := "meets", desc := "(I)Z" } : Jvm.MethodName) prog_140_method_7_code (2 : Nat) (Option.some Jvm.ClassFile.FieldType.boolean), Jvm.Cond.code ({ cls := "com/example/capabind/capabind/registry/Verdicts", name := "firstNotFailing", desc := "(II)I" } : Jvm.MethodName) prog_140_method_6_code (7 : Nat) (Option.some Jvm.ClassFile.FieldType.int), Jvm.Cond.code ({ cls := "java/lang/Long", name := "numberOfTrailingZeros", desc := "(J)I" } : Jvm.MethodName) jdk_35_method_49_code (3 : Nat) (Option.some Jvm.ClassFile.FieldType.int), Jvm.Cond.code ({ cls := "java/lang/Integer", name := "numberOfTrailingZeros", desc := "(I)I" } : Jvm.MethodName) jdk_33_method_48_code (2 : Nat) (Option.some Jvm.ClassFile.FieldType.int), Jvm.Cond.code ({ cls := "java/lang/Math", name := "min", desc := "(II)I" } : Jvm.MethodName) jdk_29_method_69_code (2 : Nat) (Option.some Jvm.ClassFile.FieldType.int), Jvm.Cond.code ({ cls := "com/example/capabind/capabind/registry/Verdicts", name := "version", desc := "()J" } : Jvm.MethodName) prog_140_method_4_code (1 : Nat) (Option.some Jvm.ClassFile.FieldType.long)]
set_option maxRecDepth 65536 in
theorem codes_eq : words1.filter isCode = codes1 := rfl
theorem w_codes : ∀ c ∈ words1.filter isCode, c.before args0 about1 = true := by
  rw [codes_eq]
  intro c hc
  simp only [codes1, List.mem_cons, List.not_mem_nil, or_false] at hc
  rcases hc with rfl | rfl | rfl | rfl | rfl | rfl | rfl | rfl | rfl | rfl | rfl | rfl
  · exact w_c0
  · exact w_c1
  · exact w_c2
  · exact w_c3
  · exact w_c4
  · exact w_c5
  · exact w_c6
  · exact w_c7
  · exact w_c8
  · exact w_c9
  · exact w_c10
  · exact w_c11
set_option maxRecDepth 65536 in
theorem w_t1 : (words1.take 24).all (fun c => isCode c || c.before args0 about1) = true := by decide +kernel
set_option maxRecDepth 65536 in
theorem w_t2 : ((words1.drop 24).take 24).all (fun c => isCode c || c.before args0 about1) = true := by decide +kernel
set_option maxRecDepth 65536 in
theorem w_t3 : ((words1.drop 24).drop 24).all (fun c => isCode c || c.before args0 about1) = true := by decide +kernel
theorem w_tables : (allAtoms (Jvm.Cond.code x code maxLocals ret :: tables_1)).before args0 about1 = true := by
  rw [allAtoms_all]
  show words1.all (fun c => c.before args0 about1) = true
  refine all_split ?_ w_codes
  rw [← List.take_append_drop 24 words1, List.all_append, w_t1, ← List.take_append_drop 24 (words1.drop 24), List.all_append, w_t2, w_t3]
  rfl
set_option maxRecDepth 65536 in
theorem w_case : (Jvm.Cond.and given_1 narrow_1).before args0 about1 = true := by decide +kernel
theorem w_applies : (headSpec (Jvm.Cond.code x code maxLocals ret :: tables_1) room_1).applies x e0.platform about1 = true :=
  (Spec.applies_iff w_frames).mpr ⟨w_running, w_runnable, w_alone, w_named, w_hears, w_ripe, w_room, w_tables⟩
theorem atStart : AtStart classFile x code maxLocals ret World_1 tables_1 room_1 Calls_1 rest_1 Pre_1 launch0 p0 e0 about1 theMethod args0 below0 :=
  ⟨lists_1, trivial, launch0.admits_env _ _ _, launch0.least_env, fairChoices_fair.cas, fairChoices_fair.clock, w_frames, w_args, w_heap, w_applies, trivial, trivial, w_case⟩
end start1
theorem witness_1 : WitnessClaimed_1 := ⟨start1.p0, start1.e0, start1.about1, start1.theMethod, start1.args0, start1.below0, start1.atStart⟩
end Jvm.Pilot.@@N@@
