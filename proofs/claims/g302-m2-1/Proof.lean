import JvmDerived
import JvmDerived.Pilot.@@N@@Statement
import JvmDerived.Pilot.@@N@@Code
set_option linter.unusedVariables false
set_option linter.unusedSimpArgs false
namespace Jvm.Pilot.@@N@@
open Jvm Jvm.ClassFile Sem Op Lib Jvm.Free Jvm.Stand Jvm.LawKit Jvm.RoadKit Bundle Jvm.Pilot.@@N@@.Jvm.D
/-! ## the own layer: a picture of the heap, one fact for where a walk stands, steps in continuation form -/
abbrev Ob : Type := Sum (String × List ((String × String × String) × Value)) (FieldType × List Value)
abbrev Obs : Type := List (Addr × Ob)
def Ara (Z : State) (h : Heap) (a : Addr) (ty : FieldType) (vs : List Value) : Prop :=
  ∃ c : Cell, Arr Z h a c ty ∧ c.slots = vs.toArray ∧ vs.length < 2 ^ 31 ∧ (∀ v ∈ vs, fits ty v = true) ∧ Exa Z h a ("[" ++ ty.toString)
def Is (Z : State) (h : Heap) (a : Addr) (o : Ob) : Prop :=
  match o with
  | .inl q => Exa Z h a q.1 ∧ ∀ f ∈ q.2, Fld Z h a f.1.1 f.1.2.1 f.1.2.2 f.2
  | .inr q => Ara Z h a q.1 q.2
def Pic (Z : State) (n0 : Nat) (h : Heap) (L : Obs) : Prop := (∀ q ∈ L, n0 ≤ q.1 ∧ Is Z h q.1 q.2) ∧ (L.map Prod.fst).Nodup
def Lays (Z : State) (a0 : Array Value) (C : String) (fn : List (String × String × String)) : Prop :=
  (∀ q ∈ fn, Laid Z a0 C q.1 q.2.1 q.2.2 ∧ ∃ t, parseFieldDescriptor q.2.2 = some t) ∧ (fn.map fun q => q.2.1).Nodup
section Pics
variable {Z : State} {h h' : Heap} {a b : Addr} {o o' : Ob} {n0 : Nat} {L L' : Obs} {sl : Nat} {v : Value} {a0 : Array Value}
theorem Is.lt (I : Is Z h a o) : a < h.size := by
  cases o with
  | inl q => exact I.1.lt
  | inr q => obtain ⟨c, A, _⟩ := I; exact A.lt
theorem Is.ext (E : Ext h h') (I : Is Z h a o) : Is Z h' a o := by
  cases o with
  | inl q => exact ⟨I.1.ext E, fun f hf => (I.2 f hf).ext E⟩
  | inr q => obtain ⟨c, A, r1, r2, r3, r4⟩ := I; exact ⟨c, A.ext E, r1, r2, r3, r4.ext E⟩
theorem Is.other (W : Wr h h' b sl v) (ne : a ≠ b) (I : Is Z h a o) : Is Z h' a o := by
  cases o with
  | inl q => exact ⟨I.1.wr W, fun f hf => (I.2 f hf).other W (Or.inl ne)⟩
  | inr q => obtain ⟨c, A, r1, r2, r3, r4⟩ := I; exact ⟨c, A.other W ne, r1, r2, r3, r4.wr W⟩
theorem nodup_get {α : Type} : ∀ {l : List α} {i j : Nat} {x : α}, l.Nodup → l[i]? = some x → l[j]? = some x → i = j
  | [], i, j, x, _, h, _ => by simp at h
  | y :: t, 0, 0, x, _, _, _ => rfl
  | y :: t, 0, j + 1, x, hn, h1, h2 => by
    simp at h1 h2; subst h1
    exact absurd (List.mem_of_getElem? h2) (List.nodup_cons.mp hn).1
  | y :: t, i + 1, 0, x, hn, h1, h2 => by
    simp at h1 h2; subst h2
    exact absurd (List.mem_of_getElem? h1) (List.nodup_cons.mp hn).1
  | y :: t, i + 1, j + 1, x, hn, h1, h2 => by
    simp at h1 h2
    rw [nodup_get (List.nodup_cons.mp hn).2 h1 h2]
theorem mem_set_get {α : Type} {l : List α} {i : Nat} {x q : α} (h : q ∈ l.set i x) : q = x ∨ ∃ j, j ≠ i ∧ l[j]? = some q := by
  obtain ⟨j, hj⟩ := List.mem_iff_getElem?.mp h
  by_cases e : j = i
  · subst e
    rw [List.getElem?_set] at hj
    by_cases hl : j < l.length
    · simp [hl] at hj; exact Or.inl hj.symm
    · simp [hl] at hj
  · rw [List.getElem?_set_ne (Ne.symm e)] at hj
    exact Or.inr ⟨j, e, hj⟩
theorem Pic.new (P : Pic Z n0 h L) (E : Ext h h') (Z0 : n0 ≤ h.size) (I : Is Z h' h.size o) : Pic Z n0 h' ((h.size, o) :: L) := by
  refine ⟨fun q hq => ?_, ?_⟩
  · rcases List.mem_cons.mp hq with rfl | hq
    · exact ⟨Z0, I⟩
    · exact ⟨(P.1 q hq).1, (P.1 q hq).2.ext E⟩
  · show (h.size :: L.map Prod.fst).Nodup
    refine List.nodup_cons.mpr ⟨fun hm => ?_, P.2⟩
    obtain ⟨q, hq, e⟩ := List.mem_map.mp hm
    have lt := (P.1 q hq).2.lt
    rw [e] at lt
    exact Nat.lt_irrefl _ lt
theorem map_set_same {α β : Type} (f : α → β) : ∀ {l : List α} {i : Nat} {x y : α}, l[i]? = some x → f y = f x → (l.set i y).map f = l.map f
  | [], i, x, y, h, _ => by simp at h
  | z :: t, 0, x, y, h, e => by simp at h; subst h; simp [e]
  | z :: t, i + 1, x, y, h, e => by simp at h; simp [map_set_same f h e]
theorem Pic.set {i : Nat} (P : Pic Z n0 h L) (W : Wr h h' a sl v) (hi : L[i]? = some (a, o)) (I : Is Z h' a o') : Pic Z n0 h' (L.set i (a, o')) := by
  refine ⟨fun q hq => ?_, ?_⟩
  · rcases mem_set_get hq with rfl | ⟨j, ne, hj⟩
    · exact ⟨(P.1 _ (List.mem_of_getElem? hi)).1, I⟩
    · refine ⟨(P.1 _ (List.mem_of_getElem? hj)).1, (P.1 _ (List.mem_of_getElem? hj)).2.other W fun e => ne ?_⟩
      refine nodup_get P.2 (x := a) ?_ ?_
      · rw [List.getElem?_map, hj]; simp [e]
      · rw [List.getElem?_map, hi]; simp
  · rw [map_set_same Prod.fst (y := (a, o')) hi rfl]; exact P.2
theorem front_perm {α : Type} : ∀ {l : List α} {i : Nat} {x : α}, l[i]? = some x → List.Perm (x :: l.eraseIdx i) l
  | [], i, x, h => by simp at h
  | z :: t, 0, x, h => by simp at h; subst h; exact List.Perm.refl _
  | z :: t, i + 1, x, h => by
    simp at h
    exact (List.Perm.swap z x _).trans ((front_perm h).cons z)
theorem Pic.perm (P : Pic Z n0 h L) (q : List.Perm L' L) : Pic Z n0 h L' :=
  ⟨fun x hx => P.1 x (q.mem_iff.mp hx), ((q.map Prod.fst).nodup_iff).mpr P.2⟩
theorem Pic.front {i : Nat} {x : Addr × Ob} (P : Pic Z n0 h L) (hi : L[i]? = some x) : Pic Z n0 h (x :: L.eraseIdx i) := P.perm (front_perm hi)
theorem Pic.ne {i j : Nat} {x y : Ob} (P : Pic Z n0 h L) (hi : L[i]? = some (a, x)) (hj : L[j]? = some (b, y)) (hn : i ≠ j) : a ≠ b := fun e => hn (by
  subst e
  refine nodup_get P.2 (x := a) ?_ ?_
  · rw [List.getElem?_map, hi]; simp
  · rw [List.getElem?_map, hj]; simp)
theorem Is.put {C O n d : String} {fs : List ((String × String × String) × Value)} {j : Nat} {old : Value} (W : Wr h h' a (Jvm.RoadKit.slotOf Z O n d) v) (hl : Lays Z a0 C (fs.map Prod.fst)) (I : Is Z h a (.inl (C, fs))) (hf : fs[j]? = some ((O, n, d), old)) : Is Z h' a (.inl (C, fs.set j ((O, n, d), v))) := by
  refine ⟨I.1.wr W, fun f hm => ?_⟩
  rcases mem_set_get hm with rfl | ⟨i, ne, hi⟩
  · exact Fld.same W (I.2 ((O, n, d), old) (List.mem_of_getElem? hf))
  · have g1 : (fs.map Prod.fst)[i]? = some f.1 := by rw [List.getElem?_map, hi]; rfl
    have g2 : (fs.map Prod.fst)[j]? = some (O, n, d) := by rw [List.getElem?_map, hf]; rfl
    obtain ⟨l1, t1, p1⟩ := hl.1 _ (List.mem_of_getElem? g1)
    obtain ⟨l2, t2, p2⟩ := hl.1 _ (List.mem_of_getElem? g2)
    refine (I.2 _ (List.mem_of_getElem? hi)).other W (Or.inr (slot_ne l1 l2 (fun e => ne ?_) p1 p2))
    refine nodup_get hl.2 (x := n) ?_ ?_
    · rw [List.getElem?_map, g1]; simp [← e]
    · rw [List.getElem?_map, g2]; try rfl
theorem Ara.put {ty : FieldType} {vs : List Value} {j : Int32} (I : Ara Z h a ty vs) (W : Wr h h' a j.toNatClampNeg v) (hf : fits ty v = true) : Ara Z h' a ty (vs.set j.toNatClampNeg v) := by
  obtain ⟨c, A, r1, r2, r3, r4⟩ := I
  refine ⟨c.setSlot j.toNatClampNeg v, A.same W, ?_, by rw [List.length_set]; exact r2, fun x hx => ?_, r4.wr W⟩
  · show c.slots.setIfInBounds _ _ = _
    rw [r1]; simp
  · rcases mem_set_get hx with rfl | ⟨i, _, hi⟩
    · exact hf
    · exact r3 _ (List.mem_of_getElem? hi)
theorem fits_def (aty : ArrayType) : fits (newarray.typeOf aty) (defaultValue (newarray.typeOf aty)) = true := by cases aty <;> decide
theorem Is.keep {ws : List Addr} (K : Keep h h' ws) (hn : a ∉ ws) (I : Is Z h a o) : Is Z h' a o := by
  cases o with
  | inl q => exact ⟨I.1.keep K, fun f hf => (I.2 f hf).keep K hn⟩
  | inr q => obtain ⟨c, A, r1, r2, r3, r4⟩ := I; exact ⟨c, ⟨K.2.1 a c A.1 hn, A.2⟩, r1, r2, r3, r4.keep K⟩
theorem Pic.setK {i : Nat} (P : Pic Z n0 h L) (K : Keep h h' [a]) (hi : L[i]? = some (a, o)) (I : Is Z h' a o') : Pic Z n0 h' (L.set i (a, o')) := by
  refine ⟨fun q hq => ?_, ?_⟩
  · rcases mem_set_get hq with rfl | ⟨j, ne, hj⟩
    · exact ⟨(P.1 _ (List.mem_of_getElem? hi)).1, I⟩
    · refine ⟨(P.1 _ (List.mem_of_getElem? hj)).1, (P.1 _ (List.mem_of_getElem? hj)).2.keep K fun e => ne ?_⟩
      have e := List.mem_singleton.mp e
      refine nodup_get P.2 (x := a) ?_ ?_
      · rw [List.getElem?_map, hj]; simp [e]
      · rw [List.getElem?_map, hi]; simp
  · rw [map_set_same Prod.fst (y := (a, o')) hi rfl]; exact P.2
theorem Arv.toAra {k : ClassId} {ty : FieldType} {z : Int32} {vs : List Value} {dv : Value} (V : Arv Z h a k ty z vs dv) (hz : z.toNatClampNeg = vs.length) (hl : vs.length < 2 ^ 31) (E : Exa Z h a ("[" ++ ty.toString)) : Ara Z h a ty vs := by
  obtain ⟨c, A, q1, q2, q3, H, G⟩ := V
  refine ⟨c, A, ?_, hl, fun v hv => ?_, E⟩
  · refine Array.ext_getElem? fun i => ?_
    by_cases hi : i < c.slots.size
    · rw [H i hi, List.getElem?_toArray, List.getD_eq_getElem?_getD]
      have : i < vs.length := by omega
      rw [List.getElem?_eq_getElem this]; rfl
    · rw [Array.getElem?_eq_none (by omega), List.getElem?_toArray, List.getElem?_eq_none (by omega)]
  · obtain ⟨i, hi⟩ := List.mem_iff_getElem?.mp hv
    have hlt := (List.getElem?_eq_some_iff.mp hi).1
    have := G i (by omega)
    rw [List.getD_eq_getElem?_getD, hi] at this
    exact this
theorem Ara.toArv {ty : FieldType} {vs : List Value} (I : Ara Z h a ty vs) (dv : Value) : ∃ k, Arv Z h a k ty vs.length.toInt32 vs dv ∧ vs.length.toInt32.toNatClampNeg = vs.length ∧ ¬ vs.length.toInt32 < 0 := by
  obtain ⟨c, A, r1, r2, r3, r4⟩ := I
  have e1 : vs.length.toInt32.toInt = vs.length := len_toInt r2
  have e2 : vs.length.toInt32.toNatClampNeg = vs.length := by simp only [Int32.toNatClampNeg, e1]; omega
  have e3 : ¬ vs.length.toInt32 < 0 := by rw [Int32.lt_iff_toInt_lt, e1]; simp only [Int32.reduceToInt]; omega
  have e4 : c.slots.size = vs.length := by rw [r1]; simp
  refine ⟨c.cls, ⟨c, A, rfl, by omega, e3, fun k hk => ?_, fun k hk => ?_⟩, e2, e3⟩
  · have : k < vs.length := by omega
    rw [r1, List.getElem?_toArray, List.getElem?_eq_getElem this, List.getD_eq_getElem?_getD, List.getElem?_eq_getElem this]; rfl
  · have : k < vs.length := by omega
    rw [List.getD_eq_getElem?_getD, List.getElem?_eq_getElem this]
    exact r3 _ (List.getElem_mem this)
end Pics
def Go (p : Program) (e : Env) (below : List Frame) (F : State → Prop) (U : State) : Prop := ∃ t, Steps p.tables e below U t ∧ F t
theorem Go.st {p : Program} {e : Env} {below : List Frame} {F : State → Prop} {U U' : State} (h : ∀ t, Steps p.tables e below U' t → Steps p.tables e below U t) (g : Go p e below F U') : Go p e below F U := by
  obtain ⟨t, s, f⟩ := g; exact ⟨t, h t s, f⟩
def Here (p : Program) (l : Launch) (e : Env) (R : Room) (s : State) (m : MethodId) (args : Array Value) (below : List Frame) (meth : Method) (c : Code) (Z : State) (a0 : Array Value) (tbl : List Jvm.Cond) (own nm : String) (bc : ByteArray) (mxl : Nat) (rt : Option FieldType) (n0 : Nat) (T : State) (L : Obs) (cells slots : Nat) : Prop :=
  (p.tables.exec = Jvm.exec ∧ Z.Warmed39 s.vm ∧ s.vm.findClass own = some m.cls ∧ c.code = bc ∧ c.maxLocals = mxl ∧ (∀ d ∈ tbl, d.before a0 Z = true) ∧ meth.name = nm ∧ meth.sig.returnType = rt ∧ meth.locks = false) ∧
  ∃ locs, Stand p l e R s m args below meth c T locs cells slots ∧ Fr n0 locs ∧ n0 ≤ T.heap.size ∧ Pic Z n0 T.heap L
def EndS (below : List Frame) (s : State) (n0 : Nat) (Z : State) (kc ks : Nat) (Q : Option Value → Obs → Prop) (t : State) : Prop :=
  ∃ o, t.status = .running ∧ Ended t below o ∧ ∃ v Lc, o = .returned v ∧ (Fr n0 Lc ∧ n0 ≤ t.heap.size ∧ ∃ L', Q v L' ∧ Pic Z n0 t.heap L') ∧ FrameEnd s o t Lc kc ks
def Triple (l : Launch) (Z : State) (n0 : Nat) (y : MethodName) (bytes : ByteArray) (ml : Nat) (rt : Option FieldType) (rm : Room) (kc ks : Nat) (as : List Value) (L : Obs) (Q : Option Value → Obs → Prop) : Prop :=
  ∀ (h0 : Heap) (ws : List Jvm.Cond), n0 ≤ h0.size → Pic Z n0 h0 L →
    MetFree l y (head1 (Jvm.Cond.code y bytes ml rt :: ws) rm) (fun a U => a = as.toArray ∧ Z.Warmed39 U.vm ∧ U.heap = h0) (fun _ _ _ _ _ => True)
      (fun _ U o U' => ∃ v Lc, o = .returned v ∧ (Fr n0 Lc ∧ n0 ≤ U'.heap.size ∧ ∃ L', Q v L' ∧ Pic Z n0 U'.heap L') ∧ FrameEnd U o U' Lc kc ks)
theorem Triple.of_body {l : Launch} {Z : State} {a0 : Array Value} {tbl : List Jvm.Cond} {n0 : Nat} {y : MethodName} {bytes : ByteArray} {ml : Nat} {rt : Option FieldType} {rm : Room} {kc ks : Nat} {as : List Value} {L : Obs} {Q : Option Value → Obs → Prop} {Ls : Array Slot}
    (hp : plainFor y = true) (hw : ∀ d ∈ tbl, d.before a0 Z = true) (ef : (Jvm.Sym.laidSlots as ++ List.replicate (ml - (Jvm.Sym.laidSlots as).length) Slot.unset).toArray = Ls)
    (body : ∀ p e s m below meth c T, Here p l e rm s m as.toArray below meth c Z a0 tbl y.cls y.name bytes ml rt n0 T L 0 0 → Go p e below (EndS below s n0 Z kc ks Q) (T.setTop (mkF m 0 Ls []))) :
    Triple l Z n0 y bytes ml rt rm kc ks as L Q := by
  intro h0 ws Z0 P0
  refine MetFree.of_bodySF hp hisR ?_
  intro p e s m args below meth c s₁ Bd hml0 hP hK
  obtain ⟨rfl, hZ, hh⟩ := hP
  have e0 : s₁.heap = h0 := by rw [← hh, Bd.state]; rfl
  have A : Here p l e rm s m as.toArray below meth c Z a0 tbl y.cls y.name bytes ml rt n0 s₁ L 0 0 :=
    ⟨⟨Bd.exec, hZ, findClass_of_methodNamed Bd.named, Bd.bytes, hml0, hw, (name_of_methodNamed Bd.named Bd.method).1, Bd.returns, Bd.notSynchronized⟩, [], Stand.of_body Bd, Fr.nil n0, by rw [e0]; exact Z0, by rw [e0]; exact P0⟩
  obtain ⟨t, st, o, h1, h2, h3⟩ := body p e s m below meth c s₁ A
  have ef' : entryFrame m as.toArray ml = mkF m 0 Ls [] := by
    have q := Jvm.Sym.argsToLocals_toList as.toArray ml
    have q2 : argsToLocals as.toArray ml = Ls := by rw [← ef, ← q, Array.toArray_toList]
    unfold entryFrame mkF; rw [q2]
  exact ⟨t, o, castTop ef' st, h1, h2, h3⟩

section Walk
variable {p : Program} {l : Launch} {e : Env} {R : Room} {s : State} {m : MethodId} {args : Array Value} {below : List Frame} {meth : Method} {c : Code} {Z : State} {a0 : Array Value} {tbl : List Jvm.Cond} {own nm : String} {bc : ByteArray} {mxl : Nat} {rt : Option FieldType} {n0 : Nat} {T : State} {L : Obs} {cells slots : Nat} {F : State → Prop}
theorem Here.pt (A : Here p l e R s m args below meth c Z a0 tbl own nm bc mxl rt n0 T L cells slots) : At T m c below := by obtain ⟨_, X, _⟩ := A.2; exact X.here
theorem Here.iadd (A : Here p l e R s m args below meth c Z a0 tbl own nm bc mxl rt n0 T L cells slots) {pc q : Nat} {Ls : Array Slot} {st : List Value} {x y v : Int32} (hd : decode bc pc = .ok (.iadd, 1)) (hq : pc + 1 = q) (hv : x + y = v) (k : Go p e below F (T.setTop (mkF m q Ls (.int v :: st)))) : Go p e below F (T.setTop (mkF m pc Ls (.int y :: .int x :: st))) := by
  subst hq hv
  exact Go.st (fun t h => XS.iadd A.pt A.1.1 rfl (hb A.1.2.2.2.1 hd) rfl h) k
theorem Here.isub (A : Here p l e R s m args below meth c Z a0 tbl own nm bc mxl rt n0 T L cells slots) {pc q : Nat} {Ls : Array Slot} {st : List Value} {x y v : Int32} (hd : decode bc pc = .ok (.isub, 1)) (hq : pc + 1 = q) (hv : x - y = v) (k : Go p e below F (T.setTop (mkF m q Ls (.int v :: st)))) : Go p e below F (T.setTop (mkF m pc Ls (.int y :: .int x :: st))) := by
  subst hq hv
  exact Go.st (fun t h => XS.isub A.pt A.1.1 rfl (hb A.1.2.2.2.1 hd) rfl h) k
theorem Here.imul (A : Here p l e R s m args below meth c Z a0 tbl own nm bc mxl rt n0 T L cells slots) {pc q : Nat} {Ls : Array Slot} {st : List Value} {x y v : Int32} (hd : decode bc pc = .ok (.imul, 1)) (hq : pc + 1 = q) (hv : x * y = v) (k : Go p e below F (T.setTop (mkF m q Ls (.int v :: st)))) : Go p e below F (T.setTop (mkF m pc Ls (.int y :: .int x :: st))) := by
  subst hq hv
  exact Go.st (fun t h => XS.imul A.pt A.1.1 rfl (hb A.1.2.2.2.1 hd) rfl h) k
theorem Here.iand (A : Here p l e R s m args below meth c Z a0 tbl own nm bc mxl rt n0 T L cells slots) {pc q : Nat} {Ls : Array Slot} {st : List Value} {x y v : Int32} (hd : decode bc pc = .ok (.iand, 1)) (hq : pc + 1 = q) (hv : x &&& y = v) (k : Go p e below F (T.setTop (mkF m q Ls (.int v :: st)))) : Go p e below F (T.setTop (mkF m pc Ls (.int y :: .int x :: st))) := by
  subst hq hv
  exact Go.st (fun t h => XS.iand A.pt A.1.1 rfl (hb A.1.2.2.2.1 hd) rfl h) k
theorem Here.ior (A : Here p l e R s m args below meth c Z a0 tbl own nm bc mxl rt n0 T L cells slots) {pc q : Nat} {Ls : Array Slot} {st : List Value} {x y v : Int32} (hd : decode bc pc = .ok (.ior, 1)) (hq : pc + 1 = q) (hv : x ||| y = v) (k : Go p e below F (T.setTop (mkF m q Ls (.int v :: st)))) : Go p e below F (T.setTop (mkF m pc Ls (.int y :: .int x :: st))) := by
  subst hq hv
  exact Go.st (fun t h => XS.ior A.pt A.1.1 rfl (hb A.1.2.2.2.1 hd) rfl h) k
theorem Here.ixor (A : Here p l e R s m args below meth c Z a0 tbl own nm bc mxl rt n0 T L cells slots) {pc q : Nat} {Ls : Array Slot} {st : List Value} {x y v : Int32} (hd : decode bc pc = .ok (.ixor, 1)) (hq : pc + 1 = q) (hv : x ^^^ y = v) (k : Go p e below F (T.setTop (mkF m q Ls (.int v :: st)))) : Go p e below F (T.setTop (mkF m pc Ls (.int y :: .int x :: st))) := by
  subst hq hv
  exact Go.st (fun t h => XS.ixor A.pt A.1.1 rfl (hb A.1.2.2.2.1 hd) rfl h) k
theorem Here.ishl (A : Here p l e R s m args below meth c Z a0 tbl own nm bc mxl rt n0 T L cells slots) {pc q : Nat} {Ls : Array Slot} {st : List Value} {x y v : Int32} (hd : decode bc pc = .ok (.ishl, 1)) (hq : pc + 1 = q) (hv : x <<< (y &&& 31) = v) (k : Go p e below F (T.setTop (mkF m q Ls (.int v :: st)))) : Go p e below F (T.setTop (mkF m pc Ls (.int y :: .int x :: st))) := by
  subst hq hv
  exact Go.st (fun t h => XS.ishl A.pt A.1.1 rfl (hb A.1.2.2.2.1 hd) rfl h) k
theorem Here.ishr (A : Here p l e R s m args below meth c Z a0 tbl own nm bc mxl rt n0 T L cells slots) {pc q : Nat} {Ls : Array Slot} {st : List Value} {x y v : Int32} (hd : decode bc pc = .ok (.ishr, 1)) (hq : pc + 1 = q) (hv : x >>> (y &&& 31) = v) (k : Go p e below F (T.setTop (mkF m q Ls (.int v :: st)))) : Go p e below F (T.setTop (mkF m pc Ls (.int y :: .int x :: st))) := by
  subst hq hv
  exact Go.st (fun t h => XS.ishr A.pt A.1.1 rfl (hb A.1.2.2.2.1 hd) rfl h) k
theorem Here.iushr (A : Here p l e R s m args below meth c Z a0 tbl own nm bc mxl rt n0 T L cells slots) {pc q : Nat} {Ls : Array Slot} {st : List Value} {x y v : Int32} (hd : decode bc pc = .ok (.iushr, 1)) (hq : pc + 1 = q) (hv : (x.toUInt32 >>> (y &&& 31).toUInt32).toInt32 = v) (k : Go p e below F (T.setTop (mkF m q Ls (.int v :: st)))) : Go p e below F (T.setTop (mkF m pc Ls (.int y :: .int x :: st))) := by
  subst hq hv
  exact Go.st (fun t h => XS.iushr A.pt A.1.1 rfl (hb A.1.2.2.2.1 hd) rfl h) k
theorem Here.idiv (A : Here p l e R s m args below meth c Z a0 tbl own nm bc mxl rt n0 T L cells slots) {pc q : Nat} {Ls : Array Slot} {st : List Value} {x y v : Int32} (hd : decode bc pc = .ok (.idiv, 1)) (hq : pc + 1 = q) (hy : y ≠ 0) (hv : x / y = v) (k : Go p e below F (T.setTop (mkF m q Ls (.int v :: st)))) : Go p e below F (T.setTop (mkF m pc Ls (.int y :: .int x :: st))) := by
  subst hq hv
  exact Go.st (fun t h => XS.idiv A.pt A.1.1 rfl (hb A.1.2.2.2.1 hd) rfl hy h) k
theorem Here.irem (A : Here p l e R s m args below meth c Z a0 tbl own nm bc mxl rt n0 T L cells slots) {pc q : Nat} {Ls : Array Slot} {st : List Value} {x y v : Int32} (hd : decode bc pc = .ok (.irem, 1)) (hq : pc + 1 = q) (hy : y ≠ 0) (hv : x % y = v) (k : Go p e below F (T.setTop (mkF m q Ls (.int v :: st)))) : Go p e below F (T.setTop (mkF m pc Ls (.int y :: .int x :: st))) := by
  subst hq hv
  obtain ⟨_, X, _⟩ := A.2
  exact Go.st (fun t h => iremM X A.1.1 rfl (hb A.1.2.2.2.1 hd) rfl hy h) k
theorem Here.ineg (A : Here p l e R s m args below meth c Z a0 tbl own nm bc mxl rt n0 T L cells slots) {pc q : Nat} {Ls : Array Slot} {st : List Value} {x v : Int32} (hd : decode bc pc = .ok (.ineg, 1)) (hq : pc + 1 = q) (hv : -x = v) (k : Go p e below F (T.setTop (mkF m q Ls (.int v :: st)))) : Go p e below F (T.setTop (mkF m pc Ls (.int x :: st))) := by
  subst hq hv
  exact Go.st (fun t h => XS.ineg A.pt A.1.1 rfl (hb A.1.2.2.2.1 hd) rfl h) k
theorem Here.ladd (A : Here p l e R s m args below meth c Z a0 tbl own nm bc mxl rt n0 T L cells slots) {pc q : Nat} {Ls : Array Slot} {st : List Value} {x y v : Int64} (hd : decode bc pc = .ok (.ladd, 1)) (hq : pc + 1 = q) (hv : x + y = v) (k : Go p e below F (T.setTop (mkF m q Ls (.long v :: st)))) : Go p e below F (T.setTop (mkF m pc Ls (.long y :: .long x :: st))) := by
  subst hq hv
  exact Go.st (fun t h => XS.ladd A.pt A.1.1 rfl (hb A.1.2.2.2.1 hd) rfl h) k
theorem Here.lsub (A : Here p l e R s m args below meth c Z a0 tbl own nm bc mxl rt n0 T L cells slots) {pc q : Nat} {Ls : Array Slot} {st : List Value} {x y v : Int64} (hd : decode bc pc = .ok (.lsub, 1)) (hq : pc + 1 = q) (hv : x - y = v) (k : Go p e below F (T.setTop (mkF m q Ls (.long v :: st)))) : Go p e below F (T.setTop (mkF m pc Ls (.long y :: .long x :: st))) := by
  subst hq hv
  exact Go.st (fun t h => XS.lsub A.pt A.1.1 rfl (hb A.1.2.2.2.1 hd) rfl h) k
theorem Here.lmul (A : Here p l e R s m args below meth c Z a0 tbl own nm bc mxl rt n0 T L cells slots) {pc q : Nat} {Ls : Array Slot} {st : List Value} {x y v : Int64} (hd : decode bc pc = .ok (.lmul, 1)) (hq : pc + 1 = q) (hv : x * y = v) (k : Go p e below F (T.setTop (mkF m q Ls (.long v :: st)))) : Go p e below F (T.setTop (mkF m pc Ls (.long y :: .long x :: st))) := by
  subst hq hv
  exact Go.st (fun t h => XS.lmul A.pt A.1.1 rfl (hb A.1.2.2.2.1 hd) rfl h) k
theorem Here.land (A : Here p l e R s m args below meth c Z a0 tbl own nm bc mxl rt n0 T L cells slots) {pc q : Nat} {Ls : Array Slot} {st : List Value} {x y v : Int64} (hd : decode bc pc = .ok (.land, 1)) (hq : pc + 1 = q) (hv : x &&& y = v) (k : Go p e below F (T.setTop (mkF m q Ls (.long v :: st)))) : Go p e below F (T.setTop (mkF m pc Ls (.long y :: .long x :: st))) := by
  subst hq hv
  exact Go.st (fun t h => XS.land A.pt A.1.1 rfl (hb A.1.2.2.2.1 hd) rfl h) k
theorem Here.lor (A : Here p l e R s m args below meth c Z a0 tbl own nm bc mxl rt n0 T L cells slots) {pc q : Nat} {Ls : Array Slot} {st : List Value} {x y v : Int64} (hd : decode bc pc = .ok (.lor, 1)) (hq : pc + 1 = q) (hv : x ||| y = v) (k : Go p e below F (T.setTop (mkF m q Ls (.long v :: st)))) : Go p e below F (T.setTop (mkF m pc Ls (.long y :: .long x :: st))) := by
  subst hq hv
  exact Go.st (fun t h => XS.lor A.pt A.1.1 rfl (hb A.1.2.2.2.1 hd) rfl h) k
theorem Here.lxor (A : Here p l e R s m args below meth c Z a0 tbl own nm bc mxl rt n0 T L cells slots) {pc q : Nat} {Ls : Array Slot} {st : List Value} {x y v : Int64} (hd : decode bc pc = .ok (.lxor, 1)) (hq : pc + 1 = q) (hv : x ^^^ y = v) (k : Go p e below F (T.setTop (mkF m q Ls (.long v :: st)))) : Go p e below F (T.setTop (mkF m pc Ls (.long y :: .long x :: st))) := by
  subst hq hv
  exact Go.st (fun t h => XS.lxor A.pt A.1.1 rfl (hb A.1.2.2.2.1 hd) rfl h) k
theorem Here.lshl (A : Here p l e R s m args below meth c Z a0 tbl own nm bc mxl rt n0 T L cells slots) {pc q : Nat} {Ls : Array Slot} {st : List Value} {x v : Int64} {y : Int32} (hd : decode bc pc = .ok (.lshl, 1)) (hq : pc + 1 = q) (hv : x <<< (y &&& 0x3f).toInt64 = v) (k : Go p e below F (T.setTop (mkF m q Ls (.long v :: st)))) : Go p e below F (T.setTop (mkF m pc Ls (.int y :: .long x :: st))) := by
  subst hq hv
  exact Go.st (fun t h => XS.lshl A.pt A.1.1 rfl (hb A.1.2.2.2.1 hd) rfl h) k
theorem Here.lshr (A : Here p l e R s m args below meth c Z a0 tbl own nm bc mxl rt n0 T L cells slots) {pc q : Nat} {Ls : Array Slot} {st : List Value} {x v : Int64} {y : Int32} (hd : decode bc pc = .ok (.lshr, 1)) (hq : pc + 1 = q) (hv : x >>> (y &&& 0x3f).toInt64 = v) (k : Go p e below F (T.setTop (mkF m q Ls (.long v :: st)))) : Go p e below F (T.setTop (mkF m pc Ls (.int y :: .long x :: st))) := by
  subst hq hv
  exact Go.st (fun t h => XS.lshr A.pt A.1.1 rfl (hb A.1.2.2.2.1 hd) rfl h) k
theorem Here.lushr (A : Here p l e R s m args below meth c Z a0 tbl own nm bc mxl rt n0 T L cells slots) {pc q : Nat} {Ls : Array Slot} {st : List Value} {x v : Int64} {y : Int32} (hd : decode bc pc = .ok (.lushr, 1)) (hq : pc + 1 = q) (hv : (x.toUInt64 >>> (y &&& 0x3f).toInt64.toUInt64).toInt64 = v) (k : Go p e below F (T.setTop (mkF m q Ls (.long v :: st)))) : Go p e below F (T.setTop (mkF m pc Ls (.int y :: .long x :: st))) := by
  subst hq hv
  exact Go.st (fun t h => XS.lushr A.pt A.1.1 rfl (hb A.1.2.2.2.1 hd) rfl h) k
theorem Here.ldiv (A : Here p l e R s m args below meth c Z a0 tbl own nm bc mxl rt n0 T L cells slots) {pc q : Nat} {Ls : Array Slot} {st : List Value} {x y v : Int64} (hd : decode bc pc = .ok (.ldiv, 1)) (hq : pc + 1 = q) (hy : y ≠ 0) (hv : x / y = v) (k : Go p e below F (T.setTop (mkF m q Ls (.long v :: st)))) : Go p e below F (T.setTop (mkF m pc Ls (.long y :: .long x :: st))) := by
  subst hq hv
  exact Go.st (fun t h => XS.ldiv A.pt A.1.1 rfl (hb A.1.2.2.2.1 hd) rfl hy h) k
theorem Here.lrem (A : Here p l e R s m args below meth c Z a0 tbl own nm bc mxl rt n0 T L cells slots) {pc q : Nat} {Ls : Array Slot} {st : List Value} {x y v : Int64} (hd : decode bc pc = .ok (.lrem, 1)) (hq : pc + 1 = q) (hy : y ≠ 0) (hv : x - (x / y) * y = v) (k : Go p e below F (T.setTop (mkF m q Ls (.long v :: st)))) : Go p e below F (T.setTop (mkF m pc Ls (.long y :: .long x :: st))) := by
  subst hq hv
  exact Go.st (fun t h => XS.lrem A.pt A.1.1 rfl (hb A.1.2.2.2.1 hd) rfl hy h) k
theorem Here.lneg (A : Here p l e R s m args below meth c Z a0 tbl own nm bc mxl rt n0 T L cells slots) {pc q : Nat} {Ls : Array Slot} {st : List Value} {x v : Int64} (hd : decode bc pc = .ok (.lneg, 1)) (hq : pc + 1 = q) (hv : -x = v) (k : Go p e below F (T.setTop (mkF m q Ls (.long v :: st)))) : Go p e below F (T.setTop (mkF m pc Ls (.long x :: st))) := by
  subst hq hv
  exact Go.st (fun t h => XS.lneg A.pt A.1.1 rfl (hb A.1.2.2.2.1 hd) rfl h) k
theorem Here.i2l (A : Here p l e R s m args below meth c Z a0 tbl own nm bc mxl rt n0 T L cells slots) {pc q : Nat} {Ls : Array Slot} {st : List Value} {x : Int32} {v : Int64} (hd : decode bc pc = .ok (.i2l, 1)) (hq : pc + 1 = q) (hv : x.toInt64 = v) (k : Go p e below F (T.setTop (mkF m q Ls (.long v :: st)))) : Go p e below F (T.setTop (mkF m pc Ls (.int x :: st))) := by
  subst hq hv
  exact Go.st (fun t h => XS.i2l A.pt A.1.1 rfl (hb A.1.2.2.2.1 hd) rfl h) k
theorem Here.l2i (A : Here p l e R s m args below meth c Z a0 tbl own nm bc mxl rt n0 T L cells slots) {pc q : Nat} {Ls : Array Slot} {st : List Value} {x : Int64} {v : Int32} (hd : decode bc pc = .ok (.l2i, 1)) (hq : pc + 1 = q) (hv : x.toInt32 = v) (k : Go p e below F (T.setTop (mkF m q Ls (.int v :: st)))) : Go p e below F (T.setTop (mkF m pc Ls (.long x :: st))) := by
  subst hq hv
  exact Go.st (fun t h => XS.l2i A.pt A.1.1 rfl (hb A.1.2.2.2.1 hd) rfl h) k
theorem Here.i2b (A : Here p l e R s m args below meth c Z a0 tbl own nm bc mxl rt n0 T L cells slots) {pc q : Nat} {Ls : Array Slot} {st : List Value} {x v : Int32} (hd : decode bc pc = .ok (.i2b, 1)) (hq : pc + 1 = q) (hv : x.toInt8.toInt32 = v) (k : Go p e below F (T.setTop (mkF m q Ls (.int v :: st)))) : Go p e below F (T.setTop (mkF m pc Ls (.int x :: st))) := by
  subst hq hv
  exact Go.st (fun t h => XS.i2b A.pt A.1.1 rfl (hb A.1.2.2.2.1 hd) rfl h) k
theorem Here.i2c (A : Here p l e R s m args below meth c Z a0 tbl own nm bc mxl rt n0 T L cells slots) {pc q : Nat} {Ls : Array Slot} {st : List Value} {x v : Int32} (hd : decode bc pc = .ok (.i2c, 1)) (hq : pc + 1 = q) (hv : x.toUInt32.toUInt16.toUInt32.toInt32 = v) (k : Go p e below F (T.setTop (mkF m q Ls (.int v :: st)))) : Go p e below F (T.setTop (mkF m pc Ls (.int x :: st))) := by
  subst hq hv
  exact Go.st (fun t h => XS.i2c A.pt A.1.1 rfl (hb A.1.2.2.2.1 hd) rfl h) k
theorem Here.i2s (A : Here p l e R s m args below meth c Z a0 tbl own nm bc mxl rt n0 T L cells slots) {pc q : Nat} {Ls : Array Slot} {st : List Value} {x v : Int32} (hd : decode bc pc = .ok (.i2s, 1)) (hq : pc + 1 = q) (hv : x.toInt16.toInt32 = v) (k : Go p e below F (T.setTop (mkF m q Ls (.int v :: st)))) : Go p e below F (T.setTop (mkF m pc Ls (.int x :: st))) := by
  subst hq hv
  exact Go.st (fun t h => XS.i2s A.pt A.1.1 rfl (hb A.1.2.2.2.1 hd) rfl h) k
theorem Here.iloadN (A : Here p l e R s m args below meth c Z a0 tbl own nm bc mxl rt n0 T L cells slots) {pc q : Nat} {Ls : Array Slot} {st : List Value} {k : Fin 4} {v : Int32} (hd : decode bc pc = .ok (.iload_n k, 1)) (hq : pc + 1 = q) (hl : Ls[k.val]? = some (.val (.int v))) (k : Go p e below F (T.setTop (mkF m q Ls (.int v :: st)))) : Go p e below F (T.setTop (mkF m pc Ls st)) := by
  subst hq
  exact Go.st (fun t h => XS.iloadN A.pt A.1.1 rfl (hb A.1.2.2.2.1 hd) hl h) k
theorem Here.iload (A : Here p l e R s m args below meth c Z a0 tbl own nm bc mxl rt n0 T L cells slots) {pc q : Nat} {Ls : Array Slot} {st : List Value} {k : Nat} {v : Int32} (hd : decode bc pc = .ok (.iload k, 2)) (hq : pc + 2 = q) (hl : Ls[k]? = some (.val (.int v))) (k : Go p e below F (T.setTop (mkF m q Ls (.int v :: st)))) : Go p e below F (T.setTop (mkF m pc Ls st)) := by
  subst hq
  exact Go.st (fun t h => XS.iload A.pt A.1.1 rfl (hb A.1.2.2.2.1 hd) hl h) k
theorem Here.istoreN (A : Here p l e R s m args below meth c Z a0 tbl own nm bc mxl rt n0 T L cells slots) {pc q : Nat} {Ls : Array Slot} {st : List Value} {k : Fin 4} {v : Int32} {l' : Array Slot} (hd : decode bc pc = .ok (.istore_n k, 1)) (hq : pc + 1 = q) (hl : storeLocals Ls k.val (.int v) = some l') (k : Go p e below F (T.setTop (mkF m q l' st))) : Go p e below F (T.setTop (mkF m pc Ls (.int v :: st))) := by
  subst hq
  exact Go.st (fun t h => XS.istoreN A.pt A.1.1 rfl (hb A.1.2.2.2.1 hd) rfl hl h) k
theorem Here.istore (A : Here p l e R s m args below meth c Z a0 tbl own nm bc mxl rt n0 T L cells slots) {pc q : Nat} {Ls : Array Slot} {st : List Value} {k : Nat} {v : Int32} {l' : Array Slot} (hd : decode bc pc = .ok (.istore k, 2)) (hq : pc + 2 = q) (hl : storeLocals Ls k (.int v) = some l') (k : Go p e below F (T.setTop (mkF m q l' st))) : Go p e below F (T.setTop (mkF m pc Ls (.int v :: st))) := by
  subst hq
  exact Go.st (fun t h => XS.istore A.pt A.1.1 rfl (hb A.1.2.2.2.1 hd) rfl hl h) k
theorem Here.lloadN (A : Here p l e R s m args below meth c Z a0 tbl own nm bc mxl rt n0 T L cells slots) {pc q : Nat} {Ls : Array Slot} {st : List Value} {k : Fin 4} {v : Int64} (hd : decode bc pc = .ok (.lload_n k, 1)) (hq : pc + 1 = q) (hl : Ls[k.val]? = some (.val (.long v))) (k : Go p e below F (T.setTop (mkF m q Ls (.long v :: st)))) : Go p e below F (T.setTop (mkF m pc Ls st)) := by
  subst hq
  exact Go.st (fun t h => XS.lloadN A.pt A.1.1 rfl (hb A.1.2.2.2.1 hd) hl h) k
theorem Here.lload (A : Here p l e R s m args below meth c Z a0 tbl own nm bc mxl rt n0 T L cells slots) {pc q : Nat} {Ls : Array Slot} {st : List Value} {k : Nat} {v : Int64} (hd : decode bc pc = .ok (.lload k, 2)) (hq : pc + 2 = q) (hl : Ls[k]? = some (.val (.long v))) (k : Go p e below F (T.setTop (mkF m q Ls (.long v :: st)))) : Go p e below F (T.setTop (mkF m pc Ls st)) := by
  subst hq
  exact Go.st (fun t h => XS.lload A.pt A.1.1 rfl (hb A.1.2.2.2.1 hd) hl h) k
theorem Here.lstoreN (A : Here p l e R s m args below meth c Z a0 tbl own nm bc mxl rt n0 T L cells slots) {pc q : Nat} {Ls : Array Slot} {st : List Value} {k : Fin 4} {v : Int64} {l' : Array Slot} (hd : decode bc pc = .ok (.lstore_n k, 1)) (hq : pc + 1 = q) (hl : storeLocals Ls k.val (.long v) = some l') (k : Go p e below F (T.setTop (mkF m q l' st))) : Go p e below F (T.setTop (mkF m pc Ls (.long v :: st))) := by
  subst hq
  exact Go.st (fun t h => XS.lstoreN A.pt A.1.1 rfl (hb A.1.2.2.2.1 hd) rfl hl h) k
theorem Here.lstore (A : Here p l e R s m args below meth c Z a0 tbl own nm bc mxl rt n0 T L cells slots) {pc q : Nat} {Ls : Array Slot} {st : List Value} {k : Nat} {v : Int64} {l' : Array Slot} (hd : decode bc pc = .ok (.lstore k, 2)) (hq : pc + 2 = q) (hl : storeLocals Ls k (.long v) = some l') (k : Go p e below F (T.setTop (mkF m q l' st))) : Go p e below F (T.setTop (mkF m pc Ls (.long v :: st))) := by
  subst hq
  exact Go.st (fun t h => XS.lstore A.pt A.1.1 rfl (hb A.1.2.2.2.1 hd) rfl hl h) k
theorem Here.aloadN (A : Here p l e R s m args below meth c Z a0 tbl own nm bc mxl rt n0 T L cells slots) {pc q : Nat} {Ls : Array Slot} {st : List Value} {k : Fin 4} {v : Value} (hd : decode bc pc = .ok (.aload_n k, 1)) (hq : pc + 1 = q) (hl : Ls[k.val]? = some (.val v)) (hr : v.isRef = true) (k : Go p e below F (T.setTop (mkF m q Ls (v :: st)))) : Go p e below F (T.setTop (mkF m pc Ls st)) := by
  subst hq
  exact Go.st (fun t h => XS.aloadN A.pt A.1.1 rfl (hb A.1.2.2.2.1 hd) hl hr h) k
theorem Here.aload (A : Here p l e R s m args below meth c Z a0 tbl own nm bc mxl rt n0 T L cells slots) {pc q : Nat} {Ls : Array Slot} {st : List Value} {k : Nat} {v : Value} (hd : decode bc pc = .ok (.aload k, 2)) (hq : pc + 2 = q) (hl : Ls[k]? = some (.val v)) (hr : v.isRef = true) (k : Go p e below F (T.setTop (mkF m q Ls (v :: st)))) : Go p e below F (T.setTop (mkF m pc Ls st)) := by
  subst hq
  exact Go.st (fun t h => XS.aload A.pt A.1.1 rfl (hb A.1.2.2.2.1 hd) hl hr h) k
theorem Here.astoreN (A : Here p l e R s m args below meth c Z a0 tbl own nm bc mxl rt n0 T L cells slots) {pc q : Nat} {Ls : Array Slot} {st : List Value} {k : Fin 4} {v : Value} {l' : Array Slot} (hd : decode bc pc = .ok (.astore_n k, 1)) (hq : pc + 1 = q) (hr : v.isRef = true) (hl : storeLocals Ls k.val v = some l') (k : Go p e below F (T.setTop (mkF m q l' st))) : Go p e below F (T.setTop (mkF m pc Ls (v :: st))) := by
  subst hq
  exact Go.st (fun t h => XS.astoreN A.pt A.1.1 rfl (hb A.1.2.2.2.1 hd) rfl hr hl h) k
theorem Here.astore (A : Here p l e R s m args below meth c Z a0 tbl own nm bc mxl rt n0 T L cells slots) {pc q : Nat} {Ls : Array Slot} {st : List Value} {k : Nat} {v : Value} {l' : Array Slot} (hd : decode bc pc = .ok (.astore k, 2)) (hq : pc + 2 = q) (hr : v.isRef = true) (hl : storeLocals Ls k v = some l') (k : Go p e below F (T.setTop (mkF m q l' st))) : Go p e below F (T.setTop (mkF m pc Ls (v :: st))) := by
  subst hq
  exact Go.st (fun t h => XS.astore A.pt A.1.1 rfl (hb A.1.2.2.2.1 hd) rfl hr hl h) k
theorem Here.iconst (A : Here p l e R s m args below meth c Z a0 tbl own nm bc mxl rt n0 T L cells slots) {pc q : Nat} {Ls : Array Slot} {st : List Value} {i : Int} {v : Int32} (hd : decode bc pc = .ok (.iconst i, 1)) (hq : pc + 1 = q) (hv : Int32.ofInt i = v) (k : Go p e below F (T.setTop (mkF m q Ls (.int v :: st)))) : Go p e below F (T.setTop (mkF m pc Ls st)) := by
  subst hq hv
  exact Go.st (fun t h => XS.iconst A.pt A.1.1 rfl (hb A.1.2.2.2.1 hd)  h) k
theorem Here.bipush (A : Here p l e R s m args below meth c Z a0 tbl own nm bc mxl rt n0 T L cells slots) {pc q : Nat} {Ls : Array Slot} {st : List Value} {i : Int} {v : Int32} (hd : decode bc pc = .ok (.bipush i, 2)) (hq : pc + 2 = q) (hv : (Int8.ofInt i).toInt32 = v) (k : Go p e below F (T.setTop (mkF m q Ls (.int v :: st)))) : Go p e below F (T.setTop (mkF m pc Ls st)) := by
  subst hq hv
  exact Go.st (fun t h => XS.bipush A.pt A.1.1 rfl (hb A.1.2.2.2.1 hd)  h) k
theorem Here.sipush (A : Here p l e R s m args below meth c Z a0 tbl own nm bc mxl rt n0 T L cells slots) {pc q : Nat} {Ls : Array Slot} {st : List Value} {i : Int} {v : Int32} (hd : decode bc pc = .ok (.sipush i, 3)) (hq : pc + 3 = q) (hv : (Int16.ofInt i).toInt32 = v) (k : Go p e below F (T.setTop (mkF m q Ls (.int v :: st)))) : Go p e below F (T.setTop (mkF m pc Ls st)) := by
  subst hq hv
  exact Go.st (fun t h => XS.sipush A.pt A.1.1 rfl (hb A.1.2.2.2.1 hd)  h) k
theorem Here.lconst (A : Here p l e R s m args below meth c Z a0 tbl own nm bc mxl rt n0 T L cells slots) {pc q : Nat} {Ls : Array Slot} {st : List Value} {i : Fin 2} {v : Int64} (hd : decode bc pc = .ok (.lconst i, 1)) (hq : pc + 1 = q) (hv : Int64.ofNat i = v) (k : Go p e below F (T.setTop (mkF m q Ls (.long v :: st)))) : Go p e below F (T.setTop (mkF m pc Ls st)) := by
  subst hq hv
  exact Go.st (fun t h => XS.lconst A.pt A.1.1 rfl (hb A.1.2.2.2.1 hd)  h) k
theorem Here.aconst_null (A : Here p l e R s m args below meth c Z a0 tbl own nm bc mxl rt n0 T L cells slots) {pc q : Nat} {Ls : Array Slot} {st : List Value}  (hd : decode bc pc = .ok (.aconst_null, 1)) (hq : pc + 1 = q)  (k : Go p e below F (T.setTop (mkF m q Ls (.null :: st)))) : Go p e below F (T.setTop (mkF m pc Ls st)) := by
  subst hq
  exact Go.st (fun t h => XS.aconstNull A.pt A.1.1 rfl (hb A.1.2.2.2.1 hd)  h) k
theorem Here.dup (A : Here p l e R s m args below meth c Z a0 tbl own nm bc mxl rt n0 T L cells slots) {pc q : Nat} {Ls : Array Slot} {st : List Value} {v : Value} (hd : decode bc pc = .ok (.dup, 1)) (hq : pc + 1 = q) (hc : v.category = 1) (k : Go p e below F (T.setTop (mkF m q Ls (v :: v :: st)))) : Go p e below F (T.setTop (mkF m pc Ls (v :: st))) := by
  subst hq
  exact Go.st (fun t h => XS.dup A.pt A.1.1 rfl (hb A.1.2.2.2.1 hd) rfl hc h) k
theorem Here.dup_x1 (A : Here p l e R s m args below meth c Z a0 tbl own nm bc mxl rt n0 T L cells slots) {pc q : Nat} {Ls : Array Slot} {st : List Value} {v w : Value} (hd : decode bc pc = .ok (.dup_x1, 1)) (hq : pc + 1 = q) (hc : v.category = 1) (hc' : w.category = 1) (k : Go p e below F (T.setTop (mkF m q Ls (v :: w :: v :: st)))) : Go p e below F (T.setTop (mkF m pc Ls (v :: w :: st))) := by
  subst hq
  exact Go.st (fun t h => XS.dupX1 A.pt A.1.1 rfl (hb A.1.2.2.2.1 hd) rfl hc hc' h) k
theorem Here.dup2 (A : Here p l e R s m args below meth c Z a0 tbl own nm bc mxl rt n0 T L cells slots) {pc q : Nat} {Ls : Array Slot} {st : List Value} {v w : Value} (hd : decode bc pc = .ok (.dup2, 1)) (hq : pc + 1 = q) (hc : v.category = 1) (hc' : w.category = 1) (k : Go p e below F (T.setTop (mkF m q Ls (v :: w :: v :: w :: st)))) : Go p e below F (T.setTop (mkF m pc Ls (v :: w :: st))) := by
  subst hq
  exact Go.st (fun t h => XT.dup2 A.pt A.1.1 rfl (hb A.1.2.2.2.1 hd) rfl hc hc' h) k
theorem Here.pop (A : Here p l e R s m args below meth c Z a0 tbl own nm bc mxl rt n0 T L cells slots) {pc q : Nat} {Ls : Array Slot} {st : List Value} {v : Value} (hd : decode bc pc = .ok (.pop, 1)) (hq : pc + 1 = q) (hc : v.category = 1) (k : Go p e below F (T.setTop (mkF m q Ls st))) : Go p e below F (T.setTop (mkF m pc Ls (v :: st))) := by
  subst hq
  exact Go.st (fun t h => XS.pop A.pt A.1.1 rfl (hb A.1.2.2.2.1 hd) rfl hc h) k
theorem Here.iinc (A : Here p l e R s m args below meth c Z a0 tbl own nm bc mxl rt n0 T L cells slots) {pc q : Nat} {Ls : Array Slot} {st : List Value} {k : Nat} {cst : Int} {x v : Int32} {l' : Array Slot} (hd : decode bc pc = .ok (.iinc k cst, 3)) (hq : pc + 3 = q) (hl : Ls[k]? = some (.val (.int x))) (hv : x + Int32.ofInt cst = v) (hl' : storeLocals Ls k (.int v) = some l') (k : Go p e below F (T.setTop (mkF m q l' st))) : Go p e below F (T.setTop (mkF m pc Ls st)) := by
  subst hq hv
  exact Go.st (fun t h => XS.iinc A.pt A.1.1 rfl (hb A.1.2.2.2.1 hd) hl hl' h) k
theorem Here.goto (A : Here p l e R s m args below meth c Z a0 tbl own nm bc mxl rt n0 T L cells slots) {pc r : Nat} {Ls : Array Slot} {st : List Value} {o : Int} (hd : decode bc pc = .ok (.goto o, 3)) (hr : (pc : Int) + o = (r : Int)) (k : Go p e below F (T.setTop (mkF m r Ls st))) : Go p e below F (T.setTop (mkF m pc Ls st)) :=
  Go.st (fun t h => XS.goto A.pt A.1.1 rfl (pc0 := pc) (pc' := r) rfl (hb A.1.2.2.2.1 hd) (by omega) (by omega) h) k
theorem Here.icmp_lt (A : Here p l e R s m args below meth c Z a0 tbl own nm bc mxl rt n0 T L cells slots) {pc q r : Nat} {Ls : Array Slot} {st : List Value} {x y : Int32} {o : Int} (hd : decode bc pc = .ok (.if_icmp .lt o, 3)) (hq : pc + 3 = q) (hr : (pc : Int) + o = (r : Int)) (kt : x < y → Go p e below F (T.setTop (mkF m r Ls st))) (kf : ¬ (x < y) → Go p e below F (T.setTop (mkF m q Ls st))) : Go p e below F (T.setTop (mkF m pc Ls (.int y :: .int x :: st))) := by
  by_cases hc : x < y
  · exact Go.st (fun t h => XS.icmpYes A.pt A.1.1 rfl (pc0 := pc) (pc' := r) rfl (hb A.1.2.2.2.1 hd) rfl (tlt hc).1 (by omega) (by omega) h) (kt hc)
  · subst hq; exact Go.st (fun t h => XS.icmpNo A.pt A.1.1 rfl (hb A.1.2.2.2.1 hd) rfl (flt hc).1 h) (kf hc)
theorem Here.if_lt (A : Here p l e R s m args below meth c Z a0 tbl own nm bc mxl rt n0 T L cells slots) {pc q r : Nat} {Ls : Array Slot} {st : List Value} {x : Int32} {o : Int} (hd : decode bc pc = .ok (.ifCond .lt o, 3)) (hq : pc + 3 = q) (hr : (pc : Int) + o = (r : Int)) (kt : x < (0 : Int32) → Go p e below F (T.setTop (mkF m r Ls st))) (kf : ¬ (x < (0 : Int32)) → Go p e below F (T.setTop (mkF m q Ls st))) : Go p e below F (T.setTop (mkF m pc Ls (.int x :: st))) := by
  by_cases hc : x < (0 : Int32)
  · exact Go.st (fun t h => XS.ifYes A.pt A.1.1 rfl (pc0 := pc) (pc' := r) rfl (hb A.1.2.2.2.1 hd) rfl ((if0 _ _).trans (tlt hc).1) (by omega) (by omega) h) (kt hc)
  · subst hq; exact Go.st (fun t h => XS.ifNo A.pt A.1.1 rfl (hb A.1.2.2.2.1 hd) rfl ((if0 _ _).trans (flt hc).1) h) (kf hc)
theorem Here.icmp_ge (A : Here p l e R s m args below meth c Z a0 tbl own nm bc mxl rt n0 T L cells slots) {pc q r : Nat} {Ls : Array Slot} {st : List Value} {x y : Int32} {o : Int} (hd : decode bc pc = .ok (.if_icmp .ge o, 3)) (hq : pc + 3 = q) (hr : (pc : Int) + o = (r : Int)) (kt : ¬ (x < y) → Go p e below F (T.setTop (mkF m r Ls st))) (kf : x < y → Go p e below F (T.setTop (mkF m q Ls st))) : Go p e below F (T.setTop (mkF m pc Ls (.int y :: .int x :: st))) := by
  by_cases hc : x < y
  · subst hq; exact Go.st (fun t h => XS.icmpNo A.pt A.1.1 rfl (hb A.1.2.2.2.1 hd) rfl (tlt hc).2.1 h) (kf hc)
  · exact Go.st (fun t h => XS.icmpYes A.pt A.1.1 rfl (pc0 := pc) (pc' := r) rfl (hb A.1.2.2.2.1 hd) rfl (flt hc).2.1 (by omega) (by omega) h) (kt hc)
theorem Here.if_ge (A : Here p l e R s m args below meth c Z a0 tbl own nm bc mxl rt n0 T L cells slots) {pc q r : Nat} {Ls : Array Slot} {st : List Value} {x : Int32} {o : Int} (hd : decode bc pc = .ok (.ifCond .ge o, 3)) (hq : pc + 3 = q) (hr : (pc : Int) + o = (r : Int)) (kt : ¬ (x < (0 : Int32)) → Go p e below F (T.setTop (mkF m r Ls st))) (kf : x < (0 : Int32) → Go p e below F (T.setTop (mkF m q Ls st))) : Go p e below F (T.setTop (mkF m pc Ls (.int x :: st))) := by
  by_cases hc : x < (0 : Int32)
  · subst hq; exact Go.st (fun t h => XS.ifNo A.pt A.1.1 rfl (hb A.1.2.2.2.1 hd) rfl ((if0 _ _).trans (tlt hc).2.1) h) (kf hc)
  · exact Go.st (fun t h => XS.ifYes A.pt A.1.1 rfl (pc0 := pc) (pc' := r) rfl (hb A.1.2.2.2.1 hd) rfl ((if0 _ _).trans (flt hc).2.1) (by omega) (by omega) h) (kt hc)
theorem Here.icmp_gt (A : Here p l e R s m args below meth c Z a0 tbl own nm bc mxl rt n0 T L cells slots) {pc q r : Nat} {Ls : Array Slot} {st : List Value} {x y : Int32} {o : Int} (hd : decode bc pc = .ok (.if_icmp .gt o, 3)) (hq : pc + 3 = q) (hr : (pc : Int) + o = (r : Int)) (kt : y < x → Go p e below F (T.setTop (mkF m r Ls st))) (kf : ¬ (y < x) → Go p e below F (T.setTop (mkF m q Ls st))) : Go p e below F (T.setTop (mkF m pc Ls (.int y :: .int x :: st))) := by
  by_cases hc : y < x
  · exact Go.st (fun t h => XS.icmpYes A.pt A.1.1 rfl (pc0 := pc) (pc' := r) rfl (hb A.1.2.2.2.1 hd) rfl (tlt hc).2.2.1 (by omega) (by omega) h) (kt hc)
  · subst hq; exact Go.st (fun t h => XS.icmpNo A.pt A.1.1 rfl (hb A.1.2.2.2.1 hd) rfl (flt hc).2.2.1 h) (kf hc)
theorem Here.if_gt (A : Here p l e R s m args below meth c Z a0 tbl own nm bc mxl rt n0 T L cells slots) {pc q r : Nat} {Ls : Array Slot} {st : List Value} {x : Int32} {o : Int} (hd : decode bc pc = .ok (.ifCond .gt o, 3)) (hq : pc + 3 = q) (hr : (pc : Int) + o = (r : Int)) (kt : (0 : Int32) < x → Go p e below F (T.setTop (mkF m r Ls st))) (kf : ¬ ((0 : Int32) < x) → Go p e below F (T.setTop (mkF m q Ls st))) : Go p e below F (T.setTop (mkF m pc Ls (.int x :: st))) := by
  by_cases hc : (0 : Int32) < x
  · exact Go.st (fun t h => XS.ifYes A.pt A.1.1 rfl (pc0 := pc) (pc' := r) rfl (hb A.1.2.2.2.1 hd) rfl ((if0 _ _).trans (tlt hc).2.2.1) (by omega) (by omega) h) (kt hc)
  · subst hq; exact Go.st (fun t h => XS.ifNo A.pt A.1.1 rfl (hb A.1.2.2.2.1 hd) rfl ((if0 _ _).trans (flt hc).2.2.1) h) (kf hc)
theorem Here.icmp_le (A : Here p l e R s m args below meth c Z a0 tbl own nm bc mxl rt n0 T L cells slots) {pc q r : Nat} {Ls : Array Slot} {st : List Value} {x y : Int32} {o : Int} (hd : decode bc pc = .ok (.if_icmp .le o, 3)) (hq : pc + 3 = q) (hr : (pc : Int) + o = (r : Int)) (kt : ¬ (y < x) → Go p e below F (T.setTop (mkF m r Ls st))) (kf : y < x → Go p e below F (T.setTop (mkF m q Ls st))) : Go p e below F (T.setTop (mkF m pc Ls (.int y :: .int x :: st))) := by
  by_cases hc : y < x
  · subst hq; exact Go.st (fun t h => XS.icmpNo A.pt A.1.1 rfl (hb A.1.2.2.2.1 hd) rfl (tlt hc).2.2.2 h) (kf hc)
  · exact Go.st (fun t h => XS.icmpYes A.pt A.1.1 rfl (pc0 := pc) (pc' := r) rfl (hb A.1.2.2.2.1 hd) rfl (flt hc).2.2.2 (by omega) (by omega) h) (kt hc)
theorem Here.if_le (A : Here p l e R s m args below meth c Z a0 tbl own nm bc mxl rt n0 T L cells slots) {pc q r : Nat} {Ls : Array Slot} {st : List Value} {x : Int32} {o : Int} (hd : decode bc pc = .ok (.ifCond .le o, 3)) (hq : pc + 3 = q) (hr : (pc : Int) + o = (r : Int)) (kt : ¬ ((0 : Int32) < x) → Go p e below F (T.setTop (mkF m r Ls st))) (kf : (0 : Int32) < x → Go p e below F (T.setTop (mkF m q Ls st))) : Go p e below F (T.setTop (mkF m pc Ls (.int x :: st))) := by
  by_cases hc : (0 : Int32) < x
  · subst hq; exact Go.st (fun t h => XS.ifNo A.pt A.1.1 rfl (hb A.1.2.2.2.1 hd) rfl ((if0 _ _).trans (tlt hc).2.2.2) h) (kf hc)
  · exact Go.st (fun t h => XS.ifYes A.pt A.1.1 rfl (pc0 := pc) (pc' := r) rfl (hb A.1.2.2.2.1 hd) rfl ((if0 _ _).trans (flt hc).2.2.2) (by omega) (by omega) h) (kt hc)
theorem Here.icmp_eq (A : Here p l e R s m args below meth c Z a0 tbl own nm bc mxl rt n0 T L cells slots) {pc q r : Nat} {Ls : Array Slot} {st : List Value} {x y : Int32} {o : Int} (hd : decode bc pc = .ok (.if_icmp .eq o, 3)) (hq : pc + 3 = q) (hr : (pc : Int) + o = (r : Int)) (kt : x = y → Go p e below F (T.setTop (mkF m r Ls st))) (kf : ¬ (x = y) → Go p e below F (T.setTop (mkF m q Ls st))) : Go p e below F (T.setTop (mkF m pc Ls (.int y :: .int x :: st))) := by
  by_cases hc : x = y
  · exact Go.st (fun t h => XS.icmpYes A.pt A.1.1 rfl (pc0 := pc) (pc' := r) rfl (hb A.1.2.2.2.1 hd) rfl (teq hc).1 (by omega) (by omega) h) (kt hc)
  · subst hq; exact Go.st (fun t h => XS.icmpNo A.pt A.1.1 rfl (hb A.1.2.2.2.1 hd) rfl (feq hc).1 h) (kf hc)
theorem Here.if_eq (A : Here p l e R s m args below meth c Z a0 tbl own nm bc mxl rt n0 T L cells slots) {pc q r : Nat} {Ls : Array Slot} {st : List Value} {x : Int32} {o : Int} (hd : decode bc pc = .ok (.ifCond .eq o, 3)) (hq : pc + 3 = q) (hr : (pc : Int) + o = (r : Int)) (kt : x = (0 : Int32) → Go p e below F (T.setTop (mkF m r Ls st))) (kf : ¬ (x = (0 : Int32)) → Go p e below F (T.setTop (mkF m q Ls st))) : Go p e below F (T.setTop (mkF m pc Ls (.int x :: st))) := by
  by_cases hc : x = (0 : Int32)
  · exact Go.st (fun t h => XS.ifYes A.pt A.1.1 rfl (pc0 := pc) (pc' := r) rfl (hb A.1.2.2.2.1 hd) rfl ((if0 _ _).trans (teq hc).1) (by omega) (by omega) h) (kt hc)
  · subst hq; exact Go.st (fun t h => XS.ifNo A.pt A.1.1 rfl (hb A.1.2.2.2.1 hd) rfl ((if0 _ _).trans (feq hc).1) h) (kf hc)
theorem Here.icmp_ne (A : Here p l e R s m args below meth c Z a0 tbl own nm bc mxl rt n0 T L cells slots) {pc q r : Nat} {Ls : Array Slot} {st : List Value} {x y : Int32} {o : Int} (hd : decode bc pc = .ok (.if_icmp .ne o, 3)) (hq : pc + 3 = q) (hr : (pc : Int) + o = (r : Int)) (kt : ¬ (x = y) → Go p e below F (T.setTop (mkF m r Ls st))) (kf : x = y → Go p e below F (T.setTop (mkF m q Ls st))) : Go p e below F (T.setTop (mkF m pc Ls (.int y :: .int x :: st))) := by
  by_cases hc : x = y
  · subst hq; exact Go.st (fun t h => XS.icmpNo A.pt A.1.1 rfl (hb A.1.2.2.2.1 hd) rfl (teq hc).2 h) (kf hc)
  · exact Go.st (fun t h => XS.icmpYes A.pt A.1.1 rfl (pc0 := pc) (pc' := r) rfl (hb A.1.2.2.2.1 hd) rfl (feq hc).2 (by omega) (by omega) h) (kt hc)
theorem Here.if_ne (A : Here p l e R s m args below meth c Z a0 tbl own nm bc mxl rt n0 T L cells slots) {pc q r : Nat} {Ls : Array Slot} {st : List Value} {x : Int32} {o : Int} (hd : decode bc pc = .ok (.ifCond .ne o, 3)) (hq : pc + 3 = q) (hr : (pc : Int) + o = (r : Int)) (kt : ¬ (x = (0 : Int32)) → Go p e below F (T.setTop (mkF m r Ls st))) (kf : x = (0 : Int32) → Go p e below F (T.setTop (mkF m q Ls st))) : Go p e below F (T.setTop (mkF m pc Ls (.int x :: st))) := by
  by_cases hc : x = (0 : Int32)
  · subst hq; exact Go.st (fun t h => XS.ifNo A.pt A.1.1 rfl (hb A.1.2.2.2.1 hd) rfl ((if0 _ _).trans (teq hc).2) h) (kf hc)
  · exact Go.st (fun t h => XS.ifYes A.pt A.1.1 rfl (pc0 := pc) (pc' := r) rfl (hb A.1.2.2.2.1 hd) rfl ((if0 _ _).trans (feq hc).2) (by omega) (by omega) h) (kt hc)
theorem Here.icmpT (A : Here p l e R s m args below meth c Z a0 tbl own nm bc mxl rt n0 T L cells slots) {pc r : Nat} {Ls : Array Slot} {st : List Value} {x y : Int32} {o : Int} {cd : ClassFile.Cond} (hd : decode bc pc = .ok (.if_icmp cd o, 3)) (hr : (pc : Int) + o = (r : Int)) (hc : if_icmp.holds cd x y = true) (k : Go p e below F (T.setTop (mkF m r Ls st))) : Go p e below F (T.setTop (mkF m pc Ls (.int y :: .int x :: st))) :=
  Go.st (fun t h => XS.icmpYes A.pt A.1.1 rfl (pc0 := pc) (pc' := r) rfl (hb A.1.2.2.2.1 hd) rfl hc (by omega) (by omega) h) k
theorem Here.icmpF (A : Here p l e R s m args below meth c Z a0 tbl own nm bc mxl rt n0 T L cells slots) {pc q : Nat} {Ls : Array Slot} {st : List Value} {x y : Int32} {o : Int} {cd : ClassFile.Cond} (hd : decode bc pc = .ok (.if_icmp cd o, 3)) (hq : pc + 3 = q) (hc : if_icmp.holds cd x y = false) (k : Go p e below F (T.setTop (mkF m q Ls st))) : Go p e below F (T.setTop (mkF m pc Ls (.int y :: .int x :: st))) := by
  subst hq; exact Go.st (fun t h => XS.icmpNo A.pt A.1.1 rfl (hb A.1.2.2.2.1 hd) rfl hc h) k
theorem Here.ifT (A : Here p l e R s m args below meth c Z a0 tbl own nm bc mxl rt n0 T L cells slots) {pc r : Nat} {Ls : Array Slot} {st : List Value} {x : Int32} {o : Int} {cd : ClassFile.Cond} (hd : decode bc pc = .ok (.ifCond cd o, 3)) (hr : (pc : Int) + o = (r : Int)) (hc : ifCond.holds cd x = true) (k : Go p e below F (T.setTop (mkF m r Ls st))) : Go p e below F (T.setTop (mkF m pc Ls (.int x :: st))) :=
  Go.st (fun t h => XS.ifYes A.pt A.1.1 rfl (pc0 := pc) (pc' := r) rfl (hb A.1.2.2.2.1 hd) rfl hc (by omega) (by omega) h) k
theorem Here.ifF (A : Here p l e R s m args below meth c Z a0 tbl own nm bc mxl rt n0 T L cells slots) {pc q : Nat} {Ls : Array Slot} {st : List Value} {x : Int32} {o : Int} {cd : ClassFile.Cond} (hd : decode bc pc = .ok (.ifCond cd o, 3)) (hq : pc + 3 = q) (hc : ifCond.holds cd x = false) (k : Go p e below F (T.setTop (mkF m q Ls st))) : Go p e below F (T.setTop (mkF m pc Ls (.int x :: st))) := by
  subst hq; exact Go.st (fun t h => XS.ifNo A.pt A.1.1 rfl (hb A.1.2.2.2.1 hd) rfl hc h) k
theorem Here.lcmp_lt (A : Here p l e R s m args below meth c Z a0 tbl own nm bc mxl rt n0 T L cells slots) {pc q q2 r : Nat} {Ls : Array Slot} {st : List Value} {x y : Int64} {o : Int} (hd : decode bc pc = .ok (.lcmp, 1)) (hq : pc + 1 = q) (hd2 : decode bc q = .ok (.ifCond .lt o, 3)) (hq2 : q + 3 = q2) (hr : (q : Int) + o = (r : Int)) (kt : x < y → Go p e below F (T.setTop (mkF m r Ls st))) (kf : ¬ (x < y) → Go p e below F (T.setTop (mkF m q2 Ls st))) : Go p e below F (T.setTop (mkF m pc Ls (.long y :: .long x :: st))) := by
  have key : Go p e below F (T.setTop (mkF m q Ls (.int (lcmpW x y) :: st))) := by
    by_cases hc : x < y
    · exact A.ifT hd2 hr ((if0 _ _).trans (tlt ((lw_lt x y).mpr hc)).1) (kt hc)
    · exact A.ifF hd2 hq2 ((if0 _ _).trans (flt (mt (lw_lt x y).mp hc)).1) (kf hc)
  subst hq
  exact Go.st (fun t h => XS.lcmp A.pt A.1.1 rfl (hb A.1.2.2.2.1 hd) rfl h) key
theorem Here.lcmp_ge (A : Here p l e R s m args below meth c Z a0 tbl own nm bc mxl rt n0 T L cells slots) {pc q q2 r : Nat} {Ls : Array Slot} {st : List Value} {x y : Int64} {o : Int} (hd : decode bc pc = .ok (.lcmp, 1)) (hq : pc + 1 = q) (hd2 : decode bc q = .ok (.ifCond .ge o, 3)) (hq2 : q + 3 = q2) (hr : (q : Int) + o = (r : Int)) (kt : ¬ (x < y) → Go p e below F (T.setTop (mkF m r Ls st))) (kf : x < y → Go p e below F (T.setTop (mkF m q2 Ls st))) : Go p e below F (T.setTop (mkF m pc Ls (.long y :: .long x :: st))) := by
  have key : Go p e below F (T.setTop (mkF m q Ls (.int (lcmpW x y) :: st))) := by
    by_cases hc : x < y
    · exact A.ifF hd2 hq2 ((if0 _ _).trans (tlt ((lw_lt x y).mpr hc)).2.1) (kf hc)
    · exact A.ifT hd2 hr ((if0 _ _).trans (flt (mt (lw_lt x y).mp hc)).2.1) (kt hc)
  subst hq
  exact Go.st (fun t h => XS.lcmp A.pt A.1.1 rfl (hb A.1.2.2.2.1 hd) rfl h) key
theorem Here.lcmp_gt (A : Here p l e R s m args below meth c Z a0 tbl own nm bc mxl rt n0 T L cells slots) {pc q q2 r : Nat} {Ls : Array Slot} {st : List Value} {x y : Int64} {o : Int} (hd : decode bc pc = .ok (.lcmp, 1)) (hq : pc + 1 = q) (hd2 : decode bc q = .ok (.ifCond .gt o, 3)) (hq2 : q + 3 = q2) (hr : (q : Int) + o = (r : Int)) (kt : y < x → Go p e below F (T.setTop (mkF m r Ls st))) (kf : ¬ (y < x) → Go p e below F (T.setTop (mkF m q2 Ls st))) : Go p e below F (T.setTop (mkF m pc Ls (.long y :: .long x :: st))) := by
  have key : Go p e below F (T.setTop (mkF m q Ls (.int (lcmpW x y) :: st))) := by
    by_cases hc : y < x
    · exact A.ifT hd2 hr ((if0 _ _).trans (tlt ((lw_gt x y).mpr hc)).2.2.1) (kt hc)
    · exact A.ifF hd2 hq2 ((if0 _ _).trans (flt (mt (lw_gt x y).mp hc)).2.2.1) (kf hc)
  subst hq
  exact Go.st (fun t h => XS.lcmp A.pt A.1.1 rfl (hb A.1.2.2.2.1 hd) rfl h) key
theorem Here.lcmp_le (A : Here p l e R s m args below meth c Z a0 tbl own nm bc mxl rt n0 T L cells slots) {pc q q2 r : Nat} {Ls : Array Slot} {st : List Value} {x y : Int64} {o : Int} (hd : decode bc pc = .ok (.lcmp, 1)) (hq : pc + 1 = q) (hd2 : decode bc q = .ok (.ifCond .le o, 3)) (hq2 : q + 3 = q2) (hr : (q : Int) + o = (r : Int)) (kt : ¬ (y < x) → Go p e below F (T.setTop (mkF m r Ls st))) (kf : y < x → Go p e below F (T.setTop (mkF m q2 Ls st))) : Go p e below F (T.setTop (mkF m pc Ls (.long y :: .long x :: st))) := by
  have key : Go p e below F (T.setTop (mkF m q Ls (.int (lcmpW x y) :: st))) := by
    by_cases hc : y < x
    · exact A.ifF hd2 hq2 ((if0 _ _).trans (tlt ((lw_gt x y).mpr hc)).2.2.2) (kf hc)
    · exact A.ifT hd2 hr ((if0 _ _).trans (flt (mt (lw_gt x y).mp hc)).2.2.2) (kt hc)
  subst hq
  exact Go.st (fun t h => XS.lcmp A.pt A.1.1 rfl (hb A.1.2.2.2.1 hd) rfl h) key
theorem Here.lcmp_eq (A : Here p l e R s m args below meth c Z a0 tbl own nm bc mxl rt n0 T L cells slots) {pc q q2 r : Nat} {Ls : Array Slot} {st : List Value} {x y : Int64} {o : Int} (hd : decode bc pc = .ok (.lcmp, 1)) (hq : pc + 1 = q) (hd2 : decode bc q = .ok (.ifCond .eq o, 3)) (hq2 : q + 3 = q2) (hr : (q : Int) + o = (r : Int)) (kt : x = y → Go p e below F (T.setTop (mkF m r Ls st))) (kf : ¬ (x = y) → Go p e below F (T.setTop (mkF m q2 Ls st))) : Go p e below F (T.setTop (mkF m pc Ls (.long y :: .long x :: st))) := by
  have key : Go p e below F (T.setTop (mkF m q Ls (.int (lcmpW x y) :: st))) := by
    by_cases hc : x = y
    · exact A.ifT hd2 hr ((if0 _ _).trans (teq ((lw_eq x y).mpr hc)).1) (kt hc)
    · exact A.ifF hd2 hq2 ((if0 _ _).trans (feq (mt (lw_eq x y).mp hc)).1) (kf hc)
  subst hq
  exact Go.st (fun t h => XS.lcmp A.pt A.1.1 rfl (hb A.1.2.2.2.1 hd) rfl h) key
theorem Here.lcmp_ne (A : Here p l e R s m args below meth c Z a0 tbl own nm bc mxl rt n0 T L cells slots) {pc q q2 r : Nat} {Ls : Array Slot} {st : List Value} {x y : Int64} {o : Int} (hd : decode bc pc = .ok (.lcmp, 1)) (hq : pc + 1 = q) (hd2 : decode bc q = .ok (.ifCond .ne o, 3)) (hq2 : q + 3 = q2) (hr : (q : Int) + o = (r : Int)) (kt : ¬ (x = y) → Go p e below F (T.setTop (mkF m r Ls st))) (kf : x = y → Go p e below F (T.setTop (mkF m q2 Ls st))) : Go p e below F (T.setTop (mkF m pc Ls (.long y :: .long x :: st))) := by
  have key : Go p e below F (T.setTop (mkF m q Ls (.int (lcmpW x y) :: st))) := by
    by_cases hc : x = y
    · exact A.ifF hd2 hq2 ((if0 _ _).trans (teq ((lw_eq x y).mpr hc)).2) (kf hc)
    · exact A.ifT hd2 hr ((if0 _ _).trans (feq (mt (lw_eq x y).mp hc)).2) (kt hc)
  subst hq
  exact Go.st (fun t h => XS.lcmp A.pt A.1.1 rfl (hb A.1.2.2.2.1 hd) rfl h) key
theorem Here.ifnonnullT (A : Here p l e R s m args below meth c Z a0 tbl own nm bc mxl rt n0 T L cells slots) {pc r : Nat} {Ls : Array Slot} {st : List Value} {b : Addr} {o : Int} (hd : decode bc pc = .ok (.ifnonnull o, 3)) (hr : (pc : Int) + o = (r : Int)) (k : Go p e below F (T.setTop (mkF m r Ls st))) : Go p e below F (T.setTop (mkF m pc Ls (.ref b :: st))) :=
  Go.st (fun t h => XS.ifnonnullYes A.pt A.1.1 rfl (pc0 := pc) (pc' := r) rfl (hb A.1.2.2.2.1 hd) rfl (by omega) (by omega) h) k
theorem Here.ifnonnullF (A : Here p l e R s m args below meth c Z a0 tbl own nm bc mxl rt n0 T L cells slots) {pc q : Nat} {Ls : Array Slot} {st : List Value} {o : Int} (hd : decode bc pc = .ok (.ifnonnull o, 3)) (hq : pc + 3 = q) (k : Go p e below F (T.setTop (mkF m q Ls st))) : Go p e below F (T.setTop (mkF m pc Ls (.null :: st))) := by
  subst hq; exact Go.st (fun t h => XS.ifnonnullNo A.pt A.1.1 rfl (hb A.1.2.2.2.1 hd) rfl h) k
theorem Here.ifnullT (A : Here p l e R s m args below meth c Z a0 tbl own nm bc mxl rt n0 T L cells slots) {pc r : Nat} {Ls : Array Slot} {st : List Value} {o : Int} (hd : decode bc pc = .ok (.ifnull o, 3)) (hr : (pc : Int) + o = (r : Int)) (k : Go p e below F (T.setTop (mkF m r Ls st))) : Go p e below F (T.setTop (mkF m pc Ls (.null :: st))) :=
  Go.st (fun t h => XS.ifnullYes A.pt A.1.1 rfl (pc0 := pc) (pc' := r) rfl (hb A.1.2.2.2.1 hd) rfl (by omega) (by omega) h) k
theorem Here.ifnullF (A : Here p l e R s m args below meth c Z a0 tbl own nm bc mxl rt n0 T L cells slots) {pc q : Nat} {Ls : Array Slot} {st : List Value} {b : Addr} {o : Int} (hd : decode bc pc = .ok (.ifnull o, 3)) (hq : pc + 3 = q) (k : Go p e below F (T.setTop (mkF m q Ls st))) : Go p e below F (T.setTop (mkF m pc Ls (.ref b :: st))) := by
  subst hq; exact Go.st (fun t h => XS.ifnullNo A.pt A.1.1 rfl (hb A.1.2.2.2.1 hd) rfl h) k
theorem Here.acmp (A : Here p l e R s m args below meth c Z a0 tbl own nm bc mxl rt n0 T L cells slots) {pc r : Nat} {Ls : Array Slot} {st : List Value} {x y : Value} {cd : ACond} {o : Int} {same : Bool} (hd : decode bc pc = .ok (.if_acmp cd o, 3)) (h1 : x.isRef = true) (h2 : y.isRef = true) (hs : decide (x = y) = same) (ho : 0 ≤ (pc : Int) + o) (hp : r = if acV cd same = true then ((pc : Int) + o).toNat else pc + 3) (k : Go p e below F (T.setTop (mkF m r Ls st))) : Go p e below F (T.setTop (mkF m pc Ls (y :: x :: st))) := by
  obtain ⟨_, X, _⟩ := A.2
  exact Go.st (fun t h => Jvm.RoadKit.acmp X A.1.1 rfl h1 h2 (pc0 := pc) (pc' := r) (same := same) rfl (hb A.1.2.2.2.1 hd) rfl hs ho hp h) k
theorem Here.ldc (A : Here p l e R s m args below meth c Z a0 tbl own nm bc mxl rt n0 T L cells slots) {pc q w index : Nat} {Ls : Array Slot} {st : List Value} {v : Int32} (hd : decode bc pc = .ok (.ldc index, 2)) (hq : pc + 2 = q) (hw : tbl[w]? = some (Jvm.Cond.constant own index v)) (k : Go p e below F (T.setTop (mkF m q Ls (.int v :: st)))) : Go p e below F (T.setTop (mkF m pc Ls st)) := by
  obtain ⟨⟨hx, hZ, hown, hby, hml, hww, hnm, hrt, hlk⟩, locs, X, N, Z0, P⟩ := id A
  subst hq
  exact Go.st (X.ldcInt hx hown (mvT hZ (hww _ (List.mem_of_getElem? hw))) (g := mkF m pc Ls st) rfl (hb hby hd)) k
theorem Here.ldc_w (A : Here p l e R s m args below meth c Z a0 tbl own nm bc mxl rt n0 T L cells slots) {pc q w index : Nat} {Ls : Array Slot} {st : List Value} {v : Int32} (hd : decode bc pc = .ok (.ldc_w index, 3)) (hq : pc + 3 = q) (hw : tbl[w]? = some (Jvm.Cond.constant own index v)) (k : Go p e below F (T.setTop (mkF m q Ls (.int v :: st)))) : Go p e below F (T.setTop (mkF m pc Ls st)) := by
  obtain ⟨⟨hx, hZ, hown, hby, hml, hww, hnm, hrt, hlk⟩, locs, X, N, Z0, P⟩ := id A
  subst hq
  exact Go.st (X.ldcwInt hx hown (mvT hZ (hww _ (List.mem_of_getElem? hw))) (g := mkF m pc Ls st) rfl (hb hby hd)) k
theorem Here.ldc2_w (A : Here p l e R s m args below meth c Z a0 tbl own nm bc mxl rt n0 T L cells slots) {pc q w index : Nat} {Ls : Array Slot} {st : List Value} {v : Int64} (hd : decode bc pc = .ok (.ldc2_w index, 3)) (hq : pc + 3 = q) (hw : tbl[w]? = some (Jvm.Cond.constantLong own index v)) (k : Go p e below F (T.setTop (mkF m q Ls (.long v :: st)))) : Go p e below F (T.setTop (mkF m pc Ls st)) := by
  obtain ⟨⟨hx, hZ, hown, hby, hml, hww, hnm, hrt, hlk⟩, locs, X, N, Z0, P⟩ := id A
  subst hq
  exact Go.st (X.ldc2Long hx hown (mvT hZ (hww _ (List.mem_of_getElem? hw))) (g := mkF m pc Ls st) rfl (hb hby hd)) k
theorem Here.getF (A : Here p l e R s m args below meth c Z a0 tbl own nm bc mxl rt n0 T L cells slots) {pc q w i j index : Nat} {Ls : Array Slot} {st : List Value} {O n d C : String} {a : Addr} {fs : List ((String × String × String) × Value)} {v : Value} (hd : decode bc pc = .ok (.getfield index, 3)) (hq : pc + 3 = q) (hw : tbl[w]? = some (Jvm.Cond.fieldLink own index O n d)) (hL : L[i]? = some (a, .inl (C, fs))) (hf : fs[j]? = some ((O, n, d), v))
    (k : ∀ T', Here p l e R s m args below meth c Z a0 tbl own nm bc mxl rt n0 T' L cells slots → Go p e below F (T'.setTop (mkF m q Ls (v :: st)))) : Go p e below F (T.setTop (mkF m pc Ls (.ref a :: st))) := by
  obtain ⟨⟨hx, hZ, hown, hby, hml, hww, hnm, hrt, hlk⟩, locs, X, N, Z0, P⟩ := id A
  have Fd := (P.1 _ (List.mem_of_getElem? hL)).2.2 _ (List.mem_of_getElem? hf)
  obtain ⟨T', X', e', st'⟩ := Jvm.RoadKit.getF X hx hZ hown (host := "") (Or.inl (hww _ (List.mem_of_getElem? hw))) Via.refl rfl Fd (g := mkF m pc Ls (.ref a :: st)) rfl rfl (hb hby hd)
  subst hq
  exact Go.st st' (k T' ⟨A.1, locs, X', N, by rw [e']; exact Z0, by rw [e']; exact P⟩)
theorem Here.putF (A : Here p l e R s m args below meth c Z a0 tbl own nm bc mxl rt n0 T L cells slots) {pc q w w2 w3 i j index kk : Nat} {Ls : Array Slot} {st : List Value} {O n d C : String} {a : Addr} {fs : List ((String × String × String) × Value)} {v v' old : Value} {ty : FieldType} {L' : Obs} (hd : decode bc pc = .ok (.putfield index, 3)) (hq : pc + 3 = q) (hw : tbl[w]? = some (Jvm.Cond.fieldLink own index O n d)) (hL : L[i]? = some (a, .inl (C, fs))) (hf : fs[j]? = some ((O, n, d), old))
    (hl : Lays Z a0 C (fs.map Prod.fst)) (hp : tbl[w2]? = some (Jvm.Cond.lays C O n d) ∨ (tbl[w2]? = some (Jvm.Cond.laysFinal C O n d) ∧ own = O ∧ nm = "<init>")) (hi : tbl[w3]? = some (Jvm.Cond.instantiable C kk)) (hty : parseFieldDescriptor d = some ty) (hn : narrow ty v = v') (hfit : fits ty v' = true) (hL' : L.set i (a, .inl (C, fs.set j ((O, n, d), v'))) = L')
    (k : ∀ T', Here p l e R s m args below meth c Z a0 tbl own nm bc mxl rt n0 T' L' cells slots → Go p e below F (T'.setTop (mkF m q Ls st))) : Go p e below F (T.setTop (mkF m pc Ls (v :: .ref a :: st))) := by
  obtain ⟨⟨hx, hZ, hown, hby, hml, hww, hnm, hrt, hlk⟩, locs, X, N, Z0, P⟩ := id A
  have I := P.1 _ (List.mem_of_getElem? hL)
  obtain ⟨T', h', X', e', W, st'⟩ := Jvm.RoadKit.putFN X hx hZ hown (hww _ (List.mem_of_getElem? hw)) Via.refl rfl (I.2.2 _ (List.mem_of_getElem? hf)) I.2.1 (hp.imp (fun q => hww _ (List.mem_of_getElem? q)) (fun q => ⟨hww _ (List.mem_of_getElem? q.1), q.2.1, by rw [hnm]; exact q.2.2⟩)) (hww _ (List.mem_of_getElem? hi)) hty hn hfit (g := mkF m pc Ls (v :: .ref a :: st)) rfl rfl (hb hby hd)
  subst hq hL' e'
  exact Go.st st' (k T' ⟨A.1, _, X', Fr.snoc X' N I.1, by rw [W.size]; exact Z0, P.set W hL (I.2.put W hl hf)⟩)
theorem Here.newO (A : Here p l e R s m args below meth c Z a0 tbl own nm bc mxl rt n0 T L cells slots) {pc q w1 w2 w3 index n : Nat} {Ls : Array Slot} {st : List Value} {C : String} {fs : List ((String × String × String) × Value)} (hd : decode bc pc = .ok (.new index, 3)) (hq : pc + 3 = q) (h1 : tbl[w1]? = some (Jvm.Cond.classLink own index C)) (h2 : tbl[w2]? = some (Jvm.Cond.instantiable C n)) (h3 : tbl[w3]? = some (Jvm.Cond.initialized C)) (hl : Lays Z a0 C (fs.map Prod.fst))
    (hdef : (fs.all fun q => match parseFieldDescriptor q.1.2.2 with | some t => decide (defaultValue t = q.2) | none => false) = true) (hc : cells + 1 ≤ R.cells) (hs : slots + n ≤ R.slots)
    (k : ∀ T' a, Here p l e R s m args below meth c Z a0 tbl own nm bc mxl rt n0 T' ((a, .inl (C, fs)) :: L) (cells + 1) (slots + n) → Go p e below F (T'.setTop (mkF m q Ls (.ref a :: st)))) : Go p e below F (T.setTop (mkF m pc Ls st)) := by
  obtain ⟨⟨hx, hZ, hown, hby, hml, hww, hnm, hrt, hlk⟩, locs, X, N, Z0, P⟩ := id A
  obtain ⟨T', h', X', e', E, Ex, D, -, st'⟩ := Jvm.RoadKit.newO X hx hZ hown (hww _ (List.mem_of_getElem? h1)) (hww _ (List.mem_of_getElem? h2)) (hww _ (List.mem_of_getElem? h3)) rfl (g := mkF m pc Ls st) rfl (hb hby hd) hc hs
  subst hq e'
  refine Go.st st' (k T' _ ⟨A.1, locs, X', N, Nat.le_trans Z0 E.1, P.new E Z0 ⟨Ex, fun f hf => ?_⟩⟩)
  obtain ⟨lf, -⟩ := hl.1 _ (List.mem_map.mpr ⟨f, hf, rfl⟩)
  have q := List.all_eq_true.mp hdef f hf
  cases ht : parseFieldDescriptor f.1.2.2 with
  | none => rw [ht] at q; cases q
  | some t =>
    rw [ht] at q
    have q' : defaultValue t = f.2 := of_decide_eq_true q
    rw [← q']; exact D lf ht
theorem Here.newA (A : Here p l e R s m args below meth c Z a0 tbl own nm bc mxl rt n0 T L cells slots) {pc q w cap : Nat} {Ls : Array Slot} {st : List Value} {aty : ArrayType} {n : Int32} {ty : FieldType} {vs : List Value} (hd : decode bc pc = .ok (.newarray aty, 2)) (hq : pc + 2 = q) (hty : newarray.typeOf aty = ty) (hw : tbl[w]? = some (Jvm.Cond.arrayClass ty)) (hn : ¬ n < 0) (hcap : n.toNatClampNeg ≤ cap) (hb8 : cap * 8 ≤ 536870912) (hvs : List.replicate n.toNatClampNeg (defaultValue ty) = vs) (hc : cells + 1 ≤ R.cells) (hs : slots + cap ≤ R.slots)
    (k : ∀ T' a, Here p l e R s m args below meth c Z a0 tbl own nm bc mxl rt n0 T' ((a, .inr (ty, vs)) :: L) (cells + 1) (slots + cap) → Go p e below F (T'.setTop (mkF m q Ls (.ref a :: st)))) : Go p e below F (T.setTop (mkF m pc Ls (.int n :: st))) := by
  obtain ⟨⟨hx, hZ, hown, hby, hml, hww, hnm, hrt, hlk⟩, locs, X, N, Z0, P⟩ := id A
  subst hty
  obtain ⟨T', h', cA, X', e', E, Ar, Ex, st'⟩ := newPE X hx hZ (hww _ (List.mem_of_getElem? hw)) rfl (g := mkF m pc Ls (.int n :: st)) rfl (hb hby hd) rfl hn hcap hb8 hc hs rfl
  subst hq e' hvs
  refine Go.st st' (k T' _ ⟨A.1, locs, X', N, Nat.le_trans Z0 E.1, P.new E Z0 ⟨_, Ar, ?_, ?_, ?_, Ex⟩⟩)
  · simp [Jvm.RoadKit.newA]
  · rw [List.length_replicate]; omega
  · intro v hv
    rw [(List.mem_replicate.mp hv).2]; exact fits_def aty

theorem Here.iaload (A : Here p l e R s m args below meth c Z a0 tbl own nm bc mxl rt n0 T L cells slots) {pc q i : Nat} {Ls : Array Slot} {st : List Value} {a : Addr} {j : Int32} {vs : List Value} {v : Value} (hd : decode bc pc = .ok (.iaload, 1)) (hq : pc + 1 = q) (hL : L[i]? = some (a, .inr (.int, vs))) (hj : ¬ j < 0) (hv : vs[j.toNatClampNeg]? = some v) (k : Go p e below F (T.setTop (mkF m q Ls (v :: st)))) : Go p e below F (T.setTop (mkF m pc Ls (.int j :: .ref a :: st))) := by
  obtain ⟨⟨hx, hZ, hown, hby, hml, hww, hnm, hrt, hlk⟩, locs, X, N, Z0, P⟩ := id A
  obtain ⟨cl, Ar, r1, r2, r3, r4⟩ := (P.1 _ (List.mem_of_getElem? hL)).2
  have hlt : j.toNatClampNeg < vs.length := (List.getElem?_eq_some_iff.mp hv).1
  subst hq
  exact Go.st (fun t h => X.iaload hx (j := j) (v := v) Ar.1 (State.isArrayOf_alike hZ.alike Ar.2.1) Ar.2.2 (fun q => q.elim hj (fun q => by rw [r1] at q; simp at q; omega)) (by rw [r1]; simpa using hv) (g := mkF m pc Ls (.int j :: .ref a :: st)) rfl rfl (hb hby hd) t h) k
theorem Here.laload (A : Here p l e R s m args below meth c Z a0 tbl own nm bc mxl rt n0 T L cells slots) {pc q i : Nat} {Ls : Array Slot} {st : List Value} {a : Addr} {j : Int32} {vs : List Value} {v : Value} (hd : decode bc pc = .ok (.laload, 1)) (hq : pc + 1 = q) (hL : L[i]? = some (a, .inr (.long, vs))) (hj : ¬ j < 0) (hv : vs[j.toNatClampNeg]? = some v) (k : Go p e below F (T.setTop (mkF m q Ls (v :: st)))) : Go p e below F (T.setTop (mkF m pc Ls (.int j :: .ref a :: st))) := by
  obtain ⟨⟨hx, hZ, hown, hby, hml, hww, hnm, hrt, hlk⟩, locs, X, N, Z0, P⟩ := id A
  obtain ⟨cl, Ar, r1, r2, r3, r4⟩ := (P.1 _ (List.mem_of_getElem? hL)).2
  have hlt : j.toNatClampNeg < vs.length := (List.getElem?_eq_some_iff.mp hv).1
  subst hq
  exact Go.st (fun t h => X.laload hx (j := j) (v := v) Ar.1 (State.isArrayOf_alike hZ.alike Ar.2.1) Ar.2.2 (fun q => q.elim hj (fun q => by rw [r1] at q; simp at q; omega)) (by rw [r1]; simpa using hv) (g := mkF m pc Ls (.int j :: .ref a :: st)) rfl rfl (hb hby hd) t h) k
theorem Here.baloadB (A : Here p l e R s m args below meth c Z a0 tbl own nm bc mxl rt n0 T L cells slots) {pc q i : Nat} {Ls : Array Slot} {st : List Value} {a : Addr} {j : Int32} {vs : List Value} {v : Value} (hd : decode bc pc = .ok (.baload, 1)) (hq : pc + 1 = q) (hL : L[i]? = some (a, .inr (.byte, vs))) (hj : ¬ j < 0) (hv : vs[j.toNatClampNeg]? = some v) (k : Go p e below F (T.setTop (mkF m q Ls (v :: st)))) : Go p e below F (T.setTop (mkF m pc Ls (.int j :: .ref a :: st))) := by
  obtain ⟨⟨hx, hZ, hown, hby, hml, hww, hnm, hrt, hlk⟩, locs, X, N, Z0, P⟩ := id A
  obtain ⟨cl, Ar, r1, r2, r3, r4⟩ := (P.1 _ (List.mem_of_getElem? hL)).2
  have hlt : j.toNatClampNeg < vs.length := (List.getElem?_eq_some_iff.mp hv).1
  subst hq
  exact Go.st (fun t h => X.baloadBytes hx (j := j) (v := v) Ar.1 (State.isArrayOf_alike hZ.alike Ar.2.1) Ar.2.2 (fun q => q.elim hj (fun q => by rw [r1] at q; simp at q; omega)) (by rw [r1]; simpa using hv) (g := mkF m pc Ls (.int j :: .ref a :: st)) rfl rfl (hb hby hd) t h) k
theorem Here.baloadZ (A : Here p l e R s m args below meth c Z a0 tbl own nm bc mxl rt n0 T L cells slots) {pc q i : Nat} {Ls : Array Slot} {st : List Value} {a : Addr} {j : Int32} {vs : List Value} {v : Value} (hd : decode bc pc = .ok (.baload, 1)) (hq : pc + 1 = q) (hL : L[i]? = some (a, .inr (.boolean, vs))) (hj : ¬ j < 0) (hv : vs[j.toNatClampNeg]? = some v) (k : Go p e below F (T.setTop (mkF m q Ls (v :: st)))) : Go p e below F (T.setTop (mkF m pc Ls (.int j :: .ref a :: st))) := by
  obtain ⟨⟨hx, hZ, hown, hby, hml, hww, hnm, hrt, hlk⟩, locs, X, N, Z0, P⟩ := id A
  obtain ⟨cl, Ar, r1, r2, r3, r4⟩ := (P.1 _ (List.mem_of_getElem? hL)).2
  have hlt : j.toNatClampNeg < vs.length := (List.getElem?_eq_some_iff.mp hv).1
  subst hq
  exact Go.st (fun t h => X.baloadBooleans hx (j := j) (v := v) Ar.1 (State.isArrayOf_alike hZ.alike Ar.2.1) Ar.2.2 (fun q => q.elim hj (fun q => by rw [r1] at q; simp at q; omega)) (by rw [r1]; simpa using hv) (g := mkF m pc Ls (.int j :: .ref a :: st)) rfl rfl (hb hby hd) t h) k
theorem Here.iastore (A : Here p l e R s m args below meth c Z a0 tbl own nm bc mxl rt n0 T L cells slots) {pc q i : Nat} {Ls : Array Slot} {st : List Value} {a : Addr} {j : Int32} {x x' : Int32} {vs : List Value} {L' : Obs} (hd : decode bc pc = .ok (.iastore, 1)) (hq : pc + 1 = q) (hL : L[i]? = some (a, .inr (.int, vs))) (hj : ¬ j < 0) (hlt : j.toNatClampNeg < vs.length) (hx' : x = x') (hL' : L.set i (a, .inr (.int, vs.set j.toNatClampNeg (.int x'))) = L') (k : ∀ T', Here p l e R s m args below meth c Z a0 tbl own nm bc mxl rt n0 T' L' cells slots → Go p e below F (T'.setTop (mkF m q Ls st))) : Go p e below F (T.setTop (mkF m pc Ls (.int x :: .int j :: .ref a :: st))) := by
  obtain ⟨⟨hx, hZ, hown, hby, hml, hww, hnm, hrt, hlk⟩, locs, X, N, Z0, P⟩ := id A
  have I := P.1 _ (List.mem_of_getElem? hL)
  obtain ⟨cl, Ar, r1, r2, r3, r4⟩ := id I.2
  obtain ⟨T', h', X', e', W, st'⟩ := stI X hx hZ rfl Ar (j := j) (x := x) (fun q => q.elim hj (fun q => by rw [r1] at q; simp at q; omega)) (g := mkF m pc Ls (.int x :: .int j :: .ref a :: st)) rfl rfl (hb hby hd)
  subst hq hL' e' hx'
  exact Go.st st' (k T' ⟨A.1, _, X', Fr.snoc X' N I.1, by rw [W.size]; exact Z0, P.set W hL (Ara.put (show Ara Z T.heap a .int vs from I.2) W rfl)⟩)
theorem Here.lastore (A : Here p l e R s m args below meth c Z a0 tbl own nm bc mxl rt n0 T L cells slots) {pc q i : Nat} {Ls : Array Slot} {st : List Value} {a : Addr} {j : Int32} {x x' : Int64} {vs : List Value} {L' : Obs} (hd : decode bc pc = .ok (.lastore, 1)) (hq : pc + 1 = q) (hL : L[i]? = some (a, .inr (.long, vs))) (hj : ¬ j < 0) (hlt : j.toNatClampNeg < vs.length) (hx' : x = x') (hL' : L.set i (a, .inr (.long, vs.set j.toNatClampNeg (.long x'))) = L') (k : ∀ T', Here p l e R s m args below meth c Z a0 tbl own nm bc mxl rt n0 T' L' cells slots → Go p e below F (T'.setTop (mkF m q Ls st))) : Go p e below F (T.setTop (mkF m pc Ls (.long x :: .int j :: .ref a :: st))) := by
  obtain ⟨⟨hx, hZ, hown, hby, hml, hww, hnm, hrt, hlk⟩, locs, X, N, Z0, P⟩ := id A
  have I := P.1 _ (List.mem_of_getElem? hL)
  obtain ⟨cl, Ar, r1, r2, r3, r4⟩ := id I.2
  obtain ⟨T', h', X', e', W, st'⟩ := stJ X hx hZ rfl Ar (j := j) (x := x) (fun q => q.elim hj (fun q => by rw [r1] at q; simp at q; omega)) (g := mkF m pc Ls (.long x :: .int j :: .ref a :: st)) rfl rfl (hb hby hd)
  subst hq hL' e' hx'
  exact Go.st st' (k T' ⟨A.1, _, X', Fr.snoc X' N I.1, by rw [W.size]; exact Z0, P.set W hL (Ara.put (show Ara Z T.heap a .long vs from I.2) W rfl)⟩)
theorem Here.bastoreB (A : Here p l e R s m args below meth c Z a0 tbl own nm bc mxl rt n0 T L cells slots) {pc q i : Nat} {Ls : Array Slot} {st : List Value} {a : Addr} {j : Int32} {x x' : Int32} {vs : List Value} {L' : Obs} (hd : decode bc pc = .ok (.bastore, 1)) (hq : pc + 1 = q) (hL : L[i]? = some (a, .inr (.byte, vs))) (hj : ¬ j < 0) (hlt : j.toNatClampNeg < vs.length) (hx' : (nar .byte x) = x') (hL' : L.set i (a, .inr (.byte, vs.set j.toNatClampNeg (.int x'))) = L') (k : ∀ T', Here p l e R s m args below meth c Z a0 tbl own nm bc mxl rt n0 T' L' cells slots → Go p e below F (T'.setTop (mkF m q Ls st))) : Go p e below F (T.setTop (mkF m pc Ls (.int x :: .int j :: .ref a :: st))) := by
  obtain ⟨⟨hx, hZ, hown, hby, hml, hww, hnm, hrt, hlk⟩, locs, X, N, Z0, P⟩ := id A
  have I := P.1 _ (List.mem_of_getElem? hL)
  obtain ⟨cl, Ar, r1, r2, r3, r4⟩ := id I.2
  obtain ⟨T', h', X', e', W, st'⟩ := stB X hx hZ rfl Ar (j := j) (x := x) (fun q => q.elim hj (fun q => by rw [r1] at q; simp at q; omega)) (g := mkF m pc Ls (.int x :: .int j :: .ref a :: st)) rfl rfl (hb hby hd)
  subst hq hL' e' hx'
  exact Go.st st' (k T' ⟨A.1, _, X', Fr.snoc X' N I.1, by rw [W.size]; exact Z0, P.set W hL (Ara.put (show Ara Z T.heap a .byte vs from I.2) W (fits_nar_byte _))⟩)
theorem Here.bastoreZ (A : Here p l e R s m args below meth c Z a0 tbl own nm bc mxl rt n0 T L cells slots) {pc q i : Nat} {Ls : Array Slot} {st : List Value} {a : Addr} {j : Int32} {x x' : Int32} {vs : List Value} {L' : Obs} (hd : decode bc pc = .ok (.bastore, 1)) (hq : pc + 1 = q) (hL : L[i]? = some (a, .inr (.boolean, vs))) (hj : ¬ j < 0) (hlt : j.toNatClampNeg < vs.length) (hx' : (nar .boolean x) = x') (hL' : L.set i (a, .inr (.boolean, vs.set j.toNatClampNeg (.int x'))) = L') (k : ∀ T', Here p l e R s m args below meth c Z a0 tbl own nm bc mxl rt n0 T' L' cells slots → Go p e below F (T'.setTop (mkF m q Ls st))) : Go p e below F (T.setTop (mkF m pc Ls (.int x :: .int j :: .ref a :: st))) := by
  obtain ⟨⟨hx, hZ, hown, hby, hml, hww, hnm, hrt, hlk⟩, locs, X, N, Z0, P⟩ := id A
  have I := P.1 _ (List.mem_of_getElem? hL)
  obtain ⟨cl, Ar, r1, r2, r3, r4⟩ := id I.2
  obtain ⟨T', h', X', e', W, st'⟩ := stZ X hx hZ rfl Ar (j := j) (x := x) (fun q => q.elim hj (fun q => by rw [r1] at q; simp at q; omega)) (g := mkF m pc Ls (.int x :: .int j :: .ref a :: st)) rfl rfl (hb hby hd)
  subst hq hL' e' hx'
  exact Go.st st' (k T' ⟨A.1, _, X', Fr.snoc X' N I.1, by rw [W.size]; exact Z0, P.set W hL (Ara.put (show Ara Z T.heap a .boolean vs from I.2) W (fits_nar_bool _))⟩)
theorem Here.arraylength (A : Here p l e R s m args below meth c Z a0 tbl own nm bc mxl rt n0 T L cells slots) {pc q i : Nat} {Ls : Array Slot} {st : List Value} {a : Addr} {ty : FieldType} {vs : List Value} {v : Int32} (hd : decode bc pc = .ok (.arraylength, 1)) (hq : pc + 1 = q) (hL : L[i]? = some (a, .inr (ty, vs))) (hv : vs.length.toInt32 = v) (k : Go p e below F (T.setTop (mkF m q Ls (.int v :: st)))) : Go p e below F (T.setTop (mkF m pc Ls (.ref a :: st))) := by
  obtain ⟨⟨hx, hZ, hown, hby, hml, hww, hnm, hrt, hlk⟩, locs, X, N, Z0, P⟩ := id A
  obtain ⟨cl, Ar, r1, r2, r3, r4⟩ := (P.1 _ (List.mem_of_getElem? hL)).2
  have hn : cl.slots.size = vs.length := by rw [r1]; simp
  subst hq hv
  exact Go.st (fun t h => X.arraylength hx Ar.1 (State.isArrayOf_alike hZ.alike Ar.2.1) (g := mkF m pc Ls (.ref a :: st)) rfl rfl (hb hby hd) t (by rw [hn]; exact h)) k
theorem Here.castArr (A : Here p l e R s m args below meth c Z a0 tbl own nm bc mxl rt n0 T L cells slots) {pc q i w index : Nat} {Ls : Array Slot} {st : List Value} {a : Addr} {ty : FieldType} {vs : List Value} {K : String} (hd : decode bc pc = .ok (.checkcast index, 3)) (hq : pc + 3 = q) (hw : tbl[w]? = some (Jvm.Cond.classLink own index K)) (hL : L[i]? = some (a, .inr (ty, vs))) (hK : "[" ++ ty.toString = K) (k : ∀ T', Here p l e R s m args below meth c Z a0 tbl own nm bc mxl rt n0 T' L cells slots → Go p e below F (T'.setTop (mkF m q Ls (.ref a :: st)))) : Go p e below F (T.setTop (mkF m pc Ls (.ref a :: st))) := by
  obtain ⟨⟨hx, hZ, hown, hby, hml, hww, hnm, hrt, hlk⟩, locs, X, N, Z0, P⟩ := id A
  obtain ⟨cl, Ar, r1, r2, r3, r4⟩ := (P.1 _ (List.mem_of_getElem? hL)).2
  subst hK hq
  obtain ⟨T', X', e', st'⟩ := castY X hx hZ hown (hww _ (List.mem_of_getElem? hw)) rfl (Ins.self r4) (g := mkF m pc Ls (.ref a :: st)) rfl rfl (hb hby hd)
  exact Go.st st' (k T' ⟨A.1, locs, X', N, by rw [e']; exact Z0, by rw [e']; exact P⟩)
theorem Here.clone (A : Here p l e R s m args below meth c Z a0 tbl own nm bc mxl rt n0 T L cells slots) {pc q i index W w1 w2 w3 w4 w5 w6 cap : Nat} {Ls : Array Slot} {st : List Value} {a : Addr} {ty : FieldType} {vs : List Value} {ad : String} (hd : decode bc pc = .ok (.invokevirtual index, 3)) (hq : pc + 3 = q) (hL : L[i]? = some (a, .inr (ty, vs))) (hK : "[" ++ ty.toString = ad)
    (h1 : tbl[w1]? = some (Jvm.Cond.methodLink own index ⟨ad, "clone", "()Ljava/lang/Object;"⟩)) (h2 : tbl[w2]? = some (Jvm.Cond.sameMethod ad "java/lang/Object" "clone" "()Ljava/lang/Object;")) (h3 : tbl[w3]? = some (Jvm.Cond.native ⟨"java/lang/Object", "clone", "()Ljava/lang/Object;"⟩)) (h4 : tbl[w4]? = some (Jvm.Cond.instanceMethod ⟨"java/lang/Object", "clone", "()Ljava/lang/Object;"⟩)) (h5 : tbl[w5]? = some (Jvm.Cond.selects ad ⟨ad, "clone", "()Ljava/lang/Object;"⟩ ⟨"java/lang/Object", "clone", "()Ljava/lang/Object;"⟩)) (h6 : tbl[w6]? = some (Jvm.Cond.castable ad "java/lang/Cloneable"))
    (hsz : Ls.size = mxl) (hW : (st.map fun v => v.category).sum = W) (hf : 1 ≤ R.frames) (hl : W + 14 ≤ R.locals) (hcap : vs.length ≤ cap) (hc : cells + 1 ≤ R.cells) (hs : slots + cap ≤ R.slots)
    (k : ∀ T' b, Here p l e R s m args below meth c Z a0 tbl own nm bc mxl rt n0 T' ((b, .inr (ty, vs)) :: L) (cells + 1) (slots + cap) → Go p e below F (T'.setTop (mkF m q Ls (.ref b :: st)))) : Go p e below F (T.setTop (mkF m pc Ls (.ref a :: st))) := by
  obtain ⟨⟨hx, hZ, hown, hby, hml, hww, hnm, hrt, hlk⟩, locs, X, N, Z0, P⟩ := id A
  obtain ⟨cl, Ar, r1, r2, r3, r4⟩ := (P.1 _ (List.mem_of_getElem? hL)).2
  subst hK hq
  have hn : cl.slots.size = vs.length := by rw [r1]; simp
  have FC : FitC Z cl := fitC_of Ar fun i hi v hv => r3 v (by rw [r1] at hv; exact List.mem_of_getElem? (by simpa using hv))
  obtain ⟨T', h', X', e', E, Ar', Ex, st'⟩ := cloneA X hx hZ hown (hww _ (List.mem_of_getElem? h1)) (hww _ (List.mem_of_getElem? h2)) (hww _ (List.mem_of_getElem? h3)) (hww _ (List.mem_of_getElem? h4)) (hww _ (List.mem_of_getElem? h5)) (hww _ (List.mem_of_getElem? h6)) rfl Ar r4 FC (g := mkF m pc Ls (.ref a :: st)) rfl (by rw [hml]; exact hsz) rfl (hb hby hd) hf (W := W) (cap := cap) (by show 2 * 0 + _ ≤ _; omega) hl (by omega) hc hs
  subst e'
  exact Go.st st' (k T' _ ⟨A.1, locs, X', N, Nat.le_trans Z0 E.1, P.new E Z0 ⟨_, Ar', r1, r2, r3, Ex⟩⟩)
theorem Here.initObj (A : Here p l e R s m args below meth c Z a0 tbl own nm bc mxl rt n0 T L cells slots) {pc q index w1 w2 w3 W : Nat} {Ls : Array Slot} {st : List Value} {a : Addr} (hd : decode bc pc = .ok (.invokespecial index, 3)) (hq : pc + 3 = q) (h1 : tbl[w1]? = some (Jvm.Cond.methodLink own index Lib.objectInit)) (h2 : tbl[w2]? = some (Jvm.Cond.instanceMethod Lib.objectInit)) (h3 : tbl[w3]? = some (Jvm.Cond.code Lib.objectInit ⟨#[0xb1]⟩ 1 none)) (hsz : Ls.size = mxl) (hW : (st.map fun v => v.category).sum = W) (hf : 1 ≤ R.frames) (hl : W + 12 ≤ R.locals) (k : ∀ T', Here p l e R s m args below meth c Z a0 tbl own nm bc mxl rt n0 T' L cells slots → Go p e below F (T'.setTop (mkF m q Ls st))) : Go p e below F (T.setTop (mkF m pc Ls (.ref a :: st))) := by
  obtain ⟨⟨hx, hZ, hown, hby, hml, hww, hnm, hrt, hlk⟩, locs, X, N, Z0, P⟩ := id A
  subst hq
  obtain ⟨T', X', e', st'⟩ := initO X hx hZ hown (hww _ (List.mem_of_getElem? h1)) (hww _ (List.mem_of_getElem? h2)) (hww _ (List.mem_of_getElem? h3)) rfl (g := mkF m pc Ls (.ref a :: st)) rfl (by rw [hml]; exact hsz) rfl (hb hby hd) hf (W := W) (by show 2 * 0 + _ ≤ _; omega) hl
  exact Go.st st' (k T' ⟨A.1, locs, X', N, by rw [e']; exact Z0, by rw [e']; exact P⟩)
theorem Here.front (A : Here p l e R s m args below meth c Z a0 tbl own nm bc mxl rt n0 T L cells slots) {i : Nat} {x : Addr × Ob} {L' : Obs} (hi : L[i]? = some x) (hL' : x :: L.eraseIdx i = L') : Here p l e R s m args below meth c Z a0 tbl own nm bc mxl rt n0 T L' cells slots := by
  obtain ⟨⟨hx, hZ, hown, hby, hml, hww, hnm, hrt, hlk⟩, locs, X, N, Z0, P⟩ := id A
  subst hL'
  exact ⟨A.1, locs, X, N, Z0, P.front hi⟩
theorem Here.ne (A : Here p l e R s m args below meth c Z a0 tbl own nm bc mxl rt n0 T L cells slots) {i j : Nat} {a b : Addr} {x y : Ob} (hi : L[i]? = some (a, x)) (hj : L[j]? = some (b, y)) (hn : i ≠ j) : a ≠ b := by
  obtain ⟨⟨hx, hZ, hown, hby, hml, hww, hnm, hrt, hlk⟩, locs, X, N, Z0, P⟩ := id A
  exact P.ne hi hj hn

theorem Here.ialoadM (A : Here p l e R s m args below meth c Z a0 tbl own nm bc mxl rt n0 T L cells slots) {pc q i : Nat} {Ls : Array Slot} {st : List Value} {a : Addr} {j : Int32} {xs : List Int32} {v : Int32} (hd : decode bc pc = .ok (.iaload, 1)) (hq : pc + 1 = q) (hL : L[i]? = some (a, .inr (.int, xs.map Value.int))) (hj : ¬ j < 0) (hv : xs[j.toNatClampNeg]? = some v) (k : Go p e below F (T.setTop (mkF m q Ls (Value.int v :: st)))) : Go p e below F (T.setTop (mkF m pc Ls (.int j :: .ref a :: st))) :=
  A.iaload hd hq hL hj (by rw [List.getElem?_map, hv]; rfl) k
theorem Here.laloadM (A : Here p l e R s m args below meth c Z a0 tbl own nm bc mxl rt n0 T L cells slots) {pc q i : Nat} {Ls : Array Slot} {st : List Value} {a : Addr} {j : Int32} {xs : List Int64} {v : Int64} (hd : decode bc pc = .ok (.laload, 1)) (hq : pc + 1 = q) (hL : L[i]? = some (a, .inr (.long, xs.map Value.long))) (hj : ¬ j < 0) (hv : xs[j.toNatClampNeg]? = some v) (k : Go p e below F (T.setTop (mkF m q Ls (Value.long v :: st)))) : Go p e below F (T.setTop (mkF m pc Ls (.int j :: .ref a :: st))) :=
  A.laload hd hq hL hj (by rw [List.getElem?_map, hv]; rfl) k
theorem Here.baloadBM (A : Here p l e R s m args below meth c Z a0 tbl own nm bc mxl rt n0 T L cells slots) {pc q i : Nat} {Ls : Array Slot} {st : List Value} {a : Addr} {j : Int32} {xs : List Int32} {v : Int32} (hd : decode bc pc = .ok (.baload, 1)) (hq : pc + 1 = q) (hL : L[i]? = some (a, .inr (.byte, xs.map Value.int))) (hj : ¬ j < 0) (hv : xs[j.toNatClampNeg]? = some v) (k : Go p e below F (T.setTop (mkF m q Ls (Value.int v :: st)))) : Go p e below F (T.setTop (mkF m pc Ls (.int j :: .ref a :: st))) :=
  A.baloadB hd hq hL hj (by rw [List.getElem?_map, hv]; rfl) k
theorem Here.baloadZM (A : Here p l e R s m args below meth c Z a0 tbl own nm bc mxl rt n0 T L cells slots) {pc q i : Nat} {Ls : Array Slot} {st : List Value} {a : Addr} {j : Int32} {xs : List Int32} {v : Int32} (hd : decode bc pc = .ok (.baload, 1)) (hq : pc + 1 = q) (hL : L[i]? = some (a, .inr (.boolean, xs.map Value.int))) (hj : ¬ j < 0) (hv : xs[j.toNatClampNeg]? = some v) (k : Go p e below F (T.setTop (mkF m q Ls (Value.int v :: st)))) : Go p e below F (T.setTop (mkF m pc Ls (.int j :: .ref a :: st))) :=
  A.baloadZ hd hq hL hj (by rw [List.getElem?_map, hv]; rfl) k
theorem Here.iastoreM (A : Here p l e R s m args below meth c Z a0 tbl own nm bc mxl rt n0 T L cells slots) {pc q i : Nat} {Ls : Array Slot} {st : List Value} {a : Addr} {j : Int32} {x x' : Int32} {xs : List Int32} {L' : Obs} (hd : decode bc pc = .ok (.iastore, 1)) (hq : pc + 1 = q) (hL : L[i]? = some (a, .inr (.int, xs.map Value.int))) (hj : ¬ j < 0) (hlt : j.toNatClampNeg < xs.length) (hx' : x = x') (hL' : L.set i (a, .inr (.int, (xs.set j.toNatClampNeg x').map Value.int)) = L') (k : ∀ T', Here p l e R s m args below meth c Z a0 tbl own nm bc mxl rt n0 T' L' cells slots → Go p e below F (T'.setTop (mkF m q Ls st))) : Go p e below F (T.setTop (mkF m pc Ls (Value.int x :: .int j :: .ref a :: st))) :=
  A.iastore hd hq hL hj (by rw [List.length_map]; exact hlt) hx' (by rw [← hL', List.map_set]) k
theorem Here.lastoreM (A : Here p l e R s m args below meth c Z a0 tbl own nm bc mxl rt n0 T L cells slots) {pc q i : Nat} {Ls : Array Slot} {st : List Value} {a : Addr} {j : Int32} {x x' : Int64} {xs : List Int64} {L' : Obs} (hd : decode bc pc = .ok (.lastore, 1)) (hq : pc + 1 = q) (hL : L[i]? = some (a, .inr (.long, xs.map Value.long))) (hj : ¬ j < 0) (hlt : j.toNatClampNeg < xs.length) (hx' : x = x') (hL' : L.set i (a, .inr (.long, (xs.set j.toNatClampNeg x').map Value.long)) = L') (k : ∀ T', Here p l e R s m args below meth c Z a0 tbl own nm bc mxl rt n0 T' L' cells slots → Go p e below F (T'.setTop (mkF m q Ls st))) : Go p e below F (T.setTop (mkF m pc Ls (Value.long x :: .int j :: .ref a :: st))) :=
  A.lastore hd hq hL hj (by rw [List.length_map]; exact hlt) hx' (by rw [← hL', List.map_set]) k
theorem Here.bastoreBM (A : Here p l e R s m args below meth c Z a0 tbl own nm bc mxl rt n0 T L cells slots) {pc q i : Nat} {Ls : Array Slot} {st : List Value} {a : Addr} {j : Int32} {x x' : Int32} {xs : List Int32} {L' : Obs} (hd : decode bc pc = .ok (.bastore, 1)) (hq : pc + 1 = q) (hL : L[i]? = some (a, .inr (.byte, xs.map Value.int))) (hj : ¬ j < 0) (hlt : j.toNatClampNeg < xs.length) (hx' : (nar .byte x) = x') (hL' : L.set i (a, .inr (.byte, (xs.set j.toNatClampNeg x').map Value.int)) = L') (k : ∀ T', Here p l e R s m args below meth c Z a0 tbl own nm bc mxl rt n0 T' L' cells slots → Go p e below F (T'.setTop (mkF m q Ls st))) : Go p e below F (T.setTop (mkF m pc Ls (Value.int x :: .int j :: .ref a :: st))) :=
  A.bastoreB hd hq hL hj (by rw [List.length_map]; exact hlt) hx' (by rw [← hL', List.map_set]) k
theorem Here.bastoreZM (A : Here p l e R s m args below meth c Z a0 tbl own nm bc mxl rt n0 T L cells slots) {pc q i : Nat} {Ls : Array Slot} {st : List Value} {a : Addr} {j : Int32} {x x' : Int32} {xs : List Int32} {L' : Obs} (hd : decode bc pc = .ok (.bastore, 1)) (hq : pc + 1 = q) (hL : L[i]? = some (a, .inr (.boolean, xs.map Value.int))) (hj : ¬ j < 0) (hlt : j.toNatClampNeg < xs.length) (hx' : (nar .boolean x) = x') (hL' : L.set i (a, .inr (.boolean, (xs.set j.toNatClampNeg x').map Value.int)) = L') (k : ∀ T', Here p l e R s m args below meth c Z a0 tbl own nm bc mxl rt n0 T' L' cells slots → Go p e below F (T'.setTop (mkF m q Ls st))) : Go p e below F (T.setTop (mkF m pc Ls (Value.int x :: .int j :: .ref a :: st))) :=
  A.bastoreZ hd hq hL hj (by rw [List.length_map]; exact hlt) hx' (by rw [← hL', List.map_set]) k
theorem Here.arraylengthM (A : Here p l e R s m args below meth c Z a0 tbl own nm bc mxl rt n0 T L cells slots) {pc q i : Nat} {Ls : Array Slot} {st : List Value} {a : Addr} {ty : FieldType} {α : Type} {f : α → Value} {xs : List α} {v : Int32} (hd : decode bc pc = .ok (.arraylength, 1)) (hq : pc + 1 = q) (hL : L[i]? = some (a, .inr (ty, xs.map f))) (hv : xs.length.toInt32 = v) (k : Go p e below F (T.setTop (mkF m q Ls (.int v :: st)))) : Go p e below F (T.setTop (mkF m pc Ls (.ref a :: st))) :=
  A.arraylength hd hq hL (by rw [List.length_map]; exact hv) k
theorem own_gd {α : Type} {xs : List α} {n : Nat} {d : α} (h : n < xs.length) : xs[n]? = some (xs.getD n d) := by simp [List.getD, h]
theorem Here.callS (A : Here p l e R s m args below meth c Z a0 tbl own nm bc mxl rt n0 T L cells slots) {pc q index W w1 w2 w3 w4 : Nat} {Ls : Array Slot} {st stk : List Value} {y : MethodName} {bytes : ByteArray} {ml : Nat} {rt' : Option FieldType} {rm : Room} {as : List Value} {Q : Option Value → Obs → Prop} (hd : decode bc pc = .ok (.invokestatic index, 3)) (hq : pc + 3 = q) (h1 : tbl[w1]? = some (Jvm.Cond.methodLink own index y)) (h2 : tbl[w2]? = some (Jvm.Cond.static y)) (h3 : tbl[w3]? = some (Jvm.Cond.initialized y.cls)) (h4 : tbl[w4]? = some (Jvm.Cond.code y bytes ml rt')) (hT : Triple l Z n0 y bytes ml rt' rm rm.cells rm.slots as L Q) (hy : y.cls ≠ "java/lang/invoke/MethodHandle" ∧ y.cls ≠ "java/lang/invoke/VarHandle") (hlen : ∃ ps r, parseMethodDescriptor y.desc = some ⟨ps, r⟩ ∧ as.length = ps.length) (hst : stk = as.reverse ++ st) (hsz : Ls.size = mxl) (hW : (st.map fun v => v.category).sum = W) (hf : rm.frames + 1 ≤ R.frames) (hl : W + (ml + 11) + rm.locals ≤ R.locals) (hc : cells + rm.cells ≤ R.cells) (hs : slots + rm.slots ≤ R.slots)
    (k : ∀ v T' L', Q v L' → Here p l e R s m args below meth c Z a0 tbl own nm bc mxl rt n0 T' L' (cells + rm.cells) (slots + rm.slots) → Go p e below F (T'.setTop (mkF m q Ls (v.toList ++ st)))) : Go p e below F (T.setTop (mkF m pc Ls stk)) := by
  obtain ⟨⟨hx, hZ, hown, hby, hml, hww, hnm, hrt, hlk⟩, locs, X, N, Z0, P⟩ := id A
  obtain ⟨ps, r, hps, hle⟩ := hlen
  subst hst hq
  obtain ⟨v, _, ⟨T1, L1, k1, n1⟩, -, X1, ⟨Lc, hQ, l1, y1, z1⟩, st1⟩ := Jvm.LawKit.callS X hx (y := y) hown (mvT hZ (hww _ (List.mem_of_getElem? h1))) (mvT hZ (hww _ (List.mem_of_getElem? h2))) (mvT hZ (hww _ (List.mem_of_getElem? h3))) (mvT hZ (hww _ (List.mem_of_getElem? h4))) hy (backOf (W := W) (Q := fun v h Lc => Fr n0 Lc ∧ n0 ≤ h.size ∧ ∃ L', Q v L' ∧ Pic Z n0 h L') (hT T.heap [] Z0 P) hZ (hww _ (List.mem_of_getElem? h4)) (hww _ (List.mem_of_getElem? h3)) hf hl) (g := mkF m pc Ls (as.reverse ++ st)) rfl (by rw [hml]; exact hsz) (argsL := as) (rest := st) (lenOf hps hle) rfl (by show 2 * 0 + _ ≤ _; omega) (hb hby hd) (fun _ _ => ⟨rfl, rfl, hc, hs⟩)
  dsimp only [Pt.U, Pt.locs, Pt.cells, Pt.slots] at X1 l1 y1 z1 st1 hQ
  subst l1 y1 z1
  obtain ⟨Nq, Zq, L', q, Pq⟩ := hQ
  exact Go.st st1 (k v T1 L' q ⟨A.1, _, X1, N.app Nq, Zq, Pq⟩)
theorem Here.callI (A : Here p l e R s m args below meth c Z a0 tbl own nm bc mxl rt n0 T L cells slots) {pc q index W w1 w2 w3 w4 : Nat} {Ls : Array Slot} {st stk : List Value} {a : Addr} {y : MethodName} {bytes : ByteArray} {ml : Nat} {rm : Room} {as : List Value} {Q : Option Value → Obs → Prop} (hd : decode bc pc = .ok (.invokespecial index, 3)) (hq : pc + 3 = q) (hy1 : y.name = "<init>") (h1 : tbl[w1]? = some (Jvm.Cond.methodLink own index y)) (h2 : tbl[w2]? = some (Jvm.Cond.instanceMethod y)) (h3 : tbl[w3]? = some (Jvm.Cond.initialized y.cls)) (h4 : tbl[w4]? = some (Jvm.Cond.code y bytes ml none)) (hT : Triple l Z n0 y bytes ml none rm rm.cells rm.slots (.ref a :: as) L Q) (hy : y.cls ≠ "java/lang/invoke/MethodHandle" ∧ y.cls ≠ "java/lang/invoke/VarHandle") (hlen : ∃ ps r, parseMethodDescriptor y.desc = some ⟨ps, r⟩ ∧ as.length = ps.length) (hst : stk = as.reverse ++ .ref a :: st) (hsz : Ls.size = mxl) (hW : (st.map fun v => v.category).sum = W) (hf : rm.frames + 1 ≤ R.frames) (hl : W + (ml + 11) + rm.locals ≤ R.locals) (hc : cells + rm.cells ≤ R.cells) (hs : slots + rm.slots ≤ R.slots)
    (k : ∀ v T' L', Q v L' → Here p l e R s m args below meth c Z a0 tbl own nm bc mxl rt n0 T' L' (cells + rm.cells) (slots + rm.slots) → Go p e below F (T'.setTop (mkF m q Ls (v.toList ++ st)))) : Go p e below F (T.setTop (mkF m pc Ls stk)) := by
  obtain ⟨⟨hx, hZ, hown, hby, hml, hww, hnm, hrt, hlk⟩, locs, X, N, Z0, P⟩ := id A
  obtain ⟨ps, r, hps, hle⟩ := hlen
  subst hst hq
  obtain ⟨v, _, ⟨T1, L1, k1, n1⟩, -, X1, ⟨Lc, hQ, l1, y1, z1⟩, st1⟩ := X.specialBack hx (y := y) hy1 hown (mvT hZ (hww _ (List.mem_of_getElem? h1))) (mvT hZ (hww _ (List.mem_of_getElem? h2))) (mvT hZ (hww _ (List.mem_of_getElem? h4))) hy (backOf (W := W) (Q := fun v h Lc => Fr n0 Lc ∧ n0 ≤ h.size ∧ ∃ L', Q v L' ∧ Pic Z n0 h L') (hT T.heap [] Z0 P) hZ (hww _ (List.mem_of_getElem? h4)) (hww _ (List.mem_of_getElem? h3)) hf hl) (g := mkF m pc Ls (as.reverse ++ .ref a :: st)) rfl (by rw [hml]; exact hsz) (Steps.refl _) (a := a) (argsL := as) (rest := st) (lenOf hps hle) rfl (by show 2 * 0 + _ ≤ _; omega) (hb hby hd) (fun _ _ => ⟨rfl, rfl, hc, hs⟩)
  dsimp only [Pt.U, Pt.locs, Pt.cells, Pt.slots] at X1 l1 y1 z1 st1 hQ
  subst l1 y1 z1
  obtain ⟨Nq, Zq, L', q, Pq⟩ := hQ
  exact Go.st (fun t h => st1.trans h) (k v T1 L' q ⟨A.1, _, X1, N.app Nq, Zq, Pq⟩)
theorem Here.callV (A : Here p l e R s m args below meth c Z a0 tbl own nm bc mxl rt n0 T L cells slots) {pc q index W i w1 w2 w3 w4 w5 w6 : Nat} {Ls : Array Slot} {st stk : List Value} {a : Addr} {C : String} {fs : List ((String × String × String) × Value)} {y : MethodName} {bytes : ByteArray} {ml : Nat} {rt' : Option FieldType} {rm : Room} {as : List Value} {Q : Option Value → Obs → Prop} (hd : decode bc pc = .ok (.invokevirtual index, 3)) (hq : pc + 3 = q) (hL : L[i]? = some (a, .inl (C, fs))) (h1 : tbl[w1]? = some (Jvm.Cond.methodLink own index y)) (h2 : tbl[w2]? = some (Jvm.Cond.declares y)) (h5 : tbl[w5]? = some (Jvm.Cond.selects C y y)) (h6 : tbl[w6]? = some (Jvm.Cond.instanceMethod y)) (h3 : tbl[w3]? = some (Jvm.Cond.initialized y.cls)) (h4 : tbl[w4]? = some (Jvm.Cond.code y bytes ml rt')) (hT : Triple l Z n0 y bytes ml rt' rm rm.cells rm.slots (.ref a :: as) L Q) (hy : y.cls ≠ "java/lang/invoke/MethodHandle" ∧ y.cls ≠ "java/lang/invoke/VarHandle") (hlen : ∃ ps r, parseMethodDescriptor y.desc = some ⟨ps, r⟩ ∧ as.length = ps.length) (hst : stk = as.reverse ++ .ref a :: st) (hsz : Ls.size = mxl) (hW : (st.map fun v => v.category).sum = W) (hf : rm.frames + 1 ≤ R.frames) (hl : W + (ml + 11) + rm.locals ≤ R.locals) (hc : cells + rm.cells ≤ R.cells) (hs : slots + rm.slots ≤ R.slots)
    (k : ∀ v T' L', Q v L' → Here p l e R s m args below meth c Z a0 tbl own nm bc mxl rt n0 T' L' (cells + rm.cells) (slots + rm.slots) → Go p e below F (T'.setTop (mkF m q Ls (v.toList ++ st)))) : Go p e below F (T.setTop (mkF m pc Ls stk)) := by
  obtain ⟨⟨hx, hZ, hown, hby, hml, hww, hnm, hrt, hlk⟩, locs, X, N, Z0, P⟩ := id A
  obtain ⟨ps, r, hps, hle⟩ := hlen
  subst hst hq
  obtain ⟨cq, kq, qa, qb, qc⟩ := isOf (T := T) hZ rfl (P.1 _ (List.mem_of_getElem? hL)).2.1
  obtain ⟨v, _, ⟨T1, L1, k1, n1⟩, -, X1, ⟨Lc, hQ, l1, y1, z1⟩, st1⟩ := X.virtualBack hx (y := y) (z := y) hown (mvT hZ (hww _ (List.mem_of_getElem? h1))) (mvT hZ (hww _ (List.mem_of_getElem? h2))) (notFace_of_selects (args := #[]) (mvT hZ (hww _ (List.mem_of_getElem? h5)))) (mvT hZ (hww _ (List.mem_of_getElem? h5))) (mvT hZ (hww _ (List.mem_of_getElem? h6))) hy (backOf (W := W) (Q := fun v h Lc => Fr n0 Lc ∧ n0 ≤ h.size ∧ ∃ L', Q v L' ∧ Pic Z n0 h L') (hT T.heap [] Z0 P) hZ (hww _ (List.mem_of_getElem? h4)) (hww _ (List.mem_of_getElem? h3)) hf hl) qa qc (g := mkF m pc Ls (as.reverse ++ .ref a :: st)) rfl (by rw [hml]; exact hsz) (Steps.refl _) (argsL := as) (rest := st) (lenOf hps hle) rfl (by show 2 * 0 + _ ≤ _; omega) (hb hby hd) (fun _ _ => ⟨rfl, rfl, hc, hs⟩)
  dsimp only [Pt.U, Pt.locs, Pt.cells, Pt.slots] at X1 l1 y1 z1 st1 hQ
  subst l1 y1 z1
  obtain ⟨Nq, Zq, L', q, Pq⟩ := hQ
  exact Go.st (fun t h => st1.trans h) (k v T1 L' q ⟨A.1, _, X1, N.app Nq, Zq, Pq⟩)

theorem Here.callP (A : Here p l e R s m args below meth c Z a0 tbl own nm bc mxl rt n0 T L cells slots) {pc q index W i w1 w2 w3 w4 w5 w6 kk : Nat} {Ls : Array Slot} {st stk : List Value} {a : Addr} {C : String} {fs : List ((String × String × String) × Value)} {y : MethodName} {bytes : ByteArray} {ml : Nat} {rt' : Option FieldType} {rm : Room} {as : List Value} {Q : Option Value → Obs → Prop} (hd : decode bc pc = .ok (.invokevirtual index, 3)) (hq : pc + 3 = q) (hL : L[i]? = some (a, .inl (C, fs))) (h1 : tbl[w1]? = some (Jvm.Cond.methodLink own index y)) (h2 : tbl[w2]? = some (Jvm.Cond.privateMethod y)) (h5 : tbl[w5]? = some (Jvm.Cond.instantiable y.cls kk)) (h6 : tbl[w6]? = some (Jvm.Cond.instanceMethod y)) (h3 : tbl[w3]? = some (Jvm.Cond.initialized y.cls)) (h4 : tbl[w4]? = some (Jvm.Cond.code y bytes ml rt')) (hT : Triple l Z n0 y bytes ml rt' rm rm.cells rm.slots (.ref a :: as) L Q) (hy : y.cls ≠ "java/lang/invoke/MethodHandle" ∧ y.cls ≠ "java/lang/invoke/VarHandle") (hlen : ∃ ps r, parseMethodDescriptor y.desc = some ⟨ps, r⟩ ∧ as.length = ps.length) (hst : stk = as.reverse ++ .ref a :: st) (hsz : Ls.size = mxl) (hW : (st.map fun v => v.category).sum = W) (hf : rm.frames + 1 ≤ R.frames) (hl : W + (ml + 11) + rm.locals ≤ R.locals) (hc : cells + rm.cells ≤ R.cells) (hs : slots + rm.slots ≤ R.slots)
    (k : ∀ v T' L', Q v L' → Here p l e R s m args below meth c Z a0 tbl own nm bc mxl rt n0 T' L' (cells + rm.cells) (slots + rm.slots) → Go p e below F (T'.setTop (mkF m q Ls (v.toList ++ st)))) : Go p e below F (T.setTop (mkF m pc Ls stk)) := by
  obtain ⟨⟨hx, hZ, hown, hby, hml, hww, hnm, hrt, hlk⟩, locs, X, N, Z0, P⟩ := id A
  obtain ⟨ps, r, hps, hle⟩ := hlen
  subst hst hq
  have hp : s.PrivateAt y := Cond.privateMethod_at (mvP hZ (hww _ (List.mem_of_getElem? h2)) (args := #[]))
  have hin : (Jvm.Cond.instanceMethod y).before args s = true := mvT hZ (hww _ (List.mem_of_getElem? h6))
  have hit : (Jvm.Cond.instantiable y.cls kk).before args s = true := mvT hZ (hww _ (List.mem_of_getElem? h5))
  obtain ⟨cI, kI, i1, i2, -, i4, -⟩ := Cond.instantiable_spec hit
  have hni : kI.isInterface = false := by simp only [Bool.or_eq_false_iff] at i4; exact i4.1
  have hsel := selects_self_of_private (args := args) i1 i2 hni hp hin hy
  obtain ⟨cq, q1, q2⟩ := (P.1 _ (List.mem_of_getElem? hL)).2.1.cell
  obtain ⟨v, _, ⟨T1, L1, k1, n1⟩, -, X1, ⟨Lc, hQ, l1, y1, z1⟩, st1⟩ := X.privateBack hx (y := y) hown (mvT hZ (hww _ (List.mem_of_getElem? h1))) hin hsel hp (mvT hZ (hww _ (List.mem_of_getElem? h4))) hy (backOf (W := W) (Q := fun v h Lc => Fr n0 Lc ∧ n0 ≤ h.size ∧ ∃ L', Q v L' ∧ Pic Z n0 h L') (hT T.heap [] Z0 P) hZ (hww _ (List.mem_of_getElem? h4)) (hww _ (List.mem_of_getElem? h3)) hf hl) (g := mkF m pc Ls (as.reverse ++ .ref a :: st)) rfl (by rw [hml]; exact hsz) (Steps.refl _) (a := a) q1 q2 (argsL := as) (rest := st) (lenOf hps hle) rfl (by show 2 * 0 + _ ≤ _; omega) (hb hby hd) (fun _ _ => ⟨rfl, rfl, hc, hs⟩)
  dsimp only [Pt.U, Pt.locs, Pt.cells, Pt.slots] at X1 l1 y1 z1 st1 hQ
  subst l1 y1 z1
  obtain ⟨Nq, Zq, L', q, Pq⟩ := hQ
  exact Go.st (fun t h => st1.trans h) (k v T1 L' q ⟨A.1, _, X1, N.app Nq, Zq, Pq⟩)
theorem Here.pop2L (A : Here p l e R s m args below meth c Z a0 tbl own nm bc mxl rt n0 T L cells slots) {pc q : Nat} {Ls : Array Slot} {st : List Value} {x : Int64} (hd : decode bc pc = .ok (.pop2, 1)) (hq : pc + 1 = q) (k : Go p e below F (T.setTop (mkF m q Ls st))) : Go p e below F (T.setTop (mkF m pc Ls (.long x :: st))) := by
  obtain ⟨⟨hx, hZ, hown, hby, hml, hww, hnm, hrt, hlk⟩, locs, X, N, Z0, P⟩ := id A
  subst hq
  have hd' := hb hby hd
  refine Go.st (fun t h => ?_) k
  show Steps p.tables e below (T.setTop { method := m, pc := pc, locals := Ls, stack := _ :: st, locked := none }) _
  jvm_step X.here [X.here.top, hx, hd', Value.category]
  exact h

theorem Here.copyAll (A : Here p l e R s m args below meth c Z a0 tbl own nm bc mxl rt n0 T L cells slots) {pc q index W w1 w2 w3 w4 i j : Nat} {Ls : Array Slot} {st : List Value} {a b : Addr} {ty : FieldType} {vs vd : List Value} {nn : Int32} {L' : Obs} (hd : decode bc pc = .ok (.invokestatic index, 3)) (hq : pc + 3 = q) (h1 : tbl[w1]? = some (Jvm.Cond.methodLink own index Jvm.Stand.acN)) (h2 : tbl[w2]? = some (Jvm.Cond.native Jvm.Stand.acN)) (h3 : tbl[w3]? = some (Jvm.Cond.static Jvm.Stand.acN)) (h4 : tbl[w4]? = some (Jvm.Cond.initialized "java/lang/System")) (hi : L[i]? = some (a, .inr (ty, vs))) (hj : L[j]? = some (b, .inr (ty, vd))) (hr : refKind ty = false) (hn : vd.length = vs.length) (hnn : vs.length.toInt32 = nn)
    (hsz : Ls.size = mxl) (hW : (st.map fun v => v.category).sum = W) (hf : 1 ≤ R.frames) (hlo : W + (nativeFrameWords "java/lang/System" "arraycopy" 5 + 11) ≤ R.locals) (hL' : L.set j (b, .inr (ty, vs)) = L') (k : ∀ T', Here p l e R s m args below meth c Z a0 tbl own nm bc mxl rt n0 T' L' cells slots → Go p e below F (T'.setTop (mkF m q Ls st))) : Go p e below F (T.setTop (mkF m pc Ls (.int nn :: .int 0 :: .ref b :: .int 0 :: .ref a :: st))) := by
  obtain ⟨⟨hx, hZ, hown, hby, hml, hww, hnm, hrt, hlk⟩, locs, X, N, Z0, P⟩ := id A
  have Ia := P.1 _ (List.mem_of_getElem? hi)
  have Ib := P.1 _ (List.mem_of_getElem? hj)
  have Ib2 : Ara Z T.heap b ty vd := Ib.2
  have Ia2 : Ara Z T.heap a ty vs := Ia.2
  obtain ⟨ka, VA, la, na⟩ := Ia2.toArv (defaultValue ty)
  obtain ⟨kb, VB, lb, nb⟩ := Ib2.toArv (defaultValue ty)
  rw [hn] at VB lb
  subst hq hnn hL'
  have z0 : (0 : Int32).toNatClampNeg = 0 := by decide
  obtain ⟨T', h', L1, X', e', N', K, V', st'⟩ := cpA X hx hZ hown (hww _ (List.mem_of_getElem? h1)) (hww _ (List.mem_of_getElem? h2)) (hww _ (List.mem_of_getElem? h3)) (hww _ (List.mem_of_getElem? h4)) rfl VA VB (Or.inl ⟨rfl, hr⟩) (sp := 0) (dp := 0) (by decide) (by decide) na (by rw [z0]; omega) (by rw [z0]; omega) rfl (by rw [z0]; omega) N Ib.1 (g := mkF m pc Ls (.int vs.length.toInt32 :: .int 0 :: .ref b :: .int 0 :: .ref a :: st)) rfl (by rw [hml]; exact hsz) rfl (hb hby hd) hf (W := W) (by show 2 * 0 + _ ≤ _; omega) hlo
  subst e'
  have ev : vd.take (0 : Int32).toNatClampNeg ++ (List.range vs.length.toInt32.toNatClampNeg).map (fun i => vs.getD ((0 : Int32).toNatClampNeg + i) (defaultValue ty)) ++ vd.drop ((0 : Int32).toNatClampNeg + vs.length.toInt32.toNatClampNeg) = vs := by
    rw [z0, la, List.take_zero, List.nil_append, List.drop_eq_nil_of_le (by omega), List.append_nil]
    refine List.ext_getElem? fun i => ?_
    by_cases hi' : i < vs.length
    · rw [List.getElem?_map, List.getElem?_range hi']; simp [List.getD_eq_getElem?_getD, hi']
    · rw [List.getElem?_eq_none (by simp; omega), List.getElem?_eq_none (by omega)]
  rw [ev] at V'
  obtain ⟨_, _, _, l31, _, Eb⟩ := Ib2
  exact Go.st st' (k T' ⟨A.1, L1, X', N', Nat.le_trans Z0 K.1, P.setK K hj (Arv.toAra V' la (by rw [hn] at l31; exact l31) (Eb.keep K))⟩)

theorem Here.retV  (A : Here p l e R s m args below meth c Z a0 tbl own nm bc mxl none n0 T L cells slots) {pc kc ks : Nat} {Ls : Array Slot} {Q : Option Value → Obs → Prop} (hd : decode bc pc = .ok (.return_, 1)) (hc : cells ≤ kc) (hs : slots ≤ ks) (hQ : Q none L) : Go p e below (EndS below s n0 Z kc ks Q) (T.setTop (mkF m pc Ls [])) := by
  obtain ⟨⟨hx, hZ, hown, hby, hml, hww, hnm, hrt, hlk⟩, locs, X, N, Z0, P⟩ := id A
  obtain ⟨fs, hr, hrun, hended, hW, hsame⟩ := X.leave (v := none) (fun _ => rfl)
  refine ⟨T.setFrames fs, ?_, _, hrun, hended, _, locs, rfl, ⟨N, Z0, L, hQ, P⟩, ⟨_, rfl⟩, hW, hsame.mono hc hs⟩
  exact X.returnOut hx hrt (hb hby hd) hr
theorem Here.retZ {x v : Int32} (A : Here p l e R s m args below meth c Z a0 tbl own nm bc mxl (some .boolean) n0 T L cells slots) {pc kc ks : Nat} {Ls : Array Slot} {st : List Value} {Q : Option Value → Obs → Prop} (hd : decode bc pc = .ok (.ireturn, 1)) (hv : nar .boolean x = v) (hc : cells ≤ kc) (hs : slots ≤ ks) (hQ : Q (some (.int v)) L) : Go p e below (EndS below s n0 Z kc ks Q) (T.setTop (mkF m pc Ls (.int x :: st))) := by
  obtain ⟨⟨hx, hZ, hown, hby, hml, hww, hnm, hrt, hlk⟩, locs, X, N, Z0, P⟩ := id A
  obtain ⟨fs, hr, hrun, hended, hW, hsame⟩ := X.leave (v := (some (.int v))) (fun h => by rw [hrt] at h; cases h)
  refine ⟨T.setFrames fs, ?_, _, hrun, hended, _, locs, rfl, ⟨N, Z0, L, hQ, P⟩, ⟨_, rfl⟩, hW, hsame.mono hc hs⟩
  subst hv; exact retN X hx (t := .boolean) hrt (by simp) (hb hby hd) hr
theorem Here.retB {x v : Int32} (A : Here p l e R s m args below meth c Z a0 tbl own nm bc mxl (some .byte) n0 T L cells slots) {pc kc ks : Nat} {Ls : Array Slot} {st : List Value} {Q : Option Value → Obs → Prop} (hd : decode bc pc = .ok (.ireturn, 1)) (hv : nar .byte x = v) (hc : cells ≤ kc) (hs : slots ≤ ks) (hQ : Q (some (.int v)) L) : Go p e below (EndS below s n0 Z kc ks Q) (T.setTop (mkF m pc Ls (.int x :: st))) := by
  obtain ⟨⟨hx, hZ, hown, hby, hml, hww, hnm, hrt, hlk⟩, locs, X, N, Z0, P⟩ := id A
  obtain ⟨fs, hr, hrun, hended, hW, hsame⟩ := X.leave (v := (some (.int v))) (fun h => by rw [hrt] at h; cases h)
  refine ⟨T.setFrames fs, ?_, _, hrun, hended, _, locs, rfl, ⟨N, Z0, L, hQ, P⟩, ⟨_, rfl⟩, hW, hsame.mono hc hs⟩
  subst hv; exact retN X hx (t := .byte) hrt (by simp) (hb hby hd) hr
theorem Here.retI {x : Int32} (A : Here p l e R s m args below meth c Z a0 tbl own nm bc mxl (some .int) n0 T L cells slots) {pc kc ks : Nat} {Ls : Array Slot} {st : List Value} {Q : Option Value → Obs → Prop} (hd : decode bc pc = .ok (.ireturn, 1)) (hc : cells ≤ kc) (hs : slots ≤ ks) (hQ : Q (some (.int x)) L) : Go p e below (EndS below s n0 Z kc ks Q) (T.setTop (mkF m pc Ls (.int x :: st))) := by
  obtain ⟨⟨hx, hZ, hown, hby, hml, hww, hnm, hrt, hlk⟩, locs, X, N, Z0, P⟩ := id A
  obtain ⟨fs, hr, hrun, hended, hW, hsame⟩ := X.leave (v := (some (.int x))) (fun h => by rw [hrt] at h; cases h)
  refine ⟨T.setFrames fs, ?_, _, hrun, hended, _, locs, rfl, ⟨N, Z0, L, hQ, P⟩, ⟨_, rfl⟩, hW, hsame.mono hc hs⟩
  exact retOut X hx (t := .int) hrt rfl (Or.inl ⟨rfl, Or.inl rfl, _, rfl⟩) (hb hby hd) hr
theorem Here.retJ {x : Int64} (A : Here p l e R s m args below meth c Z a0 tbl own nm bc mxl (some .long) n0 T L cells slots) {pc kc ks : Nat} {Ls : Array Slot} {st : List Value} {Q : Option Value → Obs → Prop} (hd : decode bc pc = .ok (.lreturn, 1)) (hc : cells ≤ kc) (hs : slots ≤ ks) (hQ : Q (some (.long x)) L) : Go p e below (EndS below s n0 Z kc ks Q) (T.setTop (mkF m pc Ls (.long x :: st))) := by
  obtain ⟨⟨hx, hZ, hown, hby, hml, hww, hnm, hrt, hlk⟩, locs, X, N, Z0, P⟩ := id A
  obtain ⟨fs, hr, hrun, hended, hW, hsame⟩ := X.leave (v := (some (.long x))) (fun h => by rw [hrt] at h; cases h)
  refine ⟨T.setFrames fs, ?_, _, hrun, hended, _, locs, rfl, ⟨N, Z0, L, hQ, P⟩, ⟨_, rfl⟩, hW, hsame.mono hc hs⟩
  exact retOut X hx (t := .long) hrt rfl (Or.inr (Or.inl ⟨rfl, rfl, _, rfl⟩)) (hb hby hd) hr
theorem Here.retA {x : Value} {t : FieldType} (A : Here p l e R s m args below meth c Z a0 tbl own nm bc mxl (some t) n0 T L cells slots) {pc kc ks : Nat} {Ls : Array Slot} {st : List Value} {Q : Option Value → Obs → Prop} (hd : decode bc pc = .ok (.areturn, 1)) (hrf : x.isRef = true) (htr : t.isReference = true) (hnn : narrow t x = x) (hc : cells ≤ kc) (hs : slots ≤ ks) (hQ : Q (some x) L) : Go p e below (EndS below s n0 Z kc ks Q) (T.setTop (mkF m pc Ls (x :: st))) := by
  obtain ⟨⟨hx, hZ, hown, hby, hml, hww, hnm, hrt, hlk⟩, locs, X, N, Z0, P⟩ := id A
  obtain ⟨fs, hr, hrun, hended, hW, hsame⟩ := X.leave (v := (some x)) (fun h => by rw [hrt] at h; cases h)
  refine ⟨T.setFrames fs, ?_, _, hrun, hended, _, locs, rfl, ⟨N, Z0, L, hQ, P⟩, ⟨_, rfl⟩, hW, hsame.mono hc hs⟩
  exact retOut X hx (t := t) hrt hnn (Or.inr (Or.inr (Or.inr (Or.inr ⟨rfl, htr, hrf⟩)))) (hb hby hd) hr
end Walk
def FP (q0 : Int64) (p1 : Int32) (p2 : Int32) (p3 : Int32) (p4 : Int32) : Int32 := (if ((((q0.toUInt64 >>> (p1 &&& 0x3f).toInt64.toUInt64).toInt64) &&& (3 : Int64)).toInt32) = (0 : Int32) then (-1 : Int32) else (if ((((q0.toUInt64 >>> (p1 &&& 0x3f).toInt64.toUInt64).toInt64) &&& (3 : Int64)).toInt32) = (1 : Int32) then p2 else (if ((((q0.toUInt64 >>> (p1 &&& 0x3f).toInt64.toUInt64).toInt64) &&& (3 : Int64)).toInt32) = (2 : Int32) then p3 else p4)))
theorem d1_0 : decode method_2_code 0 = .ok (.lload_n 0, 1) := by decide +kernel
theorem d1_1 : decode method_2_code 1 = .ok (.iload_n 2, 1) := by decide +kernel
theorem d1_2 : decode method_2_code 2 = .ok (.lushr, 1) := by decide +kernel
theorem d1_3 : decode method_2_code 3 = .ok (.ldc2_w 7, 3) := by decide +kernel
theorem d1_6 : decode method_2_code 6 = .ok (.land, 1) := by decide +kernel
theorem d1_7 : decode method_2_code 7 = .ok (.l2i, 1) := by decide +kernel
theorem d1_8 : decode method_2_code 8 = .ok (.istore 6, 2) := by decide +kernel
theorem d1_10 : decode method_2_code 10 = .ok (.iload 6, 2) := by decide +kernel
theorem d1_12 : decode method_2_code 12 = .ok (.ifCond .ne 5, 3) := by decide +kernel
theorem d1_15 : decode method_2_code 15 = .ok (.iconst (-1), 1) := by decide +kernel
theorem d1_16 : decode method_2_code 16 = .ok (.ireturn, 1) := by decide +kernel
theorem d1_17 : decode method_2_code 17 = .ok (.iload 6, 2) := by decide +kernel
theorem d1_19 : decode method_2_code 19 = .ok (.iconst 1, 1) := by decide +kernel
theorem d1_20 : decode method_2_code 20 = .ok (.if_icmp .ne 5, 3) := by decide +kernel
theorem d1_23 : decode method_2_code 23 = .ok (.iload_n 3, 1) := by decide +kernel
theorem d1_24 : decode method_2_code 24 = .ok (.ireturn, 1) := by decide +kernel
theorem d1_25 : decode method_2_code 25 = .ok (.iload 6, 2) := by decide +kernel
theorem d1_27 : decode method_2_code 27 = .ok (.iconst 2, 1) := by decide +kernel
theorem d1_28 : decode method_2_code 28 = .ok (.if_icmp .ne 6, 3) := by decide +kernel
theorem d1_31 : decode method_2_code 31 = .ok (.iload 4, 2) := by decide +kernel
theorem d1_33 : decode method_2_code 33 = .ok (.ireturn, 1) := by decide +kernel
theorem d1_34 : decode method_2_code 34 = .ok (.iload 5, 2) := by decide +kernel
theorem d1_36 : decode method_2_code 36 = .ok (.ireturn, 1) := by decide +kernel
theorem pn_1 : plainFor (⟨"com/example/triplemill/triplemill/engine/RowBufferMergeIntoPinLaw", "pick", "(JIIII)I"⟩ : MethodName) = true := plainFor_of_name (by first | (simp [plainName, overriddenIn]; done) | decide +kernel)
set_option maxRecDepth 65536 in
set_option maxHeartbeats 8000000 in
theorem rmP (l : Launch) (Z : State) (a0 : Array Value) (hw : ∀ d ∈ tables_1, d.before a0 Z = true) (n0 : Nat) (q0 : Int64) (p1 : Int32) (p2 : Int32) (p3 : Int32) (p4 : Int32) (RR : Obs) :
    Triple l Z n0 (⟨"com/example/triplemill/triplemill/engine/RowBufferMergeIntoPinLaw", "pick", "(JIIII)I"⟩ : MethodName) method_2_code 7 (some .int) ({ frames := 0, cells := 0, slots := 0, locals := 0 } : Room) 0 0 [(.long q0), (.int p1), (.int p2), (.int p3), (.int p4)] (RR) (fun v L' => v = some (.int (FP q0 p1 p2 p3 p4)) ∧ L' = (RR)) := by
  refine Triple.of_body (tbl := tables_1) (a0 := a0) (Ls := #[.val (.long q0), .second, .val (.int p1), .val (.int p2), .val (.int p3), .val (.int p4), .unset]) pn_1 hw rfl ?_
  intro p e s m below meth c T A
  refine A.lloadN (q := 1) d1_0 rfl rfl ?_
  refine A.iloadN (q := 2) d1_1 rfl rfl ?_
  obtain ⟨v1, e1⟩ : ∃ v : Int64, (q0.toUInt64 >>> (p1 &&& 0x3f).toInt64.toUInt64).toInt64 = v := ⟨_, rfl⟩
  refine A.lushr (q := 3) d1_2 rfl e1 ?_
  refine A.ldc2_w (q := 6) (v := (3 : Int64)) (w := 5) d1_3 rfl rfl ?_
  obtain ⟨v2, e2⟩ : ∃ v : Int64, v1 &&& (3 : Int64) = v := ⟨_, rfl⟩
  refine A.land (q := 7) d1_6 rfl e2 ?_
  obtain ⟨v3, e3⟩ : ∃ v : Int32, v2.toInt32 = v := ⟨_, rfl⟩
  refine A.l2i (q := 8) d1_7 rfl e3 ?_
  refine A.istore (q := 10) (l' := #[.val (.long q0), .second, .val (.int p1), .val (.int p2), .val (.int p3), .val (.int p4), .val (.int v3)]) d1_8 rfl rfl ?_
  refine A.iload (q := 12) d1_10 rfl rfl ?_
  refine A.if_ne (q := 15) (r := 17) d1_12 rfl (by decide) (fun h4 => ?_) (fun h4 => ?_)
  · refine A.iload (q := 19) d1_17 rfl rfl ?_
    refine A.iconst (q := 20) (v := (1 : Int32)) d1_19 rfl (by decide) ?_
    refine A.icmp_ne (q := 23) (r := 25) d1_20 rfl (by decide) (fun h5 => ?_) (fun h5 => ?_)
    · refine A.iload (q := 27) d1_25 rfl rfl ?_
      refine A.iconst (q := 28) (v := (2 : Int32)) d1_27 rfl (by decide) ?_
      refine A.icmp_ne (q := 31) (r := 34) d1_28 rfl (by decide) (fun h6 => ?_) (fun h6 => ?_)
      · refine A.iload (q := 36) d1_34 rfl rfl ?_
        subst e1 e2 e3
        exact A.retI d1_36 (by decide) (by decide) ⟨(by simp only [FP, if_neg h4, if_neg h5, if_neg h6]), by first | rfl | (simp only [if_neg h4, if_neg h5, if_neg h6])⟩
      · refine A.iload (q := 33) d1_31 rfl rfl ?_
        subst e1 e2 e3
        exact A.retI d1_33 (by decide) (by decide) ⟨(by simp only [FP, if_neg h4, if_neg h5, if_pos h6]), by first | rfl | (simp only [if_neg h4, if_neg h5, if_pos h6])⟩
    · refine A.iloadN (q := 24) d1_23 rfl rfl ?_
      subst e1 e2 e3
      exact A.retI d1_24 (by decide) (by decide) ⟨(by simp only [FP, if_neg h4, if_pos h5]), by first | rfl | (simp only [if_neg h4, if_pos h5])⟩
  · refine A.iconst (q := 16) (v := (-1 : Int32)) d1_15 rfl (by decide) ?_
    subst e1 e2 e3
    exact A.retI d1_16 (by decide) (by decide) ⟨(by simp only [FP, if_pos h4]), by first | rfl | (simp only [if_pos h4])⟩
def FC (p0 : Int32) (p1 : Int32) : Int32 := (if p0 = (-1 : Int32) then (0 : Int32) else (if p1 = (-1 : Int32) then (0 : Int32) else (if p0 = p1 then (0 : Int32) else (1 : Int32))))
theorem d2_0 : decode method_3_code 0 = .ok (.iload_n 0, 1) := by decide +kernel
theorem d2_1 : decode method_3_code 1 = .ok (.iconst (-1), 1) := by decide +kernel
theorem d2_2 : decode method_3_code 2 = .ok (.if_icmp .eq 17, 3) := by decide +kernel
theorem d2_5 : decode method_3_code 5 = .ok (.iload_n 1, 1) := by decide +kernel
theorem d2_6 : decode method_3_code 6 = .ok (.iconst (-1), 1) := by decide +kernel
theorem d2_7 : decode method_3_code 7 = .ok (.if_icmp .eq 12, 3) := by decide +kernel
theorem d2_10 : decode method_3_code 10 = .ok (.iload_n 0, 1) := by decide +kernel
theorem d2_11 : decode method_3_code 11 = .ok (.iload_n 1, 1) := by decide +kernel
theorem d2_12 : decode method_3_code 12 = .ok (.if_icmp .eq 7, 3) := by decide +kernel
theorem d2_15 : decode method_3_code 15 = .ok (.iconst 1, 1) := by decide +kernel
theorem d2_16 : decode method_3_code 16 = .ok (.goto 4, 3) := by decide +kernel
theorem d2_19 : decode method_3_code 19 = .ok (.iconst 0, 1) := by decide +kernel
theorem d2_20 : decode method_3_code 20 = .ok (.ireturn, 1) := by decide +kernel
theorem pn_2 : plainFor (⟨"com/example/triplemill/triplemill/engine/RowBufferMergeIntoPinLaw", "conflict", "(II)Z"⟩ : MethodName) = true := plainFor_of_name (by first | (simp [plainName, overriddenIn]; done) | decide +kernel)
set_option maxRecDepth 65536 in
set_option maxHeartbeats 8000000 in
theorem rmC (l : Launch) (Z : State) (a0 : Array Value) (hw : ∀ d ∈ tables_1, d.before a0 Z = true) (n0 : Nat) (p0 : Int32) (p1 : Int32) (RR : Obs) :
    Triple l Z n0 (⟨"com/example/triplemill/triplemill/engine/RowBufferMergeIntoPinLaw", "conflict", "(II)Z"⟩ : MethodName) method_3_code 2 (some .boolean) ({ frames := 0, cells := 0, slots := 0, locals := 0 } : Room) 0 0 [(.int p0), (.int p1)] (RR) (fun v L' => v = some (.int (FC p0 p1)) ∧ L' = (RR)) := by
  refine Triple.of_body (tbl := tables_1) (a0 := a0) (Ls := #[.val (.int p0), .val (.int p1)]) pn_2 hw rfl ?_
  intro p e s m below meth c T A
  refine A.iloadN (q := 1) d2_0 rfl rfl ?_
  refine A.iconst (q := 2) (v := (-1 : Int32)) d2_1 rfl (by decide) ?_
  refine A.icmp_eq (q := 5) (r := 19) d2_2 rfl (by decide) (fun h1 => ?_) (fun h1 => ?_)
  · refine A.iconst (q := 20) (v := (0 : Int32)) d2_19 rfl (by decide) ?_
    exact A.retZ (v := (FC p0 p1)) d2_20 (by simp only [FC, if_pos h1]; first | rfl | assumption) (by decide) (by decide) ⟨rfl, by first | rfl | (simp only [if_pos h1])⟩
  · refine A.iloadN (q := 6) d2_5 rfl rfl ?_
    refine A.iconst (q := 7) (v := (-1 : Int32)) d2_6 rfl (by decide) ?_
    refine A.icmp_eq (q := 10) (r := 19) d2_7 rfl (by decide) (fun h2 => ?_) (fun h2 => ?_)
    · refine A.iconst (q := 20) (v := (0 : Int32)) d2_19 rfl (by decide) ?_
      exact A.retZ (v := (FC p0 p1)) d2_20 (by simp only [FC, if_neg h1, if_pos h2]; first | rfl | assumption) (by decide) (by decide) ⟨rfl, by first | rfl | (simp only [if_neg h1, if_pos h2])⟩
    · refine A.iloadN (q := 11) d2_10 rfl rfl ?_
      refine A.iloadN (q := 12) d2_11 rfl rfl ?_
      refine A.icmp_eq (q := 15) (r := 19) d2_12 rfl (by decide) (fun h3 => ?_) (fun h3 => ?_)
      · refine A.iconst (q := 20) (v := (0 : Int32)) d2_19 rfl (by decide) ?_
        exact A.retZ (v := (FC p0 p1)) d2_20 (by simp only [FC, if_neg h1, if_neg h2, if_pos h3]; first | rfl | assumption) (by decide) (by decide) ⟨rfl, by first | rfl | (simp only [if_neg h1, if_neg h2, if_pos h3])⟩
      · refine A.iconst (q := 16) (v := (1 : Int32)) d2_15 rfl (by decide) ?_
        refine A.goto (r := 20) d2_16 (by decide) ?_
        exact A.retZ (v := (FC p0 p1)) d2_20 (by simp only [FC, if_neg h1, if_neg h2, if_neg h3]; first | rfl | assumption) (by decide) (by decide) ⟨rfl, by first | rfl | (simp only [if_neg h1, if_neg h2, if_neg h3])⟩
def FG (p0 : Int32) (p1 : Int32) : Int32 := (if p1 = (-1 : Int32) then p0 else p1)
theorem d3_0 : decode method_4_code 0 = .ok (.iload_n 1, 1) := by decide +kernel
theorem d3_1 : decode method_4_code 1 = .ok (.iconst (-1), 1) := by decide +kernel
theorem d3_2 : decode method_4_code 2 = .ok (.if_icmp .ne 7, 3) := by decide +kernel
theorem d3_5 : decode method_4_code 5 = .ok (.iload_n 0, 1) := by decide +kernel
theorem d3_6 : decode method_4_code 6 = .ok (.goto 4, 3) := by decide +kernel
theorem d3_9 : decode method_4_code 9 = .ok (.iload_n 1, 1) := by decide +kernel
theorem d3_10 : decode method_4_code 10 = .ok (.ireturn, 1) := by decide +kernel
theorem pn_3 : plainFor (⟨"com/example/triplemill/triplemill/engine/RowBufferMergeIntoPinLaw", "merged", "(II)I"⟩ : MethodName) = true := plainFor_of_name (by first | (simp [plainName, overriddenIn]; done) | decide +kernel)
set_option maxRecDepth 65536 in
set_option maxHeartbeats 8000000 in
theorem rmG (l : Launch) (Z : State) (a0 : Array Value) (hw : ∀ d ∈ tables_1, d.before a0 Z = true) (n0 : Nat) (p0 : Int32) (p1 : Int32) (RR : Obs) :
    Triple l Z n0 (⟨"com/example/triplemill/triplemill/engine/RowBufferMergeIntoPinLaw", "merged", "(II)I"⟩ : MethodName) method_4_code 2 (some .int) ({ frames := 0, cells := 0, slots := 0, locals := 0 } : Room) 0 0 [(.int p0), (.int p1)] (RR) (fun v L' => v = some (.int (FG p0 p1)) ∧ L' = (RR)) := by
  refine Triple.of_body (tbl := tables_1) (a0 := a0) (Ls := #[.val (.int p0), .val (.int p1)]) pn_3 hw rfl ?_
  intro p e s m below meth c T A
  refine A.iloadN (q := 1) d3_0 rfl rfl ?_
  refine A.iconst (q := 2) (v := (-1 : Int32)) d3_1 rfl (by decide) ?_
  refine A.icmp_ne (q := 5) (r := 9) d3_2 rfl (by decide) (fun h1 => ?_) (fun h1 => ?_)
  · refine A.iloadN (q := 10) d3_9 rfl rfl ?_
    exact A.retI d3_10 (by decide) (by decide) ⟨(by simp only [FG, if_neg h1]), by first | rfl | (simp only [if_neg h1])⟩
  · refine A.iloadN (q := 6) d3_5 rfl rfl ?_
    refine A.goto (r := 10) d3_6 (by decide) ?_
    exact A.retI d3_10 (by decide) (by decide) ⟨(by simp only [FG, if_pos h1]), by first | rfl | (simp only [if_pos h1])⟩
theorem own_r3 {v : Int32} (h : 0 ≤ v.toInt ∧ v.toInt < 3) : v = 0 ∨ v = 1 ∨ v = 2 := by
  have q : v.toInt = (0 : Int32).toInt ∨ v.toInt = (1 : Int32).toInt ∨ v.toInt = (2 : Int32).toInt := by simp only [Int32.reduceToInt]; omega
  exact q.imp Int32.toInt_inj.mp (Or.imp Int32.toInt_inj.mp Int32.toInt_inj.mp)
theorem own_r4 {v : Int32} (h : 0 ≤ v.toInt ∧ v.toInt < 4) : v = 0 ∨ v = 1 ∨ v = 2 ∨ v = 3 := by
  have q : v.toInt = (0 : Int32).toInt ∨ v.toInt = (1 : Int32).toInt ∨ v.toInt = (2 : Int32).toInt ∨ v.toInt = (3 : Int32).toInt := by simp only [Int32.reduceToInt]; omega
  exact q.imp Int32.toInt_inj.mp (Or.imp Int32.toInt_inj.mp (Or.imp Int32.toInt_inj.mp Int32.toInt_inj.mp))
theorem own_r5 {v : Int32} (h : 0 ≤ v.toInt ∧ v.toInt < 5) : v = 0 ∨ v = 1 ∨ v = 2 ∨ v = 3 ∨ v = 4 := by
  have q : v.toInt = (0 : Int32).toInt ∨ v.toInt = (1 : Int32).toInt ∨ v.toInt = (2 : Int32).toInt ∨ v.toInt = (3 : Int32).toInt ∨ v.toInt = (4 : Int32).toInt := by simp only [Int32.reduceToInt]; omega
  exact q.imp Int32.toInt_inj.mp (Or.imp Int32.toInt_inj.mp (Or.imp Int32.toInt_inj.mp (Or.imp Int32.toInt_inj.mp Int32.toInt_inj.mp)))
theorem own_and3 (x : Int32) : x &&& (3 : Int32) = 0 ∨ x &&& (3 : Int32) = 1 ∨ x &&& (3 : Int32) = 2 ∨ x &&& (3 : Int32) = 3 :=
  own_r4 (by have h := c_mask x 3 2 (by decide) (by decide); omega)
theorem own_mod3 (x : Int32) : (x &&& (2147483647 : Int32)) % (3 : Int32) = 0 ∨ (x &&& (2147483647 : Int32)) % (3 : Int32) = 1 ∨ (x &&& (2147483647 : Int32)) % (3 : Int32) = 2 :=
  own_r3 (by
    have h1 := c_mask x 2147483647 31 (by decide) (by decide)
    have h2 := c_irem (x &&& (2147483647 : Int32)) 3 3 (by decide)
    omega)
theorem own_mod5 (x : Int32) : (x &&& (2147483647 : Int32)) % (5 : Int32) = 0 ∨ (x &&& (2147483647 : Int32)) % (5 : Int32) = 1 ∨ (x &&& (2147483647 : Int32)) % (5 : Int32) = 2 ∨ (x &&& (2147483647 : Int32)) % (5 : Int32) = 3 ∨ (x &&& (2147483647 : Int32)) % (5 : Int32) = 4 :=
  own_r5 (by
    have h1 := c_mask x 2147483647 31 (by decide) (by decide)
    have h2 := c_irem (x &&& (2147483647 : Int32)) 5 5 (by decide)
    omega)
theorem own_r2 {v : Int32} (h : 0 ≤ v.toInt ∧ v.toInt < 2) : v = 0 ∨ v = 1 := by
  have q : v.toInt = (0 : Int32).toInt ∨ v.toInt = (1 : Int32).toInt := by simp only [Int32.reduceToInt]; omega
  exact q.imp Int32.toInt_inj.mp Int32.toInt_inj.mp
theorem own_r1 {v : Int32} (h : 0 ≤ v.toInt ∧ v.toInt < 1) : v = 0 := by
  have q : v.toInt = (0 : Int32).toInt := by simp only [Int32.reduceToInt]; omega
  exact Int32.toInt_inj.mp q
theorem own_modb (x k : Int32) (d : Int) (hk : k.toInt = d) (hd : 0 < d) : 0 ≤ ((x &&& (2147483647 : Int32)) % k).toInt ∧ ((x &&& (2147483647 : Int32)) % k).toInt < d := by
  have h1 := c_mask x 2147483647 31 (by decide) (by decide)
  have h2 := (c_irem (x &&& (2147483647 : Int32)) k d hk).1 (by omega)
  rw [h2]
  exact ⟨Int.emod_nonneg _ (by omega), Int.emod_lt_of_pos _ hd⟩
theorem own_nb (x : Int32) : nar .byte (x.toInt8.toInt32) = x.toInt8.toInt32 := by
  have h1 := c_i2b x
  have h2 := c_i2b (x.toInt8.toInt32)
  refine Int32.toInt_inj.mp ?_
  show (x.toInt8.toInt32).toInt8.toInt32.toInt = _
  omega

theorem own_pos (v i : Int32) : (v = (-1 : Int32)) ∨ (¬ v = (-1 : Int32) ∧ i = (-1 : Int32)) ∨ (¬ v = (-1 : Int32) ∧ ¬ i = (-1 : Int32) ∧ i = v) ∨ (¬ v = (-1 : Int32) ∧ ¬ i = (-1 : Int32) ∧ ¬ i = v ∧ ¬ v = i) := by
  by_cases a : v = (-1 : Int32)
  · exact Or.inl a
  · by_cases b : i = (-1 : Int32)
    · exact Or.inr (Or.inl ⟨a, b⟩)
    · by_cases d : i = v
      · exact Or.inr (Or.inr (Or.inl ⟨a, b, d⟩))
      · exact Or.inr (Or.inr (Or.inr ⟨a, b, d, fun h => d h.symm⟩))
theorem pd_0 : parseMethodDescriptor "(JIIII)I" = some ⟨[.long, .int, .int, .int, .int], some .int⟩ := by decide +kernel
theorem d4_0 : decode prog_59_method_15_code 0 = .ok (.iconst 0, 1) := by decide +kernel
theorem d4_1 : decode prog_59_method_15_code 1 = .ok (.istore 4, 2) := by decide +kernel
theorem d4_3 : decode prog_59_method_15_code 3 = .ok (.iload 4, 2) := by decide +kernel
theorem d4_5 : decode prog_59_method_15_code 5 = .ok (.iload_n 2, 1) := by decide +kernel
theorem d4_6 : decode prog_59_method_15_code 6 = .ok (.if_icmp .ge 51, 3) := by decide +kernel
theorem d4_9 : decode prog_59_method_15_code 9 = .ok (.aload_n 0, 1) := by decide +kernel
theorem d4_10 : decode prog_59_method_15_code 10 = .ok (.iload_n 1, 1) := by decide +kernel
theorem d4_11 : decode prog_59_method_15_code 11 = .ok (.iload 4, 2) := by decide +kernel
theorem d4_13 : decode prog_59_method_15_code 13 = .ok (.iadd, 1) := by decide +kernel
theorem d4_14 : decode prog_59_method_15_code 14 = .ok (.iaload, 1) := by decide +kernel
theorem d4_15 : decode prog_59_method_15_code 15 = .ok (.istore 5, 2) := by decide +kernel
theorem d4_17 : decode prog_59_method_15_code 17 = .ok (.iload 5, 2) := by decide +kernel
theorem d4_19 : decode prog_59_method_15_code 19 = .ok (.iconst (-1), 1) := by decide +kernel
theorem d4_20 : decode prog_59_method_15_code 20 = .ok (.if_icmp .eq 31, 3) := by decide +kernel
theorem d4_23 : decode prog_59_method_15_code 23 = .ok (.aload_n 3, 1) := by decide +kernel
theorem d4_24 : decode prog_59_method_15_code 24 = .ok (.iload 4, 2) := by decide +kernel
theorem d4_26 : decode prog_59_method_15_code 26 = .ok (.iaload, 1) := by decide +kernel
theorem d4_27 : decode prog_59_method_15_code 27 = .ok (.iconst (-1), 1) := by decide +kernel
theorem d4_28 : decode prog_59_method_15_code 28 = .ok (.if_icmp .ne 12, 3) := by decide +kernel
theorem d4_31 : decode prog_59_method_15_code 31 = .ok (.aload_n 3, 1) := by decide +kernel
theorem d4_32 : decode prog_59_method_15_code 32 = .ok (.iload 4, 2) := by decide +kernel
theorem d4_34 : decode prog_59_method_15_code 34 = .ok (.iload 5, 2) := by decide +kernel
theorem d4_36 : decode prog_59_method_15_code 36 = .ok (.iastore, 1) := by decide +kernel
theorem d4_37 : decode prog_59_method_15_code 37 = .ok (.goto 14, 3) := by decide +kernel
theorem d4_40 : decode prog_59_method_15_code 40 = .ok (.aload_n 3, 1) := by decide +kernel
theorem d4_41 : decode prog_59_method_15_code 41 = .ok (.iload 4, 2) := by decide +kernel
theorem d4_43 : decode prog_59_method_15_code 43 = .ok (.iaload, 1) := by decide +kernel
theorem d4_44 : decode prog_59_method_15_code 44 = .ok (.iload 5, 2) := by decide +kernel
theorem d4_46 : decode prog_59_method_15_code 46 = .ok (.if_icmp .eq 5, 3) := by decide +kernel
theorem d4_49 : decode prog_59_method_15_code 49 = .ok (.iconst 0, 1) := by decide +kernel
theorem d4_50 : decode prog_59_method_15_code 50 = .ok (.ireturn, 1) := by decide +kernel
theorem d4_51 : decode prog_59_method_15_code 51 = .ok (.iinc 4 1, 3) := by decide +kernel
theorem d4_54 : decode prog_59_method_15_code 54 = .ok (.goto (-51), 3) := by decide +kernel
theorem d4_57 : decode prog_59_method_15_code 57 = .ok (.iconst 1, 1) := by decide +kernel
theorem d4_58 : decode prog_59_method_15_code 58 = .ok (.ireturn, 1) := by decide +kernel
theorem pn_4 : plainFor (⟨"com/example/triplemill/triplemill/engine/RowBuffer", "mergeInto", "([III[I)Z"⟩ : MethodName) = true := plainFor_of_name (by first | (simp [plainName, overriddenIn]; done) | decide +kernel)
set_option maxRecDepth 65536 in
set_option maxHeartbeats 8000000 in
theorem rmI_1 (l : Launch) (Z : State) (a0 : Array Value) (hw : ∀ d ∈ tables_1, d.before a0 Z = true) (n0 : Nat) (r0 : Addr) (r1 : Addr) (p2 : Int32) (p3 : Int32) (p4 : Int32) (p5 : Int32) (p6 : Int32) (p7 : Int32) (p8 : Int32) (p9 : Int32) (p10 : Int32) (RR : Obs) :
    Triple l Z n0 (⟨"com/example/triplemill/triplemill/engine/RowBuffer", "mergeInto", "([III[I)Z"⟩ : MethodName) prog_59_method_15_code 6 (some .boolean) ({ frames := 0, cells := 0, slots := 0, locals := 0 } : Room) 0 0 [(.ref r0), (.int (0 : Int32)), (.int (0 : Int32)), (.ref r1)] ((r0, .inr (.int, [(.int p2), (.int p3), (.int p4), (.int p5), (.int p6), (.int p7)])) :: (r1, .inr (.int, [(.int p8), (.int p9), (.int p10)])) :: RR) (fun v L' => v = some (.int (1 : Int32)) ∧ L' = ((r0, .inr (.int, [(.int p2), (.int p3), (.int p4), (.int p5), (.int p6), (.int p7)])) :: (r1, .inr (.int, [(.int p8), (.int p9), (.int p10)])) :: RR)) := by
  refine Triple.of_body (tbl := tables_1) (a0 := a0) (Ls := #[.val (.ref r0), .val (.int (0 : Int32)), .val (.int (0 : Int32)), .val (.ref r1), .unset, .unset]) pn_4 hw rfl ?_
  intro p e s m below meth c T A
  refine A.iconst (q := 1) (v := (0 : Int32)) d4_0 rfl (by decide) ?_
  refine A.istore (q := 3) (l' := #[.val (.ref r0), .val (.int (0 : Int32)), .val (.int (0 : Int32)), .val (.ref r1), .val (.int (0 : Int32)), .unset]) d4_1 rfl rfl ?_
  refine A.iload (q := 5) d4_3 rfl rfl ?_
  refine A.iloadN (q := 6) d4_5 rfl rfl ?_
  refine A.icmpT (r := 57) d4_6 (by decide) (by decide) ?_
  refine A.iconst (q := 58) (v := (1 : Int32)) d4_57 rfl (by decide) ?_
  exact A.retZ (v := (1 : Int32)) d4_58 (by decide) (by decide) (by decide) ⟨rfl, rfl⟩
theorem pd_1 : parseMethodDescriptor "([III[I)Z" = some ⟨[(.array .int), .int, .int, (.array .int)], some .boolean⟩ := by decide +kernel
theorem pd_2 : parseMethodDescriptor "(II)Z" = some ⟨[.int, .int], some .boolean⟩ := by decide +kernel
theorem pd_3 : parseMethodDescriptor "(II)I" = some ⟨[.int, .int], some .int⟩ := by decide +kernel
def FI_2 (p2 : Int32) (p8 : Int32) : Int32 := (if (p2 = (-1 : Int32)) ∨ (¬ (p2 = (-1 : Int32)) ∧ ¬ (p8 = (-1 : Int32)) ∧ p8 = p2) ∨ (¬ (p2 = (-1 : Int32)) ∧ p8 = (-1 : Int32)) then (1 : Int32) else (0 : Int32))
set_option maxRecDepth 65536 in
set_option maxHeartbeats 8000000 in
theorem rmI_2 (l : Launch) (Z : State) (a0 : Array Value) (hw : ∀ d ∈ tables_1, d.before a0 Z = true) (n0 : Nat) (r0 : Addr) (r1 : Addr) (p2 : Int32) (p3 : Int32) (p4 : Int32) (p5 : Int32) (p6 : Int32) (p7 : Int32) (p8 : Int32) (p9 : Int32) (p10 : Int32) (RR : Obs) :
    Triple l Z n0 (⟨"com/example/triplemill/triplemill/engine/RowBuffer", "mergeInto", "([III[I)Z"⟩ : MethodName) prog_59_method_15_code 6 (some .boolean) ({ frames := 0, cells := 0, slots := 0, locals := 0 } : Room) 0 0 [(.ref r0), (.int (0 : Int32)), (.int (1 : Int32)), (.ref r1)] ((r0, .inr (.int, [(.int p2), (.int p3), (.int p4), (.int p5), (.int p6), (.int p7)])) :: (r1, .inr (.int, [(.int p8), (.int p9), (.int p10)])) :: RR) (fun v L' => v = some (.int (FI_2 p2 p8)) ∧ L' = ((r0, .inr (.int, [(.int p2), (.int p3), (.int p4), (.int p5), (.int p6), (.int p7)])) :: (r1, .inr (.int, [(.int (if (p2 = (-1 : Int32)) ∨ (¬ (p2 = (-1 : Int32)) ∧ ¬ (p8 = (-1 : Int32)) ∧ p8 = p2) ∨ (¬ (p2 = (-1 : Int32)) ∧ p8 = (-1 : Int32)) then ((if p2 = (-1 : Int32) then p8 else (if p8 = (-1 : Int32) then p2 else p8))) else p8)), (.int p9), (.int p10)])) :: RR)) := by
  refine Triple.of_body (tbl := tables_1) (a0 := a0) (Ls := #[.val (.ref r0), .val (.int (0 : Int32)), .val (.int (1 : Int32)), .val (.ref r1), .unset, .unset]) pn_4 hw rfl ?_
  intro p e s m below meth c T A
  refine A.iconst (q := 1) (v := (0 : Int32)) d4_0 rfl (by decide) ?_
  refine A.istore (q := 3) (l' := #[.val (.ref r0), .val (.int (0 : Int32)), .val (.int (1 : Int32)), .val (.ref r1), .val (.int (0 : Int32)), .unset]) d4_1 rfl rfl ?_
  refine A.iload (q := 5) d4_3 rfl rfl ?_
  refine A.iloadN (q := 6) d4_5 rfl rfl ?_
  refine A.icmpF (q := 9) d4_6 rfl (by decide) ?_
  refine A.aloadN (q := 10) d4_9 rfl rfl rfl ?_
  refine A.iloadN (q := 11) d4_10 rfl rfl ?_
  refine A.iload (q := 13) d4_11 rfl rfl ?_
  refine A.iadd (q := 14) (v := (0 : Int32)) d4_13 rfl (by decide) ?_
  refine A.iaload (q := 15) (i := 0) (v := (.int p2)) d4_14 rfl rfl (by decide) rfl ?_
  refine A.istore (q := 17) (l' := #[.val (.ref r0), .val (.int (0 : Int32)), .val (.int (1 : Int32)), .val (.ref r1), .val (.int (0 : Int32)), .val (.int p2)]) d4_15 rfl rfl ?_
  have J17_4 : ∀ (T : State) (j4 : Int32), j4 = (if p2 = (-1 : Int32) then p8 else (if p8 = (-1 : Int32) then p2 else p8)) → ((p2 = (-1 : Int32)) ∨ (¬ (p2 = (-1 : Int32)) ∧ ¬ (p8 = (-1 : Int32)) ∧ p8 = p2) ∨ (¬ (p2 = (-1 : Int32)) ∧ p8 = (-1 : Int32))) → Here p l e ({ frames := 0, cells := 0, slots := 0, locals := 0 } : Room) s m ([(.ref r0), (.int (0 : Int32)), (.int (1 : Int32)), (.ref r1)] : List Value).toArray below meth c Z a0 tables_1 (⟨"com/example/triplemill/triplemill/engine/RowBuffer", "mergeInto", "([III[I)Z"⟩ : MethodName).cls (⟨"com/example/triplemill/triplemill/engine/RowBuffer", "mergeInto", "([III[I)Z"⟩ : MethodName).name prog_59_method_15_code 6 (some .boolean) n0 T ((r0, .inr (.int, [(.int p2), (.int p3), (.int p4), (.int p5), (.int p6), (.int p7)])) :: (r1, .inr (.int, [(.int j4), (.int p9), (.int p10)])) :: RR) 0 0 → Go p e below (EndS below s n0 Z 0 0 (fun v L' => v = some (.int (FI_2 p2 p8)) ∧ L' = ((r0, .inr (.int, [(.int p2), (.int p3), (.int p4), (.int p5), (.int p6), (.int p7)])) :: (r1, .inr (.int, [(.int (if (p2 = (-1 : Int32)) ∨ (¬ (p2 = (-1 : Int32)) ∧ ¬ (p8 = (-1 : Int32)) ∧ p8 = p2) ∨ (¬ (p2 = (-1 : Int32)) ∧ p8 = (-1 : Int32)) then ((if p2 = (-1 : Int32) then p8 else (if p8 = (-1 : Int32) then p2 else p8))) else p8)), (.int p9), (.int p10)])) :: RR))) (T.setTop (mkF m 51 #[.val (.ref r0), .val (.int (0 : Int32)), .val (.int (1 : Int32)), .val (.ref r1), .val (.int (0 : Int32)), .val (.int p2)] [])) := by
   intro T j4 ej4 fd5 A
   refine A.iinc (q := 54) (v := (1 : Int32)) (l' := #[.val (.ref r0), .val (.int (0 : Int32)), .val (.int (1 : Int32)), .val (.ref r1), .val (.int (1 : Int32)), .val (.int p2)]) d4_51 rfl rfl (by decide) rfl ?_
   refine A.goto (r := 3) d4_54 (by decide) ?_
   refine A.iload (q := 5) d4_3 rfl rfl ?_
   refine A.iloadN (q := 6) d4_5 rfl rfl ?_
   refine A.icmpT (r := 57) d4_6 (by decide) (by decide) ?_
   refine A.iconst (q := 58) (v := (1 : Int32)) d4_57 rfl (by decide) ?_
   subst ej4
   exact A.retZ (v := (FI_2 p2 p8)) d4_58 (by simp only [FI_2, if_pos fd5]; first | rfl | assumption) (by decide) (by decide) ⟨rfl, by first | rfl | (simp only [if_pos fd5])⟩
  refine A.iload (q := 19) d4_17 rfl rfl ?_
  refine A.iconst (q := 20) (v := (-1 : Int32)) d4_19 rfl (by decide) ?_
  refine A.icmp_eq (q := 23) (r := 51) d4_20 rfl (by decide) (fun h1 => ?_) (fun h1 => ?_)
  · exact J17_4 T _ (by simp only [if_pos h1]) (by exact (Or.inl h1)) A
  · refine A.aloadN (q := 24) d4_23 rfl rfl rfl ?_
    refine A.iload (q := 26) d4_24 rfl rfl ?_
    refine A.iaload (q := 27) (i := 1) (v := (.int p8)) d4_26 rfl rfl (by decide) rfl ?_
    refine A.iconst (q := 28) (v := (-1 : Int32)) d4_27 rfl (by decide) ?_
    refine A.icmp_ne (q := 31) (r := 40) d4_28 rfl (by decide) (fun h2 => ?_) (fun h2 => ?_)
    · refine A.aloadN (q := 41) d4_40 rfl rfl rfl ?_
      refine A.iload (q := 43) d4_41 rfl rfl ?_
      refine A.iaload (q := 44) (i := 1) (v := (.int p8)) d4_43 rfl rfl (by decide) rfl ?_
      refine A.iload (q := 46) d4_44 rfl rfl ?_
      refine A.icmp_eq (q := 49) (r := 51) d4_46 rfl (by decide) (fun h3 => ?_) (fun h3 => ?_)
      · exact J17_4 T _ (by simp only [if_neg h1, if_neg h2, if_pos h3]) (by exact (Or.inr (Or.inl ⟨h1, h2, h3⟩))) A
      · refine A.iconst (q := 50) (v := (0 : Int32)) d4_49 rfl (by decide) ?_
        have hD1 : ¬ ((p2 = (-1 : Int32)) ∨ (¬ (p2 = (-1 : Int32)) ∧ ¬ (p8 = (-1 : Int32)) ∧ p8 = p2) ∨ (¬ (p2 = (-1 : Int32)) ∧ p8 = (-1 : Int32))) := by first | (simp only [eq_false h1, eq_false h2, eq_false h3, not_true_eq_false, not_false_eq_true, true_and, and_true, false_and, and_false, or_false, false_or, or_true, true_or]; done) | (simp [h1, h2, h3]; done)
        exact A.retZ (v := (FI_2 p2 p8)) d4_50 (by simp only [FI_2, if_neg hD1, if_neg h1, if_neg h2, if_neg h3]; first | rfl | assumption) (by decide) (by decide) ⟨rfl, by first | rfl | (simp only [if_neg hD1, if_neg h1, if_neg h2, if_neg h3])⟩
    · refine A.aloadN (q := 32) d4_31 rfl rfl rfl ?_
      refine A.iload (q := 34) d4_32 rfl rfl ?_
      refine A.iload (q := 36) d4_34 rfl rfl ?_
      refine A.iastore (q := 37) (i := 1) (x' := p2) (L' := ((r0, .inr (.int, [(.int p2), (.int p3), (.int p4), (.int p5), (.int p6), (.int p7)])) :: (r1, .inr (.int, [(.int p2), (.int p9), (.int p10)])) :: RR)) d4_36 rfl rfl (by decide) (by show Int32.toNatClampNeg (0 : Int32) < 3; decide) rfl rfl ?_
      intro T A
      refine A.goto (r := 51) d4_37 (by decide) ?_
      exact J17_4 T _ (by simp only [if_neg h1, if_pos h2]) (by exact (Or.inr (Or.inr ⟨h1, h2⟩))) A
theorem own_w1_0 (v0 v1 v2 i0 i1 i2 : Int32) : ((FI_2 v0 i0)) = ((if ((if ((FC v0 i0)) = (0 : Int32) then (0 : Int32) else (1 : Int32))) = (0 : Int32) then (1 : Int32) else (0 : Int32))) := by
  rcases own_pos v0 i0 with a0 | ⟨a0, b0⟩ | ⟨a0, b0, d0⟩ | ⟨a0, b0, d0, f0⟩ <;> simp [FC, FI_2, FC, FG, *]
theorem own_w1_1 (v0 v1 v2 i0 i1 i2 : Int32) : (if (v0 = (-1 : Int32)) ∨ (¬ (v0 = (-1 : Int32)) ∧ ¬ (i0 = (-1 : Int32)) ∧ i0 = v0) ∨ (¬ (v0 = (-1 : Int32)) ∧ i0 = (-1 : Int32)) then ((if v0 = (-1 : Int32) then i0 else (if i0 = (-1 : Int32) then v0 else i0))) else i0) = (((FG v0 i0))) := by
  rcases own_pos v0 i0 with a0 | ⟨a0, b0⟩ | ⟨a0, b0, d0⟩ | ⟨a0, b0, d0, f0⟩ <;> simp [FG, FC, FG, *]
def FI_3 (p2 : Int32) (p3 : Int32) (p8 : Int32) (p9 : Int32) : Int32 := (if (p2 = (-1 : Int32)) ∨ (¬ (p2 = (-1 : Int32)) ∧ ¬ (p8 = (-1 : Int32)) ∧ p8 = p2) ∨ (¬ (p2 = (-1 : Int32)) ∧ p8 = (-1 : Int32)) then (if (p3 = (-1 : Int32)) ∨ (¬ (p3 = (-1 : Int32)) ∧ ¬ (p9 = (-1 : Int32)) ∧ p9 = p3) ∨ (¬ (p3 = (-1 : Int32)) ∧ p9 = (-1 : Int32)) then (1 : Int32) else (0 : Int32)) else (0 : Int32))
set_option maxRecDepth 65536 in
set_option maxHeartbeats 8000000 in
theorem rmI_3 (l : Launch) (Z : State) (a0 : Array Value) (hw : ∀ d ∈ tables_1, d.before a0 Z = true) (n0 : Nat) (r0 : Addr) (r1 : Addr) (p2 : Int32) (p3 : Int32) (p4 : Int32) (p5 : Int32) (p6 : Int32) (p7 : Int32) (p8 : Int32) (p9 : Int32) (p10 : Int32) (RR : Obs) :
    Triple l Z n0 (⟨"com/example/triplemill/triplemill/engine/RowBuffer", "mergeInto", "([III[I)Z"⟩ : MethodName) prog_59_method_15_code 6 (some .boolean) ({ frames := 0, cells := 0, slots := 0, locals := 0 } : Room) 0 0 [(.ref r0), (.int (0 : Int32)), (.int (2 : Int32)), (.ref r1)] ((r0, .inr (.int, [(.int p2), (.int p3), (.int p4), (.int p5), (.int p6), (.int p7)])) :: (r1, .inr (.int, [(.int p8), (.int p9), (.int p10)])) :: RR) (fun v L' => v = some (.int (FI_3 p2 p3 p8 p9)) ∧ L' = ((r0, .inr (.int, [(.int p2), (.int p3), (.int p4), (.int p5), (.int p6), (.int p7)])) :: (r1, .inr (.int, [(.int (if (p2 = (-1 : Int32)) ∨ (¬ (p2 = (-1 : Int32)) ∧ ¬ (p8 = (-1 : Int32)) ∧ p8 = p2) ∨ (¬ (p2 = (-1 : Int32)) ∧ p8 = (-1 : Int32)) then ((if p2 = (-1 : Int32) then p8 else (if p8 = (-1 : Int32) then p2 else p8))) else p8)), (.int (if (p2 = (-1 : Int32)) ∨ (¬ (p2 = (-1 : Int32)) ∧ ¬ (p8 = (-1 : Int32)) ∧ p8 = p2) ∨ (¬ (p2 = (-1 : Int32)) ∧ p8 = (-1 : Int32)) then (if (p3 = (-1 : Int32)) ∨ (¬ (p3 = (-1 : Int32)) ∧ ¬ (p9 = (-1 : Int32)) ∧ p9 = p3) ∨ (¬ (p3 = (-1 : Int32)) ∧ p9 = (-1 : Int32)) then ((if p3 = (-1 : Int32) then p9 else (if p9 = (-1 : Int32) then p3 else p9))) else p9) else p9)), (.int p10)])) :: RR)) := by
  refine Triple.of_body (tbl := tables_1) (a0 := a0) (Ls := #[.val (.ref r0), .val (.int (0 : Int32)), .val (.int (2 : Int32)), .val (.ref r1), .unset, .unset]) pn_4 hw rfl ?_
  intro p e s m below meth c T A
  refine A.iconst (q := 1) (v := (0 : Int32)) d4_0 rfl (by decide) ?_
  refine A.istore (q := 3) (l' := #[.val (.ref r0), .val (.int (0 : Int32)), .val (.int (2 : Int32)), .val (.ref r1), .val (.int (0 : Int32)), .unset]) d4_1 rfl rfl ?_
  refine A.iload (q := 5) d4_3 rfl rfl ?_
  refine A.iloadN (q := 6) d4_5 rfl rfl ?_
  refine A.icmpF (q := 9) d4_6 rfl (by decide) ?_
  refine A.aloadN (q := 10) d4_9 rfl rfl rfl ?_
  refine A.iloadN (q := 11) d4_10 rfl rfl ?_
  refine A.iload (q := 13) d4_11 rfl rfl ?_
  refine A.iadd (q := 14) (v := (0 : Int32)) d4_13 rfl (by decide) ?_
  refine A.iaload (q := 15) (i := 0) (v := (.int p2)) d4_14 rfl rfl (by decide) rfl ?_
  refine A.istore (q := 17) (l' := #[.val (.ref r0), .val (.int (0 : Int32)), .val (.int (2 : Int32)), .val (.ref r1), .val (.int (0 : Int32)), .val (.int p2)]) d4_15 rfl rfl ?_
  have J17_4 : ∀ (T : State) (j4 : Int32), j4 = (if p2 = (-1 : Int32) then p8 else (if p8 = (-1 : Int32) then p2 else p8)) → ((p2 = (-1 : Int32)) ∨ (¬ (p2 = (-1 : Int32)) ∧ ¬ (p8 = (-1 : Int32)) ∧ p8 = p2) ∨ (¬ (p2 = (-1 : Int32)) ∧ p8 = (-1 : Int32))) → Here p l e ({ frames := 0, cells := 0, slots := 0, locals := 0 } : Room) s m ([(.ref r0), (.int (0 : Int32)), (.int (2 : Int32)), (.ref r1)] : List Value).toArray below meth c Z a0 tables_1 (⟨"com/example/triplemill/triplemill/engine/RowBuffer", "mergeInto", "([III[I)Z"⟩ : MethodName).cls (⟨"com/example/triplemill/triplemill/engine/RowBuffer", "mergeInto", "([III[I)Z"⟩ : MethodName).name prog_59_method_15_code 6 (some .boolean) n0 T ((r0, .inr (.int, [(.int p2), (.int p3), (.int p4), (.int p5), (.int p6), (.int p7)])) :: (r1, .inr (.int, [(.int j4), (.int p9), (.int p10)])) :: RR) 0 0 → Go p e below (EndS below s n0 Z 0 0 (fun v L' => v = some (.int (FI_3 p2 p3 p8 p9)) ∧ L' = ((r0, .inr (.int, [(.int p2), (.int p3), (.int p4), (.int p5), (.int p6), (.int p7)])) :: (r1, .inr (.int, [(.int (if (p2 = (-1 : Int32)) ∨ (¬ (p2 = (-1 : Int32)) ∧ ¬ (p8 = (-1 : Int32)) ∧ p8 = p2) ∨ (¬ (p2 = (-1 : Int32)) ∧ p8 = (-1 : Int32)) then ((if p2 = (-1 : Int32) then p8 else (if p8 = (-1 : Int32) then p2 else p8))) else p8)), (.int (if (p2 = (-1 : Int32)) ∨ (¬ (p2 = (-1 : Int32)) ∧ ¬ (p8 = (-1 : Int32)) ∧ p8 = p2) ∨ (¬ (p2 = (-1 : Int32)) ∧ p8 = (-1 : Int32)) then (if (p3 = (-1 : Int32)) ∨ (¬ (p3 = (-1 : Int32)) ∧ ¬ (p9 = (-1 : Int32)) ∧ p9 = p3) ∨ (¬ (p3 = (-1 : Int32)) ∧ p9 = (-1 : Int32)) then ((if p3 = (-1 : Int32) then p9 else (if p9 = (-1 : Int32) then p3 else p9))) else p9) else p9)), (.int p10)])) :: RR))) (T.setTop (mkF m 51 #[.val (.ref r0), .val (.int (0 : Int32)), .val (.int (2 : Int32)), .val (.ref r1), .val (.int (0 : Int32)), .val (.int p2)] [])) := by
   intro T j4 ej4 fd5 A
   refine A.iinc (q := 54) (v := (1 : Int32)) (l' := #[.val (.ref r0), .val (.int (0 : Int32)), .val (.int (2 : Int32)), .val (.ref r1), .val (.int (1 : Int32)), .val (.int p2)]) d4_51 rfl rfl (by decide) rfl ?_
   refine A.goto (r := 3) d4_54 (by decide) ?_
   refine A.iload (q := 5) d4_3 rfl rfl ?_
   refine A.iloadN (q := 6) d4_5 rfl rfl ?_
   refine A.icmpF (q := 9) d4_6 rfl (by decide) ?_
   refine A.aloadN (q := 10) d4_9 rfl rfl rfl ?_
   refine A.iloadN (q := 11) d4_10 rfl rfl ?_
   refine A.iload (q := 13) d4_11 rfl rfl ?_
   refine A.iadd (q := 14) (v := (1 : Int32)) d4_13 rfl (by decide) ?_
   refine A.iaload (q := 15) (i := 0) (v := (.int p3)) d4_14 rfl rfl (by decide) rfl ?_
   refine A.istore (q := 17) (l' := #[.val (.ref r0), .val (.int (0 : Int32)), .val (.int (2 : Int32)), .val (.ref r1), .val (.int (1 : Int32)), .val (.int p3)]) d4_15 rfl rfl ?_
   have J17_9 : ∀ (T : State) (j9 : Int32), j9 = (if p3 = (-1 : Int32) then p9 else (if p9 = (-1 : Int32) then p3 else p9)) → ((p3 = (-1 : Int32)) ∨ (¬ (p3 = (-1 : Int32)) ∧ ¬ (p9 = (-1 : Int32)) ∧ p9 = p3) ∨ (¬ (p3 = (-1 : Int32)) ∧ p9 = (-1 : Int32))) → Here p l e ({ frames := 0, cells := 0, slots := 0, locals := 0 } : Room) s m ([(.ref r0), (.int (0 : Int32)), (.int (2 : Int32)), (.ref r1)] : List Value).toArray below meth c Z a0 tables_1 (⟨"com/example/triplemill/triplemill/engine/RowBuffer", "mergeInto", "([III[I)Z"⟩ : MethodName).cls (⟨"com/example/triplemill/triplemill/engine/RowBuffer", "mergeInto", "([III[I)Z"⟩ : MethodName).name prog_59_method_15_code 6 (some .boolean) n0 T ((r0, .inr (.int, [(.int p2), (.int p3), (.int p4), (.int p5), (.int p6), (.int p7)])) :: (r1, .inr (.int, [(.int j4), (.int j9), (.int p10)])) :: RR) 0 0 → Go p e below (EndS below s n0 Z 0 0 (fun v L' => v = some (.int (FI_3 p2 p3 p8 p9)) ∧ L' = ((r0, .inr (.int, [(.int p2), (.int p3), (.int p4), (.int p5), (.int p6), (.int p7)])) :: (r1, .inr (.int, [(.int (if (p2 = (-1 : Int32)) ∨ (¬ (p2 = (-1 : Int32)) ∧ ¬ (p8 = (-1 : Int32)) ∧ p8 = p2) ∨ (¬ (p2 = (-1 : Int32)) ∧ p8 = (-1 : Int32)) then ((if p2 = (-1 : Int32) then p8 else (if p8 = (-1 : Int32) then p2 else p8))) else p8)), (.int (if (p2 = (-1 : Int32)) ∨ (¬ (p2 = (-1 : Int32)) ∧ ¬ (p8 = (-1 : Int32)) ∧ p8 = p2) ∨ (¬ (p2 = (-1 : Int32)) ∧ p8 = (-1 : Int32)) then (if (p3 = (-1 : Int32)) ∨ (¬ (p3 = (-1 : Int32)) ∧ ¬ (p9 = (-1 : Int32)) ∧ p9 = p3) ∨ (¬ (p3 = (-1 : Int32)) ∧ p9 = (-1 : Int32)) then ((if p3 = (-1 : Int32) then p9 else (if p9 = (-1 : Int32) then p3 else p9))) else p9) else p9)), (.int p10)])) :: RR))) (T.setTop (mkF m 51 #[.val (.ref r0), .val (.int (0 : Int32)), .val (.int (2 : Int32)), .val (.ref r1), .val (.int (1 : Int32)), .val (.int p3)] [])) := by
    intro T j9 ej9 fd10 A
    refine A.iinc (q := 54) (v := (2 : Int32)) (l' := #[.val (.ref r0), .val (.int (0 : Int32)), .val (.int (2 : Int32)), .val (.ref r1), .val (.int (2 : Int32)), .val (.int p3)]) d4_51 rfl rfl (by decide) rfl ?_
    refine A.goto (r := 3) d4_54 (by decide) ?_
    refine A.iload (q := 5) d4_3 rfl rfl ?_
    refine A.iloadN (q := 6) d4_5 rfl rfl ?_
    refine A.icmpT (r := 57) d4_6 (by decide) (by decide) ?_
    refine A.iconst (q := 58) (v := (1 : Int32)) d4_57 rfl (by decide) ?_
    subst ej4 ej9
    exact A.retZ (v := (FI_3 p2 p3 p8 p9)) d4_58 (by simp only [FI_3, if_pos fd5, if_pos fd10]; first | rfl | assumption) (by decide) (by decide) ⟨rfl, by first | rfl | (simp only [if_pos fd5, if_pos fd10])⟩
   refine A.iload (q := 19) d4_17 rfl rfl ?_
   refine A.iconst (q := 20) (v := (-1 : Int32)) d4_19 rfl (by decide) ?_
   refine A.icmp_eq (q := 23) (r := 51) d4_20 rfl (by decide) (fun h6 => ?_) (fun h6 => ?_)
   · exact J17_9 T _ (by simp only [if_pos h6]) (by exact (Or.inl h6)) A
   · refine A.aloadN (q := 24) d4_23 rfl rfl rfl ?_
     refine A.iload (q := 26) d4_24 rfl rfl ?_
     refine A.iaload (q := 27) (i := 1) (v := (.int p9)) d4_26 rfl rfl (by decide) rfl ?_
     refine A.iconst (q := 28) (v := (-1 : Int32)) d4_27 rfl (by decide) ?_
     refine A.icmp_ne (q := 31) (r := 40) d4_28 rfl (by decide) (fun h7 => ?_) (fun h7 => ?_)
     · refine A.aloadN (q := 41) d4_40 rfl rfl rfl ?_
       refine A.iload (q := 43) d4_41 rfl rfl ?_
       refine A.iaload (q := 44) (i := 1) (v := (.int p9)) d4_43 rfl rfl (by decide) rfl ?_
       refine A.iload (q := 46) d4_44 rfl rfl ?_
       refine A.icmp_eq (q := 49) (r := 51) d4_46 rfl (by decide) (fun h8 => ?_) (fun h8 => ?_)
       · exact J17_9 T _ (by simp only [if_neg h6, if_neg h7, if_pos h8]) (by exact (Or.inr (Or.inl ⟨h6, h7, h8⟩))) A
       · refine A.iconst (q := 50) (v := (0 : Int32)) d4_49 rfl (by decide) ?_
         have hD2 : ¬ ((p3 = (-1 : Int32)) ∨ (¬ (p3 = (-1 : Int32)) ∧ ¬ (p9 = (-1 : Int32)) ∧ p9 = p3) ∨ (¬ (p3 = (-1 : Int32)) ∧ p9 = (-1 : Int32))) := by first | (simp only [eq_false h6, eq_false h7, eq_false h8, not_true_eq_false, not_false_eq_true, true_and, and_true, false_and, and_false, or_false, false_or, or_true, true_or]; done) | (simp [h6, h7, h8]; done)
         subst ej4
         exact A.retZ (v := (FI_3 p2 p3 p8 p9)) d4_50 (by simp only [FI_3, if_pos fd5, if_neg hD2, if_neg h6, if_neg h7, if_neg h8]; first | rfl | assumption) (by decide) (by decide) ⟨rfl, by first | rfl | (simp only [if_pos fd5, if_neg hD2, if_neg h6, if_neg h7, if_neg h8])⟩
     · refine A.aloadN (q := 32) d4_31 rfl rfl rfl ?_
       refine A.iload (q := 34) d4_32 rfl rfl ?_
       refine A.iload (q := 36) d4_34 rfl rfl ?_
       refine A.iastore (q := 37) (i := 1) (x' := p3) (L' := ((r0, .inr (.int, [(.int p2), (.int p3), (.int p4), (.int p5), (.int p6), (.int p7)])) :: (r1, .inr (.int, [(.int j4), (.int p3), (.int p10)])) :: RR)) d4_36 rfl rfl (by decide) (by show Int32.toNatClampNeg (1 : Int32) < 3; decide) rfl rfl ?_
       intro T A
       refine A.goto (r := 51) d4_37 (by decide) ?_
       exact J17_9 T _ (by simp only [if_neg h6, if_pos h7]) (by exact (Or.inr (Or.inr ⟨h6, h7⟩))) A
  refine A.iload (q := 19) d4_17 rfl rfl ?_
  refine A.iconst (q := 20) (v := (-1 : Int32)) d4_19 rfl (by decide) ?_
  refine A.icmp_eq (q := 23) (r := 51) d4_20 rfl (by decide) (fun h1 => ?_) (fun h1 => ?_)
  · exact J17_4 T _ (by simp only [if_pos h1]) (by exact (Or.inl h1)) A
  · refine A.aloadN (q := 24) d4_23 rfl rfl rfl ?_
    refine A.iload (q := 26) d4_24 rfl rfl ?_
    refine A.iaload (q := 27) (i := 1) (v := (.int p8)) d4_26 rfl rfl (by decide) rfl ?_
    refine A.iconst (q := 28) (v := (-1 : Int32)) d4_27 rfl (by decide) ?_
    refine A.icmp_ne (q := 31) (r := 40) d4_28 rfl (by decide) (fun h2 => ?_) (fun h2 => ?_)
    · refine A.aloadN (q := 41) d4_40 rfl rfl rfl ?_
      refine A.iload (q := 43) d4_41 rfl rfl ?_
      refine A.iaload (q := 44) (i := 1) (v := (.int p8)) d4_43 rfl rfl (by decide) rfl ?_
      refine A.iload (q := 46) d4_44 rfl rfl ?_
      refine A.icmp_eq (q := 49) (r := 51) d4_46 rfl (by decide) (fun h3 => ?_) (fun h3 => ?_)
      · exact J17_4 T _ (by simp only [if_neg h1, if_neg h2, if_pos h3]) (by exact (Or.inr (Or.inl ⟨h1, h2, h3⟩))) A
      · refine A.iconst (q := 50) (v := (0 : Int32)) d4_49 rfl (by decide) ?_
        have hD1 : ¬ ((p2 = (-1 : Int32)) ∨ (¬ (p2 = (-1 : Int32)) ∧ ¬ (p8 = (-1 : Int32)) ∧ p8 = p2) ∨ (¬ (p2 = (-1 : Int32)) ∧ p8 = (-1 : Int32))) := by first | (simp only [eq_false h1, eq_false h2, eq_false h3, not_true_eq_false, not_false_eq_true, true_and, and_true, false_and, and_false, or_false, false_or, or_true, true_or]; done) | (simp [h1, h2, h3]; done)
        exact A.retZ (v := (FI_3 p2 p3 p8 p9)) d4_50 (by simp only [FI_3, if_neg hD1, if_neg h1, if_neg h2, if_neg h3]; first | rfl | assumption) (by decide) (by decide) ⟨rfl, by first | rfl | (simp only [if_neg hD1, if_neg h1, if_neg h2, if_neg h3])⟩
    · refine A.aloadN (q := 32) d4_31 rfl rfl rfl ?_
      refine A.iload (q := 34) d4_32 rfl rfl ?_
      refine A.iload (q := 36) d4_34 rfl rfl ?_
      refine A.iastore (q := 37) (i := 1) (x' := p2) (L' := ((r0, .inr (.int, [(.int p2), (.int p3), (.int p4), (.int p5), (.int p6), (.int p7)])) :: (r1, .inr (.int, [(.int p2), (.int p9), (.int p10)])) :: RR)) d4_36 rfl rfl (by decide) (by show Int32.toNatClampNeg (0 : Int32) < 3; decide) rfl rfl ?_
      intro T A
      refine A.goto (r := 51) d4_37 (by decide) ?_
      exact J17_4 T _ (by simp only [if_neg h1, if_pos h2]) (by exact (Or.inr (Or.inr ⟨h1, h2⟩))) A
theorem own_w2_0 (v0 v1 v2 i0 i1 i2 : Int32) : ((FI_3 v0 v1 i0 i1)) = ((if ((if ((FC v0 i0)) = (0 : Int32) then (0 : Int32) else (1 : Int32))) = (0 : Int32) then (if ((if ((FC v1 i1)) = (0 : Int32) then (0 : Int32) else (1 : Int32))) = (0 : Int32) then (1 : Int32) else (0 : Int32)) else (0 : Int32))) := by
  rcases own_pos v0 i0 with a0 | ⟨a0, b0⟩ | ⟨a0, b0, d0⟩ | ⟨a0, b0, d0, f0⟩ <;> rcases own_pos v1 i1 with a1 | ⟨a1, b1⟩ | ⟨a1, b1, d1⟩ | ⟨a1, b1, d1, f1⟩ <;> simp [FC, FI_3, FC, FG, *]
theorem own_w2_1 (v0 v1 v2 i0 i1 i2 : Int32) : (if (v0 = (-1 : Int32)) ∨ (¬ (v0 = (-1 : Int32)) ∧ ¬ (i0 = (-1 : Int32)) ∧ i0 = v0) ∨ (¬ (v0 = (-1 : Int32)) ∧ i0 = (-1 : Int32)) then ((if v0 = (-1 : Int32) then i0 else (if i0 = (-1 : Int32) then v0 else i0))) else i0) = (((FG v0 i0))) := by
  rcases own_pos v0 i0 with a0 | ⟨a0, b0⟩ | ⟨a0, b0, d0⟩ | ⟨a0, b0, d0, f0⟩ <;> rcases own_pos v1 i1 with a1 | ⟨a1, b1⟩ | ⟨a1, b1, d1⟩ | ⟨a1, b1, d1, f1⟩ <;> simp [FG, FC, FG, *]
theorem own_w2_2 (v0 v1 v2 i0 i1 i2 : Int32) : (if (v0 = (-1 : Int32)) ∨ (¬ (v0 = (-1 : Int32)) ∧ ¬ (i0 = (-1 : Int32)) ∧ i0 = v0) ∨ (¬ (v0 = (-1 : Int32)) ∧ i0 = (-1 : Int32)) then (if (v1 = (-1 : Int32)) ∨ (¬ (v1 = (-1 : Int32)) ∧ ¬ (i1 = (-1 : Int32)) ∧ i1 = v1) ∨ (¬ (v1 = (-1 : Int32)) ∧ i1 = (-1 : Int32)) then ((if v1 = (-1 : Int32) then i1 else (if i1 = (-1 : Int32) then v1 else i1))) else i1) else i1) = ((if ((if ((FC v0 i0)) = (0 : Int32) then (0 : Int32) else (1 : Int32))) = (0 : Int32) then ((FG v1 i1)) else i1)) := by
  rcases own_pos v0 i0 with a0 | ⟨a0, b0⟩ | ⟨a0, b0, d0⟩ | ⟨a0, b0, d0, f0⟩ <;> rcases own_pos v1 i1 with a1 | ⟨a1, b1⟩ | ⟨a1, b1, d1⟩ | ⟨a1, b1, d1, f1⟩ <;> simp [FC, FG, FC, FG, *]
def FI_4 (p2 : Int32) (p3 : Int32) (p4 : Int32) (p8 : Int32) (p9 : Int32) (p10 : Int32) : Int32 := (if (p2 = (-1 : Int32)) ∨ (¬ (p2 = (-1 : Int32)) ∧ ¬ (p8 = (-1 : Int32)) ∧ p8 = p2) ∨ (¬ (p2 = (-1 : Int32)) ∧ p8 = (-1 : Int32)) then (if (p3 = (-1 : Int32)) ∨ (¬ (p3 = (-1 : Int32)) ∧ ¬ (p9 = (-1 : Int32)) ∧ p9 = p3) ∨ (¬ (p3 = (-1 : Int32)) ∧ p9 = (-1 : Int32)) then (if (p4 = (-1 : Int32)) ∨ (¬ (p4 = (-1 : Int32)) ∧ ¬ (p10 = (-1 : Int32)) ∧ p10 = p4) ∨ (¬ (p4 = (-1 : Int32)) ∧ p10 = (-1 : Int32)) then (1 : Int32) else (0 : Int32)) else (0 : Int32)) else (0 : Int32))
set_option maxRecDepth 65536 in
set_option maxHeartbeats 8000000 in
theorem rmI_4 (l : Launch) (Z : State) (a0 : Array Value) (hw : ∀ d ∈ tables_1, d.before a0 Z = true) (n0 : Nat) (r0 : Addr) (r1 : Addr) (p2 : Int32) (p3 : Int32) (p4 : Int32) (p5 : Int32) (p6 : Int32) (p7 : Int32) (p8 : Int32) (p9 : Int32) (p10 : Int32) (RR : Obs) :
    Triple l Z n0 (⟨"com/example/triplemill/triplemill/engine/RowBuffer", "mergeInto", "([III[I)Z"⟩ : MethodName) prog_59_method_15_code 6 (some .boolean) ({ frames := 0, cells := 0, slots := 0, locals := 0 } : Room) 0 0 [(.ref r0), (.int (0 : Int32)), (.int (3 : Int32)), (.ref r1)] ((r0, .inr (.int, [(.int p2), (.int p3), (.int p4), (.int p5), (.int p6), (.int p7)])) :: (r1, .inr (.int, [(.int p8), (.int p9), (.int p10)])) :: RR) (fun v L' => v = some (.int (FI_4 p2 p3 p4 p8 p9 p10)) ∧ L' = ((r0, .inr (.int, [(.int p2), (.int p3), (.int p4), (.int p5), (.int p6), (.int p7)])) :: (r1, .inr (.int, [(.int (if (p2 = (-1 : Int32)) ∨ (¬ (p2 = (-1 : Int32)) ∧ ¬ (p8 = (-1 : Int32)) ∧ p8 = p2) ∨ (¬ (p2 = (-1 : Int32)) ∧ p8 = (-1 : Int32)) then ((if p2 = (-1 : Int32) then p8 else (if p8 = (-1 : Int32) then p2 else p8))) else p8)), (.int (if (p2 = (-1 : Int32)) ∨ (¬ (p2 = (-1 : Int32)) ∧ ¬ (p8 = (-1 : Int32)) ∧ p8 = p2) ∨ (¬ (p2 = (-1 : Int32)) ∧ p8 = (-1 : Int32)) then (if (p3 = (-1 : Int32)) ∨ (¬ (p3 = (-1 : Int32)) ∧ ¬ (p9 = (-1 : Int32)) ∧ p9 = p3) ∨ (¬ (p3 = (-1 : Int32)) ∧ p9 = (-1 : Int32)) then ((if p3 = (-1 : Int32) then p9 else (if p9 = (-1 : Int32) then p3 else p9))) else p9) else p9)), (.int (if (p2 = (-1 : Int32)) ∨ (¬ (p2 = (-1 : Int32)) ∧ ¬ (p8 = (-1 : Int32)) ∧ p8 = p2) ∨ (¬ (p2 = (-1 : Int32)) ∧ p8 = (-1 : Int32)) then (if (p3 = (-1 : Int32)) ∨ (¬ (p3 = (-1 : Int32)) ∧ ¬ (p9 = (-1 : Int32)) ∧ p9 = p3) ∨ (¬ (p3 = (-1 : Int32)) ∧ p9 = (-1 : Int32)) then (if (p4 = (-1 : Int32)) ∨ (¬ (p4 = (-1 : Int32)) ∧ ¬ (p10 = (-1 : Int32)) ∧ p10 = p4) ∨ (¬ (p4 = (-1 : Int32)) ∧ p10 = (-1 : Int32)) then ((if p4 = (-1 : Int32) then p10 else (if p10 = (-1 : Int32) then p4 else p10))) else p10) else p10) else p10))])) :: RR)) := by
  refine Triple.of_body (tbl := tables_1) (a0 := a0) (Ls := #[.val (.ref r0), .val (.int (0 : Int32)), .val (.int (3 : Int32)), .val (.ref r1), .unset, .unset]) pn_4 hw rfl ?_
  intro p e s m below meth c T A
  refine A.iconst (q := 1) (v := (0 : Int32)) d4_0 rfl (by decide) ?_
  refine A.istore (q := 3) (l' := #[.val (.ref r0), .val (.int (0 : Int32)), .val (.int (3 : Int32)), .val (.ref r1), .val (.int (0 : Int32)), .unset]) d4_1 rfl rfl ?_
  refine A.iload (q := 5) d4_3 rfl rfl ?_
  refine A.iloadN (q := 6) d4_5 rfl rfl ?_
  refine A.icmpF (q := 9) d4_6 rfl (by decide) ?_
  refine A.aloadN (q := 10) d4_9 rfl rfl rfl ?_
  refine A.iloadN (q := 11) d4_10 rfl rfl ?_
  refine A.iload (q := 13) d4_11 rfl rfl ?_
  refine A.iadd (q := 14) (v := (0 : Int32)) d4_13 rfl (by decide) ?_
  refine A.iaload (q := 15) (i := 0) (v := (.int p2)) d4_14 rfl rfl (by decide) rfl ?_
  refine A.istore (q := 17) (l' := #[.val (.ref r0), .val (.int (0 : Int32)), .val (.int (3 : Int32)), .val (.ref r1), .val (.int (0 : Int32)), .val (.int p2)]) d4_15 rfl rfl ?_
  have J17_4 : ∀ (T : State) (j4 : Int32), j4 = (if p2 = (-1 : Int32) then p8 else (if p8 = (-1 : Int32) then p2 else p8)) → ((p2 = (-1 : Int32)) ∨ (¬ (p2 = (-1 : Int32)) ∧ ¬ (p8 = (-1 : Int32)) ∧ p8 = p2) ∨ (¬ (p2 = (-1 : Int32)) ∧ p8 = (-1 : Int32))) → Here p l e ({ frames := 0, cells := 0, slots := 0, locals := 0 } : Room) s m ([(.ref r0), (.int (0 : Int32)), (.int (3 : Int32)), (.ref r1)] : List Value).toArray below meth c Z a0 tables_1 (⟨"com/example/triplemill/triplemill/engine/RowBuffer", "mergeInto", "([III[I)Z"⟩ : MethodName).cls (⟨"com/example/triplemill/triplemill/engine/RowBuffer", "mergeInto", "([III[I)Z"⟩ : MethodName).name prog_59_method_15_code 6 (some .boolean) n0 T ((r0, .inr (.int, [(.int p2), (.int p3), (.int p4), (.int p5), (.int p6), (.int p7)])) :: (r1, .inr (.int, [(.int j4), (.int p9), (.int p10)])) :: RR) 0 0 → Go p e below (EndS below s n0 Z 0 0 (fun v L' => v = some (.int (FI_4 p2 p3 p4 p8 p9 p10)) ∧ L' = ((r0, .inr (.int, [(.int p2), (.int p3), (.int p4), (.int p5), (.int p6), (.int p7)])) :: (r1, .inr (.int, [(.int (if (p2 = (-1 : Int32)) ∨ (¬ (p2 = (-1 : Int32)) ∧ ¬ (p8 = (-1 : Int32)) ∧ p8 = p2) ∨ (¬ (p2 = (-1 : Int32)) ∧ p8 = (-1 : Int32)) then ((if p2 = (-1 : Int32) then p8 else (if p8 = (-1 : Int32) then p2 else p8))) else p8)), (.int (if (p2 = (-1 : Int32)) ∨ (¬ (p2 = (-1 : Int32)) ∧ ¬ (p8 = (-1 : Int32)) ∧ p8 = p2) ∨ (¬ (p2 = (-1 : Int32)) ∧ p8 = (-1 : Int32)) then (if (p3 = (-1 : Int32)) ∨ (¬ (p3 = (-1 : Int32)) ∧ ¬ (p9 = (-1 : Int32)) ∧ p9 = p3) ∨ (¬ (p3 = (-1 : Int32)) ∧ p9 = (-1 : Int32)) then ((if p3 = (-1 : Int32) then p9 else (if p9 = (-1 : Int32) then p3 else p9))) else p9) else p9)), (.int (if (p2 = (-1 : Int32)) ∨ (¬ (p2 = (-1 : Int32)) ∧ ¬ (p8 = (-1 : Int32)) ∧ p8 = p2) ∨ (¬ (p2 = (-1 : Int32)) ∧ p8 = (-1 : Int32)) then (if (p3 = (-1 : Int32)) ∨ (¬ (p3 = (-1 : Int32)) ∧ ¬ (p9 = (-1 : Int32)) ∧ p9 = p3) ∨ (¬ (p3 = (-1 : Int32)) ∧ p9 = (-1 : Int32)) then (if (p4 = (-1 : Int32)) ∨ (¬ (p4 = (-1 : Int32)) ∧ ¬ (p10 = (-1 : Int32)) ∧ p10 = p4) ∨ (¬ (p4 = (-1 : Int32)) ∧ p10 = (-1 : Int32)) then ((if p4 = (-1 : Int32) then p10 else (if p10 = (-1 : Int32) then p4 else p10))) else p10) else p10) else p10))])) :: RR))) (T.setTop (mkF m 51 #[.val (.ref r0), .val (.int (0 : Int32)), .val (.int (3 : Int32)), .val (.ref r1), .val (.int (0 : Int32)), .val (.int p2)] [])) := by
   intro T j4 ej4 fd5 A
   refine A.iinc (q := 54) (v := (1 : Int32)) (l' := #[.val (.ref r0), .val (.int (0 : Int32)), .val (.int (3 : Int32)), .val (.ref r1), .val (.int (1 : Int32)), .val (.int p2)]) d4_51 rfl rfl (by decide) rfl ?_
   refine A.goto (r := 3) d4_54 (by decide) ?_
   refine A.iload (q := 5) d4_3 rfl rfl ?_
   refine A.iloadN (q := 6) d4_5 rfl rfl ?_
   refine A.icmpF (q := 9) d4_6 rfl (by decide) ?_
   refine A.aloadN (q := 10) d4_9 rfl rfl rfl ?_
   refine A.iloadN (q := 11) d4_10 rfl rfl ?_
   refine A.iload (q := 13) d4_11 rfl rfl ?_
   refine A.iadd (q := 14) (v := (1 : Int32)) d4_13 rfl (by decide) ?_
   refine A.iaload (q := 15) (i := 0) (v := (.int p3)) d4_14 rfl rfl (by decide) rfl ?_
   refine A.istore (q := 17) (l' := #[.val (.ref r0), .val (.int (0 : Int32)), .val (.int (3 : Int32)), .val (.ref r1), .val (.int (1 : Int32)), .val (.int p3)]) d4_15 rfl rfl ?_
   have J17_9 : ∀ (T : State) (j9 : Int32), j9 = (if p3 = (-1 : Int32) then p9 else (if p9 = (-1 : Int32) then p3 else p9)) → ((p3 = (-1 : Int32)) ∨ (¬ (p3 = (-1 : Int32)) ∧ ¬ (p9 = (-1 : Int32)) ∧ p9 = p3) ∨ (¬ (p3 = (-1 : Int32)) ∧ p9 = (-1 : Int32))) → Here p l e ({ frames := 0, cells := 0, slots := 0, locals := 0 } : Room) s m ([(.ref r0), (.int (0 : Int32)), (.int (3 : Int32)), (.ref r1)] : List Value).toArray below meth c Z a0 tables_1 (⟨"com/example/triplemill/triplemill/engine/RowBuffer", "mergeInto", "([III[I)Z"⟩ : MethodName).cls (⟨"com/example/triplemill/triplemill/engine/RowBuffer", "mergeInto", "([III[I)Z"⟩ : MethodName).name prog_59_method_15_code 6 (some .boolean) n0 T ((r0, .inr (.int, [(.int p2), (.int p3), (.int p4), (.int p5), (.int p6), (.int p7)])) :: (r1, .inr (.int, [(.int j4), (.int j9), (.int p10)])) :: RR) 0 0 → Go p e below (EndS below s n0 Z 0 0 (fun v L' => v = some (.int (FI_4 p2 p3 p4 p8 p9 p10)) ∧ L' = ((r0, .inr (.int, [(.int p2), (.int p3), (.int p4), (.int p5), (.int p6), (.int p7)])) :: (r1, .inr (.int, [(.int (if (p2 = (-1 : Int32)) ∨ (¬ (p2 = (-1 : Int32)) ∧ ¬ (p8 = (-1 : Int32)) ∧ p8 = p2) ∨ (¬ (p2 = (-1 : Int32)) ∧ p8 = (-1 : Int32)) then ((if p2 = (-1 : Int32) then p8 else (if p8 = (-1 : Int32) then p2 else p8))) else p8)), (.int (if (p2 = (-1 : Int32)) ∨ (¬ (p2 = (-1 : Int32)) ∧ ¬ (p8 = (-1 : Int32)) ∧ p8 = p2) ∨ (¬ (p2 = (-1 : Int32)) ∧ p8 = (-1 : Int32)) then (if (p3 = (-1 : Int32)) ∨ (¬ (p3 = (-1 : Int32)) ∧ ¬ (p9 = (-1 : Int32)) ∧ p9 = p3) ∨ (¬ (p3 = (-1 : Int32)) ∧ p9 = (-1 : Int32)) then ((if p3 = (-1 : Int32) then p9 else (if p9 = (-1 : Int32) then p3 else p9))) else p9) else p9)), (.int (if (p2 = (-1 : Int32)) ∨ (¬ (p2 = (-1 : Int32)) ∧ ¬ (p8 = (-1 : Int32)) ∧ p8 = p2) ∨ (¬ (p2 = (-1 : Int32)) ∧ p8 = (-1 : Int32)) then (if (p3 = (-1 : Int32)) ∨ (¬ (p3 = (-1 : Int32)) ∧ ¬ (p9 = (-1 : Int32)) ∧ p9 = p3) ∨ (¬ (p3 = (-1 : Int32)) ∧ p9 = (-1 : Int32)) then (if (p4 = (-1 : Int32)) ∨ (¬ (p4 = (-1 : Int32)) ∧ ¬ (p10 = (-1 : Int32)) ∧ p10 = p4) ∨ (¬ (p4 = (-1 : Int32)) ∧ p10 = (-1 : Int32)) then ((if p4 = (-1 : Int32) then p10 else (if p10 = (-1 : Int32) then p4 else p10))) else p10) else p10) else p10))])) :: RR))) (T.setTop (mkF m 51 #[.val (.ref r0), .val (.int (0 : Int32)), .val (.int (3 : Int32)), .val (.ref r1), .val (.int (1 : Int32)), .val (.int p3)] [])) := by
    intro T j9 ej9 fd10 A
    refine A.iinc (q := 54) (v := (2 : Int32)) (l' := #[.val (.ref r0), .val (.int (0 : Int32)), .val (.int (3 : Int32)), .val (.ref r1), .val (.int (2 : Int32)), .val (.int p3)]) d4_51 rfl rfl (by decide) rfl ?_
    refine A.goto (r := 3) d4_54 (by decide) ?_
    refine A.iload (q := 5) d4_3 rfl rfl ?_
    refine A.iloadN (q := 6) d4_5 rfl rfl ?_
    refine A.icmpF (q := 9) d4_6 rfl (by decide) ?_
    refine A.aloadN (q := 10) d4_9 rfl rfl rfl ?_
    refine A.iloadN (q := 11) d4_10 rfl rfl ?_
    refine A.iload (q := 13) d4_11 rfl rfl ?_
    refine A.iadd (q := 14) (v := (2 : Int32)) d4_13 rfl (by decide) ?_
    refine A.iaload (q := 15) (i := 0) (v := (.int p4)) d4_14 rfl rfl (by decide) rfl ?_
    refine A.istore (q := 17) (l' := #[.val (.ref r0), .val (.int (0 : Int32)), .val (.int (3 : Int32)), .val (.ref r1), .val (.int (2 : Int32)), .val (.int p4)]) d4_15 rfl rfl ?_
    have J17_14 : ∀ (T : State) (j14 : Int32), j14 = (if p4 = (-1 : Int32) then p10 else (if p10 = (-1 : Int32) then p4 else p10)) → ((p4 = (-1 : Int32)) ∨ (¬ (p4 = (-1 : Int32)) ∧ ¬ (p10 = (-1 : Int32)) ∧ p10 = p4) ∨ (¬ (p4 = (-1 : Int32)) ∧ p10 = (-1 : Int32))) → Here p l e ({ frames := 0, cells := 0, slots := 0, locals := 0 } : Room) s m ([(.ref r0), (.int (0 : Int32)), (.int (3 : Int32)), (.ref r1)] : List Value).toArray below meth c Z a0 tables_1 (⟨"com/example/triplemill/triplemill/engine/RowBuffer", "mergeInto", "([III[I)Z"⟩ : MethodName).cls (⟨"com/example/triplemill/triplemill/engine/RowBuffer", "mergeInto", "([III[I)Z"⟩ : MethodName).name prog_59_method_15_code 6 (some .boolean) n0 T ((r0, .inr (.int, [(.int p2), (.int p3), (.int p4), (.int p5), (.int p6), (.int p7)])) :: (r1, .inr (.int, [(.int j4), (.int j9), (.int j14)])) :: RR) 0 0 → Go p e below (EndS below s n0 Z 0 0 (fun v L' => v = some (.int (FI_4 p2 p3 p4 p8 p9 p10)) ∧ L' = ((r0, .inr (.int, [(.int p2), (.int p3), (.int p4), (.int p5), (.int p6), (.int p7)])) :: (r1, .inr (.int, [(.int (if (p2 = (-1 : Int32)) ∨ (¬ (p2 = (-1 : Int32)) ∧ ¬ (p8 = (-1 : Int32)) ∧ p8 = p2) ∨ (¬ (p2 = (-1 : Int32)) ∧ p8 = (-1 : Int32)) then ((if p2 = (-1 : Int32) then p8 else (if p8 = (-1 : Int32) then p2 else p8))) else p8)), (.int (if (p2 = (-1 : Int32)) ∨ (¬ (p2 = (-1 : Int32)) ∧ ¬ (p8 = (-1 : Int32)) ∧ p8 = p2) ∨ (¬ (p2 = (-1 : Int32)) ∧ p8 = (-1 : Int32)) then (if (p3 = (-1 : Int32)) ∨ (¬ (p3 = (-1 : Int32)) ∧ ¬ (p9 = (-1 : Int32)) ∧ p9 = p3) ∨ (¬ (p3 = (-1 : Int32)) ∧ p9 = (-1 : Int32)) then ((if p3 = (-1 : Int32) then p9 else (if p9 = (-1 : Int32) then p3 else p9))) else p9) else p9)), (.int (if (p2 = (-1 : Int32)) ∨ (¬ (p2 = (-1 : Int32)) ∧ ¬ (p8 = (-1 : Int32)) ∧ p8 = p2) ∨ (¬ (p2 = (-1 : Int32)) ∧ p8 = (-1 : Int32)) then (if (p3 = (-1 : Int32)) ∨ (¬ (p3 = (-1 : Int32)) ∧ ¬ (p9 = (-1 : Int32)) ∧ p9 = p3) ∨ (¬ (p3 = (-1 : Int32)) ∧ p9 = (-1 : Int32)) then (if (p4 = (-1 : Int32)) ∨ (¬ (p4 = (-1 : Int32)) ∧ ¬ (p10 = (-1 : Int32)) ∧ p10 = p4) ∨ (¬ (p4 = (-1 : Int32)) ∧ p10 = (-1 : Int32)) then ((if p4 = (-1 : Int32) then p10 else (if p10 = (-1 : Int32) then p4 else p10))) else p10) else p10) else p10))])) :: RR))) (T.setTop (mkF m 51 #[.val (.ref r0), .val (.int (0 : Int32)), .val (.int (3 : Int32)), .val (.ref r1), .val (.int (2 : Int32)), .val (.int p4)] [])) := by
     intro T j14 ej14 fd15 A
     refine A.iinc (q := 54) (v := (3 : Int32)) (l' := #[.val (.ref r0), .val (.int (0 : Int32)), .val (.int (3 : Int32)), .val (.ref r1), .val (.int (3 : Int32)), .val (.int p4)]) d4_51 rfl rfl (by decide) rfl ?_
     refine A.goto (r := 3) d4_54 (by decide) ?_
     refine A.iload (q := 5) d4_3 rfl rfl ?_
     refine A.iloadN (q := 6) d4_5 rfl rfl ?_
     refine A.icmpT (r := 57) d4_6 (by decide) (by decide) ?_
     refine A.iconst (q := 58) (v := (1 : Int32)) d4_57 rfl (by decide) ?_
     subst ej4 ej9 ej14
     exact A.retZ (v := (FI_4 p2 p3 p4 p8 p9 p10)) d4_58 (by simp only [FI_4, if_pos fd5, if_pos fd10, if_pos fd15]; first | rfl | assumption) (by decide) (by decide) ⟨rfl, by first | rfl | (simp only [if_pos fd5, if_pos fd10, if_pos fd15])⟩
    refine A.iload (q := 19) d4_17 rfl rfl ?_
    refine A.iconst (q := 20) (v := (-1 : Int32)) d4_19 rfl (by decide) ?_
    refine A.icmp_eq (q := 23) (r := 51) d4_20 rfl (by decide) (fun h11 => ?_) (fun h11 => ?_)
    · exact J17_14 T _ (by simp only [if_pos h11]) (by exact (Or.inl h11)) A
    · refine A.aloadN (q := 24) d4_23 rfl rfl rfl ?_
      refine A.iload (q := 26) d4_24 rfl rfl ?_
      refine A.iaload (q := 27) (i := 1) (v := (.int p10)) d4_26 rfl rfl (by decide) rfl ?_
      refine A.iconst (q := 28) (v := (-1 : Int32)) d4_27 rfl (by decide) ?_
      refine A.icmp_ne (q := 31) (r := 40) d4_28 rfl (by decide) (fun h12 => ?_) (fun h12 => ?_)
      · refine A.aloadN (q := 41) d4_40 rfl rfl rfl ?_
        refine A.iload (q := 43) d4_41 rfl rfl ?_
        refine A.iaload (q := 44) (i := 1) (v := (.int p10)) d4_43 rfl rfl (by decide) rfl ?_
        refine A.iload (q := 46) d4_44 rfl rfl ?_
        refine A.icmp_eq (q := 49) (r := 51) d4_46 rfl (by decide) (fun h13 => ?_) (fun h13 => ?_)
        · exact J17_14 T _ (by simp only [if_neg h11, if_neg h12, if_pos h13]) (by exact (Or.inr (Or.inl ⟨h11, h12, h13⟩))) A
        · refine A.iconst (q := 50) (v := (0 : Int32)) d4_49 rfl (by decide) ?_
          have hD3 : ¬ ((p4 = (-1 : Int32)) ∨ (¬ (p4 = (-1 : Int32)) ∧ ¬ (p10 = (-1 : Int32)) ∧ p10 = p4) ∨ (¬ (p4 = (-1 : Int32)) ∧ p10 = (-1 : Int32))) := by first | (simp only [eq_false h11, eq_false h12, eq_false h13, not_true_eq_false, not_false_eq_true, true_and, and_true, false_and, and_false, or_false, false_or, or_true, true_or]; done) | (simp [h11, h12, h13]; done)
          subst ej4 ej9
          exact A.retZ (v := (FI_4 p2 p3 p4 p8 p9 p10)) d4_50 (by simp only [FI_4, if_pos fd5, if_pos fd10, if_neg hD3, if_neg h11, if_neg h12, if_neg h13]; first | rfl | assumption) (by decide) (by decide) ⟨rfl, by first | rfl | (simp only [if_pos fd5, if_pos fd10, if_neg hD3, if_neg h11, if_neg h12, if_neg h13])⟩
      · refine A.aloadN (q := 32) d4_31 rfl rfl rfl ?_
        refine A.iload (q := 34) d4_32 rfl rfl ?_
        refine A.iload (q := 36) d4_34 rfl rfl ?_
        refine A.iastore (q := 37) (i := 1) (x' := p4) (L' := ((r0, .inr (.int, [(.int p2), (.int p3), (.int p4), (.int p5), (.int p6), (.int p7)])) :: (r1, .inr (.int, [(.int j4), (.int j9), (.int p4)])) :: RR)) d4_36 rfl rfl (by decide) (by show Int32.toNatClampNeg (2 : Int32) < 3; decide) rfl rfl ?_
        intro T A
        refine A.goto (r := 51) d4_37 (by decide) ?_
        exact J17_14 T _ (by simp only [if_neg h11, if_pos h12]) (by exact (Or.inr (Or.inr ⟨h11, h12⟩))) A
   refine A.iload (q := 19) d4_17 rfl rfl ?_
   refine A.iconst (q := 20) (v := (-1 : Int32)) d4_19 rfl (by decide) ?_
   refine A.icmp_eq (q := 23) (r := 51) d4_20 rfl (by decide) (fun h6 => ?_) (fun h6 => ?_)
   · exact J17_9 T _ (by simp only [if_pos h6]) (by exact (Or.inl h6)) A
   · refine A.aloadN (q := 24) d4_23 rfl rfl rfl ?_
     refine A.iload (q := 26) d4_24 rfl rfl ?_
     refine A.iaload (q := 27) (i := 1) (v := (.int p9)) d4_26 rfl rfl (by decide) rfl ?_
     refine A.iconst (q := 28) (v := (-1 : Int32)) d4_27 rfl (by decide) ?_
     refine A.icmp_ne (q := 31) (r := 40) d4_28 rfl (by decide) (fun h7 => ?_) (fun h7 => ?_)
     · refine A.aloadN (q := 41) d4_40 rfl rfl rfl ?_
       refine A.iload (q := 43) d4_41 rfl rfl ?_
       refine A.iaload (q := 44) (i := 1) (v := (.int p9)) d4_43 rfl rfl (by decide) rfl ?_
       refine A.iload (q := 46) d4_44 rfl rfl ?_
       refine A.icmp_eq (q := 49) (r := 51) d4_46 rfl (by decide) (fun h8 => ?_) (fun h8 => ?_)
       · exact J17_9 T _ (by simp only [if_neg h6, if_neg h7, if_pos h8]) (by exact (Or.inr (Or.inl ⟨h6, h7, h8⟩))) A
       · refine A.iconst (q := 50) (v := (0 : Int32)) d4_49 rfl (by decide) ?_
         have hD2 : ¬ ((p3 = (-1 : Int32)) ∨ (¬ (p3 = (-1 : Int32)) ∧ ¬ (p9 = (-1 : Int32)) ∧ p9 = p3) ∨ (¬ (p3 = (-1 : Int32)) ∧ p9 = (-1 : Int32))) := by first | (simp only [eq_false h6, eq_false h7, eq_false h8, not_true_eq_false, not_false_eq_true, true_and, and_true, false_and, and_false, or_false, false_or, or_true, true_or]; done) | (simp [h6, h7, h8]; done)
         subst ej4
         exact A.retZ (v := (FI_4 p2 p3 p4 p8 p9 p10)) d4_50 (by simp only [FI_4, if_pos fd5, if_neg hD2, if_neg h6, if_neg h7, if_neg h8]; first | rfl | assumption) (by decide) (by decide) ⟨rfl, by first | rfl | (simp only [if_pos fd5, if_neg hD2, if_neg h6, if_neg h7, if_neg h8])⟩
     · refine A.aloadN (q := 32) d4_31 rfl rfl rfl ?_
       refine A.iload (q := 34) d4_32 rfl rfl ?_
       refine A.iload (q := 36) d4_34 rfl rfl ?_
       refine A.iastore (q := 37) (i := 1) (x' := p3) (L' := ((r0, .inr (.int, [(.int p2), (.int p3), (.int p4), (.int p5), (.int p6), (.int p7)])) :: (r1, .inr (.int, [(.int j4), (.int p3), (.int p10)])) :: RR)) d4_36 rfl rfl (by decide) (by show Int32.toNatClampNeg (1 : Int32) < 3; decide) rfl rfl ?_
       intro T A
       refine A.goto (r := 51) d4_37 (by decide) ?_
       exact J17_9 T _ (by simp only [if_neg h6, if_pos h7]) (by exact (Or.inr (Or.inr ⟨h6, h7⟩))) A
  refine A.iload (q := 19) d4_17 rfl rfl ?_
  refine A.iconst (q := 20) (v := (-1 : Int32)) d4_19 rfl (by decide) ?_
  refine A.icmp_eq (q := 23) (r := 51) d4_20 rfl (by decide) (fun h1 => ?_) (fun h1 => ?_)
  · exact J17_4 T _ (by simp only [if_pos h1]) (by exact (Or.inl h1)) A
  · refine A.aloadN (q := 24) d4_23 rfl rfl rfl ?_
    refine A.iload (q := 26) d4_24 rfl rfl ?_
    refine A.iaload (q := 27) (i := 1) (v := (.int p8)) d4_26 rfl rfl (by decide) rfl ?_
    refine A.iconst (q := 28) (v := (-1 : Int32)) d4_27 rfl (by decide) ?_
    refine A.icmp_ne (q := 31) (r := 40) d4_28 rfl (by decide) (fun h2 => ?_) (fun h2 => ?_)
    · refine A.aloadN (q := 41) d4_40 rfl rfl rfl ?_
      refine A.iload (q := 43) d4_41 rfl rfl ?_
      refine A.iaload (q := 44) (i := 1) (v := (.int p8)) d4_43 rfl rfl (by decide) rfl ?_
      refine A.iload (q := 46) d4_44 rfl rfl ?_
      refine A.icmp_eq (q := 49) (r := 51) d4_46 rfl (by decide) (fun h3 => ?_) (fun h3 => ?_)
      · exact J17_4 T _ (by simp only [if_neg h1, if_neg h2, if_pos h3]) (by exact (Or.inr (Or.inl ⟨h1, h2, h3⟩))) A
      · refine A.iconst (q := 50) (v := (0 : Int32)) d4_49 rfl (by decide) ?_
        have hD1 : ¬ ((p2 = (-1 : Int32)) ∨ (¬ (p2 = (-1 : Int32)) ∧ ¬ (p8 = (-1 : Int32)) ∧ p8 = p2) ∨ (¬ (p2 = (-1 : Int32)) ∧ p8 = (-1 : Int32))) := by first | (simp only [eq_false h1, eq_false h2, eq_false h3, not_true_eq_false, not_false_eq_true, true_and, and_true, false_and, and_false, or_false, false_or, or_true, true_or]; done) | (simp [h1, h2, h3]; done)
        exact A.retZ (v := (FI_4 p2 p3 p4 p8 p9 p10)) d4_50 (by simp only [FI_4, if_neg hD1, if_neg h1, if_neg h2, if_neg h3]; first | rfl | assumption) (by decide) (by decide) ⟨rfl, by first | rfl | (simp only [if_neg hD1, if_neg h1, if_neg h2, if_neg h3])⟩
    · refine A.aloadN (q := 32) d4_31 rfl rfl rfl ?_
      refine A.iload (q := 34) d4_32 rfl rfl ?_
      refine A.iload (q := 36) d4_34 rfl rfl ?_
      refine A.iastore (q := 37) (i := 1) (x' := p2) (L' := ((r0, .inr (.int, [(.int p2), (.int p3), (.int p4), (.int p5), (.int p6), (.int p7)])) :: (r1, .inr (.int, [(.int p2), (.int p9), (.int p10)])) :: RR)) d4_36 rfl rfl (by decide) (by show Int32.toNatClampNeg (0 : Int32) < 3; decide) rfl rfl ?_
      intro T A
      refine A.goto (r := 51) d4_37 (by decide) ?_
      exact J17_4 T _ (by simp only [if_neg h1, if_pos h2]) (by exact (Or.inr (Or.inr ⟨h1, h2⟩))) A
theorem own_w3_0 (v0 v1 v2 i0 i1 i2 : Int32) : ((FI_4 v0 v1 v2 i0 i1 i2)) = ((if ((if ((FC v0 i0)) = (0 : Int32) then (0 : Int32) else (1 : Int32))) = (0 : Int32) then (if ((if ((FC v1 i1)) = (0 : Int32) then (0 : Int32) else (1 : Int32))) = (0 : Int32) then (if ((if ((FC v2 i2)) = (0 : Int32) then (0 : Int32) else (1 : Int32))) = (0 : Int32) then (1 : Int32) else (0 : Int32)) else (0 : Int32)) else (0 : Int32))) := by
  rcases own_pos v0 i0 with a0 | ⟨a0, b0⟩ | ⟨a0, b0, d0⟩ | ⟨a0, b0, d0, f0⟩ <;> rcases own_pos v1 i1 with a1 | ⟨a1, b1⟩ | ⟨a1, b1, d1⟩ | ⟨a1, b1, d1, f1⟩ <;> rcases own_pos v2 i2 with a2 | ⟨a2, b2⟩ | ⟨a2, b2, d2⟩ | ⟨a2, b2, d2, f2⟩ <;> simp [FC, FI_4, FC, FG, *]
theorem own_w3_1 (v0 v1 v2 i0 i1 i2 : Int32) : (if (v0 = (-1 : Int32)) ∨ (¬ (v0 = (-1 : Int32)) ∧ ¬ (i0 = (-1 : Int32)) ∧ i0 = v0) ∨ (¬ (v0 = (-1 : Int32)) ∧ i0 = (-1 : Int32)) then ((if v0 = (-1 : Int32) then i0 else (if i0 = (-1 : Int32) then v0 else i0))) else i0) = (((FG v0 i0))) := by
  rcases own_pos v0 i0 with a0 | ⟨a0, b0⟩ | ⟨a0, b0, d0⟩ | ⟨a0, b0, d0, f0⟩ <;> rcases own_pos v1 i1 with a1 | ⟨a1, b1⟩ | ⟨a1, b1, d1⟩ | ⟨a1, b1, d1, f1⟩ <;> rcases own_pos v2 i2 with a2 | ⟨a2, b2⟩ | ⟨a2, b2, d2⟩ | ⟨a2, b2, d2, f2⟩ <;> simp [FG, FC, FG, *]
theorem own_w3_2 (v0 v1 v2 i0 i1 i2 : Int32) : (if (v0 = (-1 : Int32)) ∨ (¬ (v0 = (-1 : Int32)) ∧ ¬ (i0 = (-1 : Int32)) ∧ i0 = v0) ∨ (¬ (v0 = (-1 : Int32)) ∧ i0 = (-1 : Int32)) then (if (v1 = (-1 : Int32)) ∨ (¬ (v1 = (-1 : Int32)) ∧ ¬ (i1 = (-1 : Int32)) ∧ i1 = v1) ∨ (¬ (v1 = (-1 : Int32)) ∧ i1 = (-1 : Int32)) then ((if v1 = (-1 : Int32) then i1 else (if i1 = (-1 : Int32) then v1 else i1))) else i1) else i1) = ((if ((if ((FC v0 i0)) = (0 : Int32) then (0 : Int32) else (1 : Int32))) = (0 : Int32) then ((FG v1 i1)) else i1)) := by
  rcases own_pos v0 i0 with a0 | ⟨a0, b0⟩ | ⟨a0, b0, d0⟩ | ⟨a0, b0, d0, f0⟩ <;> rcases own_pos v1 i1 with a1 | ⟨a1, b1⟩ | ⟨a1, b1, d1⟩ | ⟨a1, b1, d1, f1⟩ <;> rcases own_pos v2 i2 with a2 | ⟨a2, b2⟩ | ⟨a2, b2, d2⟩ | ⟨a2, b2, d2, f2⟩ <;> simp [FC, FG, FC, FG, *]
theorem own_w3_3 (v0 v1 v2 i0 i1 i2 : Int32) : (if (v0 = (-1 : Int32)) ∨ (¬ (v0 = (-1 : Int32)) ∧ ¬ (i0 = (-1 : Int32)) ∧ i0 = v0) ∨ (¬ (v0 = (-1 : Int32)) ∧ i0 = (-1 : Int32)) then (if (v1 = (-1 : Int32)) ∨ (¬ (v1 = (-1 : Int32)) ∧ ¬ (i1 = (-1 : Int32)) ∧ i1 = v1) ∨ (¬ (v1 = (-1 : Int32)) ∧ i1 = (-1 : Int32)) then (if (v2 = (-1 : Int32)) ∨ (¬ (v2 = (-1 : Int32)) ∧ ¬ (i2 = (-1 : Int32)) ∧ i2 = v2) ∨ (¬ (v2 = (-1 : Int32)) ∧ i2 = (-1 : Int32)) then ((if v2 = (-1 : Int32) then i2 else (if i2 = (-1 : Int32) then v2 else i2))) else i2) else i2) else i2) = ((if ((if ((FC v0 i0)) = (0 : Int32) then (0 : Int32) else (1 : Int32))) = (0 : Int32) then (if ((if ((FC v1 i1)) = (0 : Int32) then (0 : Int32) else (1 : Int32))) = (0 : Int32) then ((FG v2 i2)) else i2) else i2)) := by
  rcases own_pos v0 i0 with a0 | ⟨a0, b0⟩ | ⟨a0, b0, d0⟩ | ⟨a0, b0, d0, f0⟩ <;> rcases own_pos v1 i1 with a1 | ⟨a1, b1⟩ | ⟨a1, b1, d1⟩ | ⟨a1, b1, d1, f1⟩ <;> rcases own_pos v2 i2 with a2 | ⟨a2, b2⟩ | ⟨a2, b2, d2⟩ | ⟨a2, b2, d2, f2⟩ <;> simp [FC, FG, FC, FG, *]
set_option maxRecDepth 65536 in
set_option maxHeartbeats 8000000 in
theorem rmI_5 (l : Launch) (Z : State) (a0 : Array Value) (hw : ∀ d ∈ tables_1, d.before a0 Z = true) (n0 : Nat) (r0 : Addr) (r1 : Addr) (p2 : Int32) (p3 : Int32) (p4 : Int32) (p5 : Int32) (p6 : Int32) (p7 : Int32) (p8 : Int32) (p9 : Int32) (p10 : Int32) (RR : Obs) :
    Triple l Z n0 (⟨"com/example/triplemill/triplemill/engine/RowBuffer", "mergeInto", "([III[I)Z"⟩ : MethodName) prog_59_method_15_code 6 (some .boolean) ({ frames := 0, cells := 0, slots := 0, locals := 0 } : Room) 0 0 [(.ref r0), (.int (1 : Int32)), (.int (0 : Int32)), (.ref r1)] ((r0, .inr (.int, [(.int p2), (.int p3), (.int p4), (.int p5), (.int p6), (.int p7)])) :: (r1, .inr (.int, [(.int p8), (.int p9), (.int p10)])) :: RR) (fun v L' => v = some (.int (1 : Int32)) ∧ L' = ((r0, .inr (.int, [(.int p2), (.int p3), (.int p4), (.int p5), (.int p6), (.int p7)])) :: (r1, .inr (.int, [(.int p8), (.int p9), (.int p10)])) :: RR)) := by
  refine Triple.of_body (tbl := tables_1) (a0 := a0) (Ls := #[.val (.ref r0), .val (.int (1 : Int32)), .val (.int (0 : Int32)), .val (.ref r1), .unset, .unset]) pn_4 hw rfl ?_
  intro p e s m below meth c T A
  refine A.iconst (q := 1) (v := (0 : Int32)) d4_0 rfl (by decide) ?_
  refine A.istore (q := 3) (l' := #[.val (.ref r0), .val (.int (1 : Int32)), .val (.int (0 : Int32)), .val (.ref r1), .val (.int (0 : Int32)), .unset]) d4_1 rfl rfl ?_
  refine A.iload (q := 5) d4_3 rfl rfl ?_
  refine A.iloadN (q := 6) d4_5 rfl rfl ?_
  refine A.icmpT (r := 57) d4_6 (by decide) (by decide) ?_
  refine A.iconst (q := 58) (v := (1 : Int32)) d4_57 rfl (by decide) ?_
  exact A.retZ (v := (1 : Int32)) d4_58 (by decide) (by decide) (by decide) ⟨rfl, rfl⟩
def FI_6 (p3 : Int32) (p8 : Int32) : Int32 := (if (p3 = (-1 : Int32)) ∨ (¬ (p3 = (-1 : Int32)) ∧ ¬ (p8 = (-1 : Int32)) ∧ p8 = p3) ∨ (¬ (p3 = (-1 : Int32)) ∧ p8 = (-1 : Int32)) then (1 : Int32) else (0 : Int32))
set_option maxRecDepth 65536 in
set_option maxHeartbeats 8000000 in
theorem rmI_6 (l : Launch) (Z : State) (a0 : Array Value) (hw : ∀ d ∈ tables_1, d.before a0 Z = true) (n0 : Nat) (r0 : Addr) (r1 : Addr) (p2 : Int32) (p3 : Int32) (p4 : Int32) (p5 : Int32) (p6 : Int32) (p7 : Int32) (p8 : Int32) (p9 : Int32) (p10 : Int32) (RR : Obs) :
    Triple l Z n0 (⟨"com/example/triplemill/triplemill/engine/RowBuffer", "mergeInto", "([III[I)Z"⟩ : MethodName) prog_59_method_15_code 6 (some .boolean) ({ frames := 0, cells := 0, slots := 0, locals := 0 } : Room) 0 0 [(.ref r0), (.int (1 : Int32)), (.int (1 : Int32)), (.ref r1)] ((r0, .inr (.int, [(.int p2), (.int p3), (.int p4), (.int p5), (.int p6), (.int p7)])) :: (r1, .inr (.int, [(.int p8), (.int p9), (.int p10)])) :: RR) (fun v L' => v = some (.int (FI_6 p3 p8)) ∧ L' = ((r0, .inr (.int, [(.int p2), (.int p3), (.int p4), (.int p5), (.int p6), (.int p7)])) :: (r1, .inr (.int, [(.int (if (p3 = (-1 : Int32)) ∨ (¬ (p3 = (-1 : Int32)) ∧ ¬ (p8 = (-1 : Int32)) ∧ p8 = p3) ∨ (¬ (p3 = (-1 : Int32)) ∧ p8 = (-1 : Int32)) then ((if p3 = (-1 : Int32) then p8 else (if p8 = (-1 : Int32) then p3 else p8))) else p8)), (.int p9), (.int p10)])) :: RR)) := by
  refine Triple.of_body (tbl := tables_1) (a0 := a0) (Ls := #[.val (.ref r0), .val (.int (1 : Int32)), .val (.int (1 : Int32)), .val (.ref r1), .unset, .unset]) pn_4 hw rfl ?_
  intro p e s m below meth c T A
  refine A.iconst (q := 1) (v := (0 : Int32)) d4_0 rfl (by decide) ?_
  refine A.istore (q := 3) (l' := #[.val (.ref r0), .val (.int (1 : Int32)), .val (.int (1 : Int32)), .val (.ref r1), .val (.int (0 : Int32)), .unset]) d4_1 rfl rfl ?_
  refine A.iload (q := 5) d4_3 rfl rfl ?_
  refine A.iloadN (q := 6) d4_5 rfl rfl ?_
  refine A.icmpF (q := 9) d4_6 rfl (by decide) ?_
  refine A.aloadN (q := 10) d4_9 rfl rfl rfl ?_
  refine A.iloadN (q := 11) d4_10 rfl rfl ?_
  refine A.iload (q := 13) d4_11 rfl rfl ?_
  refine A.iadd (q := 14) (v := (1 : Int32)) d4_13 rfl (by decide) ?_
  refine A.iaload (q := 15) (i := 0) (v := (.int p3)) d4_14 rfl rfl (by decide) rfl ?_
  refine A.istore (q := 17) (l' := #[.val (.ref r0), .val (.int (1 : Int32)), .val (.int (1 : Int32)), .val (.ref r1), .val (.int (0 : Int32)), .val (.int p3)]) d4_15 rfl rfl ?_
  have J17_4 : ∀ (T : State) (j4 : Int32), j4 = (if p3 = (-1 : Int32) then p8 else (if p8 = (-1 : Int32) then p3 else p8)) → ((p3 = (-1 : Int32)) ∨ (¬ (p3 = (-1 : Int32)) ∧ ¬ (p8 = (-1 : Int32)) ∧ p8 = p3) ∨ (¬ (p3 = (-1 : Int32)) ∧ p8 = (-1 : Int32))) → Here p l e ({ frames := 0, cells := 0, slots := 0, locals := 0 } : Room) s m ([(.ref r0), (.int (1 : Int32)), (.int (1 : Int32)), (.ref r1)] : List Value).toArray below meth c Z a0 tables_1 (⟨"com/example/triplemill/triplemill/engine/RowBuffer", "mergeInto", "([III[I)Z"⟩ : MethodName).cls (⟨"com/example/triplemill/triplemill/engine/RowBuffer", "mergeInto", "([III[I)Z"⟩ : MethodName).name prog_59_method_15_code 6 (some .boolean) n0 T ((r0, .inr (.int, [(.int p2), (.int p3), (.int p4), (.int p5), (.int p6), (.int p7)])) :: (r1, .inr (.int, [(.int j4), (.int p9), (.int p10)])) :: RR) 0 0 → Go p e below (EndS below s n0 Z 0 0 (fun v L' => v = some (.int (FI_6 p3 p8)) ∧ L' = ((r0, .inr (.int, [(.int p2), (.int p3), (.int p4), (.int p5), (.int p6), (.int p7)])) :: (r1, .inr (.int, [(.int (if (p3 = (-1 : Int32)) ∨ (¬ (p3 = (-1 : Int32)) ∧ ¬ (p8 = (-1 : Int32)) ∧ p8 = p3) ∨ (¬ (p3 = (-1 : Int32)) ∧ p8 = (-1 : Int32)) then ((if p3 = (-1 : Int32) then p8 else (if p8 = (-1 : Int32) then p3 else p8))) else p8)), (.int p9), (.int p10)])) :: RR))) (T.setTop (mkF m 51 #[.val (.ref r0), .val (.int (1 : Int32)), .val (.int (1 : Int32)), .val (.ref r1), .val (.int (0 : Int32)), .val (.int p3)] [])) := by
   intro T j4 ej4 fd5 A
   refine A.iinc (q := 54) (v := (1 : Int32)) (l' := #[.val (.ref r0), .val (.int (1 : Int32)), .val (.int (1 : Int32)), .val (.ref r1), .val (.int (1 : Int32)), .val (.int p3)]) d4_51 rfl rfl (by decide) rfl ?_
   refine A.goto (r := 3) d4_54 (by decide) ?_
   refine A.iload (q := 5) d4_3 rfl rfl ?_
   refine A.iloadN (q := 6) d4_5 rfl rfl ?_
   refine A.icmpT (r := 57) d4_6 (by decide) (by decide) ?_
   refine A.iconst (q := 58) (v := (1 : Int32)) d4_57 rfl (by decide) ?_
   subst ej4
   exact A.retZ (v := (FI_6 p3 p8)) d4_58 (by simp only [FI_6, if_pos fd5]; first | rfl | assumption) (by decide) (by decide) ⟨rfl, by first | rfl | (simp only [if_pos fd5])⟩
  refine A.iload (q := 19) d4_17 rfl rfl ?_
  refine A.iconst (q := 20) (v := (-1 : Int32)) d4_19 rfl (by decide) ?_
  refine A.icmp_eq (q := 23) (r := 51) d4_20 rfl (by decide) (fun h1 => ?_) (fun h1 => ?_)
  · exact J17_4 T _ (by simp only [if_pos h1]) (by exact (Or.inl h1)) A
  · refine A.aloadN (q := 24) d4_23 rfl rfl rfl ?_
    refine A.iload (q := 26) d4_24 rfl rfl ?_
    refine A.iaload (q := 27) (i := 1) (v := (.int p8)) d4_26 rfl rfl (by decide) rfl ?_
    refine A.iconst (q := 28) (v := (-1 : Int32)) d4_27 rfl (by decide) ?_
    refine A.icmp_ne (q := 31) (r := 40) d4_28 rfl (by decide) (fun h2 => ?_) (fun h2 => ?_)
    · refine A.aloadN (q := 41) d4_40 rfl rfl rfl ?_
      refine A.iload (q := 43) d4_41 rfl rfl ?_
      refine A.iaload (q := 44) (i := 1) (v := (.int p8)) d4_43 rfl rfl (by decide) rfl ?_
      refine A.iload (q := 46) d4_44 rfl rfl ?_
      refine A.icmp_eq (q := 49) (r := 51) d4_46 rfl (by decide) (fun h3 => ?_) (fun h3 => ?_)
      · exact J17_4 T _ (by simp only [if_neg h1, if_neg h2, if_pos h3]) (by exact (Or.inr (Or.inl ⟨h1, h2, h3⟩))) A
      · refine A.iconst (q := 50) (v := (0 : Int32)) d4_49 rfl (by decide) ?_
        have hD1 : ¬ ((p3 = (-1 : Int32)) ∨ (¬ (p3 = (-1 : Int32)) ∧ ¬ (p8 = (-1 : Int32)) ∧ p8 = p3) ∨ (¬ (p3 = (-1 : Int32)) ∧ p8 = (-1 : Int32))) := by first | (simp only [eq_false h1, eq_false h2, eq_false h3, not_true_eq_false, not_false_eq_true, true_and, and_true, false_and, and_false, or_false, false_or, or_true, true_or]; done) | (simp [h1, h2, h3]; done)
        exact A.retZ (v := (FI_6 p3 p8)) d4_50 (by simp only [FI_6, if_neg hD1, if_neg h1, if_neg h2, if_neg h3]; first | rfl | assumption) (by decide) (by decide) ⟨rfl, by first | rfl | (simp only [if_neg hD1, if_neg h1, if_neg h2, if_neg h3])⟩
    · refine A.aloadN (q := 32) d4_31 rfl rfl rfl ?_
      refine A.iload (q := 34) d4_32 rfl rfl ?_
      refine A.iload (q := 36) d4_34 rfl rfl ?_
      refine A.iastore (q := 37) (i := 1) (x' := p3) (L' := ((r0, .inr (.int, [(.int p2), (.int p3), (.int p4), (.int p5), (.int p6), (.int p7)])) :: (r1, .inr (.int, [(.int p3), (.int p9), (.int p10)])) :: RR)) d4_36 rfl rfl (by decide) (by show Int32.toNatClampNeg (0 : Int32) < 3; decide) rfl rfl ?_
      intro T A
      refine A.goto (r := 51) d4_37 (by decide) ?_
      exact J17_4 T _ (by simp only [if_neg h1, if_pos h2]) (by exact (Or.inr (Or.inr ⟨h1, h2⟩))) A
def FI_7 (p3 : Int32) (p4 : Int32) (p8 : Int32) (p9 : Int32) : Int32 := (if (p3 = (-1 : Int32)) ∨ (¬ (p3 = (-1 : Int32)) ∧ ¬ (p8 = (-1 : Int32)) ∧ p8 = p3) ∨ (¬ (p3 = (-1 : Int32)) ∧ p8 = (-1 : Int32)) then (if (p4 = (-1 : Int32)) ∨ (¬ (p4 = (-1 : Int32)) ∧ ¬ (p9 = (-1 : Int32)) ∧ p9 = p4) ∨ (¬ (p4 = (-1 : Int32)) ∧ p9 = (-1 : Int32)) then (1 : Int32) else (0 : Int32)) else (0 : Int32))
set_option maxRecDepth 65536 in
set_option maxHeartbeats 8000000 in
theorem rmI_7 (l : Launch) (Z : State) (a0 : Array Value) (hw : ∀ d ∈ tables_1, d.before a0 Z = true) (n0 : Nat) (r0 : Addr) (r1 : Addr) (p2 : Int32) (p3 : Int32) (p4 : Int32) (p5 : Int32) (p6 : Int32) (p7 : Int32) (p8 : Int32) (p9 : Int32) (p10 : Int32) (RR : Obs) :
    Triple l Z n0 (⟨"com/example/triplemill/triplemill/engine/RowBuffer", "mergeInto", "([III[I)Z"⟩ : MethodName) prog_59_method_15_code 6 (some .boolean) ({ frames := 0, cells := 0, slots := 0, locals := 0 } : Room) 0 0 [(.ref r0), (.int (1 : Int32)), (.int (2 : Int32)), (.ref r1)] ((r0, .inr (.int, [(.int p2), (.int p3), (.int p4), (.int p5), (.int p6), (.int p7)])) :: (r1, .inr (.int, [(.int p8), (.int p9), (.int p10)])) :: RR) (fun v L' => v = some (.int (FI_7 p3 p4 p8 p9)) ∧ L' = ((r0, .inr (.int, [(.int p2), (.int p3), (.int p4), (.int p5), (.int p6), (.int p7)])) :: (r1, .inr (.int, [(.int (if (p3 = (-1 : Int32)) ∨ (¬ (p3 = (-1 : Int32)) ∧ ¬ (p8 = (-1 : Int32)) ∧ p8 = p3) ∨ (¬ (p3 = (-1 : Int32)) ∧ p8 = (-1 : Int32)) then ((if p3 = (-1 : Int32) then p8 else (if p8 = (-1 : Int32) then p3 else p8))) else p8)), (.int (if (p3 = (-1 : Int32)) ∨ (¬ (p3 = (-1 : Int32)) ∧ ¬ (p8 = (-1 : Int32)) ∧ p8 = p3) ∨ (¬ (p3 = (-1 : Int32)) ∧ p8 = (-1 : Int32)) then (if (p4 = (-1 : Int32)) ∨ (¬ (p4 = (-1 : Int32)) ∧ ¬ (p9 = (-1 : Int32)) ∧ p9 = p4) ∨ (¬ (p4 = (-1 : Int32)) ∧ p9 = (-1 : Int32)) then ((if p4 = (-1 : Int32) then p9 else (if p9 = (-1 : Int32) then p4 else p9))) else p9) else p9)), (.int p10)])) :: RR)) := by
  refine Triple.of_body (tbl := tables_1) (a0 := a0) (Ls := #[.val (.ref r0), .val (.int (1 : Int32)), .val (.int (2 : Int32)), .val (.ref r1), .unset, .unset]) pn_4 hw rfl ?_
  intro p e s m below meth c T A
  refine A.iconst (q := 1) (v := (0 : Int32)) d4_0 rfl (by decide) ?_
  refine A.istore (q := 3) (l' := #[.val (.ref r0), .val (.int (1 : Int32)), .val (.int (2 : Int32)), .val (.ref r1), .val (.int (0 : Int32)), .unset]) d4_1 rfl rfl ?_
  refine A.iload (q := 5) d4_3 rfl rfl ?_
  refine A.iloadN (q := 6) d4_5 rfl rfl ?_
  refine A.icmpF (q := 9) d4_6 rfl (by decide) ?_
  refine A.aloadN (q := 10) d4_9 rfl rfl rfl ?_
  refine A.iloadN (q := 11) d4_10 rfl rfl ?_
  refine A.iload (q := 13) d4_11 rfl rfl ?_
  refine A.iadd (q := 14) (v := (1 : Int32)) d4_13 rfl (by decide) ?_
  refine A.iaload (q := 15) (i := 0) (v := (.int p3)) d4_14 rfl rfl (by decide) rfl ?_
  refine A.istore (q := 17) (l' := #[.val (.ref r0), .val (.int (1 : Int32)), .val (.int (2 : Int32)), .val (.ref r1), .val (.int (0 : Int32)), .val (.int p3)]) d4_15 rfl rfl ?_
  have J17_4 : ∀ (T : State) (j4 : Int32), j4 = (if p3 = (-1 : Int32) then p8 else (if p8 = (-1 : Int32) then p3 else p8)) → ((p3 = (-1 : Int32)) ∨ (¬ (p3 = (-1 : Int32)) ∧ ¬ (p8 = (-1 : Int32)) ∧ p8 = p3) ∨ (¬ (p3 = (-1 : Int32)) ∧ p8 = (-1 : Int32))) → Here p l e ({ frames := 0, cells := 0, slots := 0, locals := 0 } : Room) s m ([(.ref r0), (.int (1 : Int32)), (.int (2 : Int32)), (.ref r1)] : List Value).toArray below meth c Z a0 tables_1 (⟨"com/example/triplemill/triplemill/engine/RowBuffer", "mergeInto", "([III[I)Z"⟩ : MethodName).cls (⟨"com/example/triplemill/triplemill/engine/RowBuffer", "mergeInto", "([III[I)Z"⟩ : MethodName).name prog_59_method_15_code 6 (some .boolean) n0 T ((r0, .inr (.int, [(.int p2), (.int p3), (.int p4), (.int p5), (.int p6), (.int p7)])) :: (r1, .inr (.int, [(.int j4), (.int p9), (.int p10)])) :: RR) 0 0 → Go p e below (EndS below s n0 Z 0 0 (fun v L' => v = some (.int (FI_7 p3 p4 p8 p9)) ∧ L' = ((r0, .inr (.int, [(.int p2), (.int p3), (.int p4), (.int p5), (.int p6), (.int p7)])) :: (r1, .inr (.int, [(.int (if (p3 = (-1 : Int32)) ∨ (¬ (p3 = (-1 : Int32)) ∧ ¬ (p8 = (-1 : Int32)) ∧ p8 = p3) ∨ (¬ (p3 = (-1 : Int32)) ∧ p8 = (-1 : Int32)) then ((if p3 = (-1 : Int32) then p8 else (if p8 = (-1 : Int32) then p3 else p8))) else p8)), (.int (if (p3 = (-1 : Int32)) ∨ (¬ (p3 = (-1 : Int32)) ∧ ¬ (p8 = (-1 : Int32)) ∧ p8 = p3) ∨ (¬ (p3 = (-1 : Int32)) ∧ p8 = (-1 : Int32)) then (if (p4 = (-1 : Int32)) ∨ (¬ (p4 = (-1 : Int32)) ∧ ¬ (p9 = (-1 : Int32)) ∧ p9 = p4) ∨ (¬ (p4 = (-1 : Int32)) ∧ p9 = (-1 : Int32)) then ((if p4 = (-1 : Int32) then p9 else (if p9 = (-1 : Int32) then p4 else p9))) else p9) else p9)), (.int p10)])) :: RR))) (T.setTop (mkF m 51 #[.val (.ref r0), .val (.int (1 : Int32)), .val (.int (2 : Int32)), .val (.ref r1), .val (.int (0 : Int32)), .val (.int p3)] [])) := by
   intro T j4 ej4 fd5 A
   refine A.iinc (q := 54) (v := (1 : Int32)) (l' := #[.val (.ref r0), .val (.int (1 : Int32)), .val (.int (2 : Int32)), .val (.ref r1), .val (.int (1 : Int32)), .val (.int p3)]) d4_51 rfl rfl (by decide) rfl ?_
   refine A.goto (r := 3) d4_54 (by decide) ?_
   refine A.iload (q := 5) d4_3 rfl rfl ?_
   refine A.iloadN (q := 6) d4_5 rfl rfl ?_
   refine A.icmpF (q := 9) d4_6 rfl (by decide) ?_
   refine A.aloadN (q := 10) d4_9 rfl rfl rfl ?_
   refine A.iloadN (q := 11) d4_10 rfl rfl ?_
   refine A.iload (q := 13) d4_11 rfl rfl ?_
   refine A.iadd (q := 14) (v := (2 : Int32)) d4_13 rfl (by decide) ?_
   refine A.iaload (q := 15) (i := 0) (v := (.int p4)) d4_14 rfl rfl (by decide) rfl ?_
   refine A.istore (q := 17) (l' := #[.val (.ref r0), .val (.int (1 : Int32)), .val (.int (2 : Int32)), .val (.ref r1), .val (.int (1 : Int32)), .val (.int p4)]) d4_15 rfl rfl ?_
   have J17_9 : ∀ (T : State) (j9 : Int32), j9 = (if p4 = (-1 : Int32) then p9 else (if p9 = (-1 : Int32) then p4 else p9)) → ((p4 = (-1 : Int32)) ∨ (¬ (p4 = (-1 : Int32)) ∧ ¬ (p9 = (-1 : Int32)) ∧ p9 = p4) ∨ (¬ (p4 = (-1 : Int32)) ∧ p9 = (-1 : Int32))) → Here p l e ({ frames := 0, cells := 0, slots := 0, locals := 0 } : Room) s m ([(.ref r0), (.int (1 : Int32)), (.int (2 : Int32)), (.ref r1)] : List Value).toArray below meth c Z a0 tables_1 (⟨"com/example/triplemill/triplemill/engine/RowBuffer", "mergeInto", "([III[I)Z"⟩ : MethodName).cls (⟨"com/example/triplemill/triplemill/engine/RowBuffer", "mergeInto", "([III[I)Z"⟩ : MethodName).name prog_59_method_15_code 6 (some .boolean) n0 T ((r0, .inr (.int, [(.int p2), (.int p3), (.int p4), (.int p5), (.int p6), (.int p7)])) :: (r1, .inr (.int, [(.int j4), (.int j9), (.int p10)])) :: RR) 0 0 → Go p e below (EndS below s n0 Z 0 0 (fun v L' => v = some (.int (FI_7 p3 p4 p8 p9)) ∧ L' = ((r0, .inr (.int, [(.int p2), (.int p3), (.int p4), (.int p5), (.int p6), (.int p7)])) :: (r1, .inr (.int, [(.int (if (p3 = (-1 : Int32)) ∨ (¬ (p3 = (-1 : Int32)) ∧ ¬ (p8 = (-1 : Int32)) ∧ p8 = p3) ∨ (¬ (p3 = (-1 : Int32)) ∧ p8 = (-1 : Int32)) then ((if p3 = (-1 : Int32) then p8 else (if p8 = (-1 : Int32) then p3 else p8))) else p8)), (.int (if (p3 = (-1 : Int32)) ∨ (¬ (p3 = (-1 : Int32)) ∧ ¬ (p8 = (-1 : Int32)) ∧ p8 = p3) ∨ (¬ (p3 = (-1 : Int32)) ∧ p8 = (-1 : Int32)) then (if (p4 = (-1 : Int32)) ∨ (¬ (p4 = (-1 : Int32)) ∧ ¬ (p9 = (-1 : Int32)) ∧ p9 = p4) ∨ (¬ (p4 = (-1 : Int32)) ∧ p9 = (-1 : Int32)) then ((if p4 = (-1 : Int32) then p9 else (if p9 = (-1 : Int32) then p4 else p9))) else p9) else p9)), (.int p10)])) :: RR))) (T.setTop (mkF m 51 #[.val (.ref r0), .val (.int (1 : Int32)), .val (.int (2 : Int32)), .val (.ref r1), .val (.int (1 : Int32)), .val (.int p4)] [])) := by
    intro T j9 ej9 fd10 A
    refine A.iinc (q := 54) (v := (2 : Int32)) (l' := #[.val (.ref r0), .val (.int (1 : Int32)), .val (.int (2 : Int32)), .val (.ref r1), .val (.int (2 : Int32)), .val (.int p4)]) d4_51 rfl rfl (by decide) rfl ?_
    refine A.goto (r := 3) d4_54 (by decide) ?_
    refine A.iload (q := 5) d4_3 rfl rfl ?_
    refine A.iloadN (q := 6) d4_5 rfl rfl ?_
    refine A.icmpT (r := 57) d4_6 (by decide) (by decide) ?_
    refine A.iconst (q := 58) (v := (1 : Int32)) d4_57 rfl (by decide) ?_
    subst ej4 ej9
    exact A.retZ (v := (FI_7 p3 p4 p8 p9)) d4_58 (by simp only [FI_7, if_pos fd5, if_pos fd10]; first | rfl | assumption) (by decide) (by decide) ⟨rfl, by first | rfl | (simp only [if_pos fd5, if_pos fd10])⟩
   refine A.iload (q := 19) d4_17 rfl rfl ?_
   refine A.iconst (q := 20) (v := (-1 : Int32)) d4_19 rfl (by decide) ?_
   refine A.icmp_eq (q := 23) (r := 51) d4_20 rfl (by decide) (fun h6 => ?_) (fun h6 => ?_)
   · exact J17_9 T _ (by simp only [if_pos h6]) (by exact (Or.inl h6)) A
   · refine A.aloadN (q := 24) d4_23 rfl rfl rfl ?_
     refine A.iload (q := 26) d4_24 rfl rfl ?_
     refine A.iaload (q := 27) (i := 1) (v := (.int p9)) d4_26 rfl rfl (by decide) rfl ?_
     refine A.iconst (q := 28) (v := (-1 : Int32)) d4_27 rfl (by decide) ?_
     refine A.icmp_ne (q := 31) (r := 40) d4_28 rfl (by decide) (fun h7 => ?_) (fun h7 => ?_)
     · refine A.aloadN (q := 41) d4_40 rfl rfl rfl ?_
       refine A.iload (q := 43) d4_41 rfl rfl ?_
       refine A.iaload (q := 44) (i := 1) (v := (.int p9)) d4_43 rfl rfl (by decide) rfl ?_
       refine A.iload (q := 46) d4_44 rfl rfl ?_
       refine A.icmp_eq (q := 49) (r := 51) d4_46 rfl (by decide) (fun h8 => ?_) (fun h8 => ?_)
       · exact J17_9 T _ (by simp only [if_neg h6, if_neg h7, if_pos h8]) (by exact (Or.inr (Or.inl ⟨h6, h7, h8⟩))) A
       · refine A.iconst (q := 50) (v := (0 : Int32)) d4_49 rfl (by decide) ?_
         have hD2 : ¬ ((p4 = (-1 : Int32)) ∨ (¬ (p4 = (-1 : Int32)) ∧ ¬ (p9 = (-1 : Int32)) ∧ p9 = p4) ∨ (¬ (p4 = (-1 : Int32)) ∧ p9 = (-1 : Int32))) := by first | (simp only [eq_false h6, eq_false h7, eq_false h8, not_true_eq_false, not_false_eq_true, true_and, and_true, false_and, and_false, or_false, false_or, or_true, true_or]; done) | (simp [h6, h7, h8]; done)
         subst ej4
         exact A.retZ (v := (FI_7 p3 p4 p8 p9)) d4_50 (by simp only [FI_7, if_pos fd5, if_neg hD2, if_neg h6, if_neg h7, if_neg h8]; first | rfl | assumption) (by decide) (by decide) ⟨rfl, by first | rfl | (simp only [if_pos fd5, if_neg hD2, if_neg h6, if_neg h7, if_neg h8])⟩
     · refine A.aloadN (q := 32) d4_31 rfl rfl rfl ?_
       refine A.iload (q := 34) d4_32 rfl rfl ?_
       refine A.iload (q := 36) d4_34 rfl rfl ?_
       refine A.iastore (q := 37) (i := 1) (x' := p4) (L' := ((r0, .inr (.int, [(.int p2), (.int p3), (.int p4), (.int p5), (.int p6), (.int p7)])) :: (r1, .inr (.int, [(.int j4), (.int p4), (.int p10)])) :: RR)) d4_36 rfl rfl (by decide) (by show Int32.toNatClampNeg (1 : Int32) < 3; decide) rfl rfl ?_
       intro T A
       refine A.goto (r := 51) d4_37 (by decide) ?_
       exact J17_9 T _ (by simp only [if_neg h6, if_pos h7]) (by exact (Or.inr (Or.inr ⟨h6, h7⟩))) A
  refine A.iload (q := 19) d4_17 rfl rfl ?_
  refine A.iconst (q := 20) (v := (-1 : Int32)) d4_19 rfl (by decide) ?_
  refine A.icmp_eq (q := 23) (r := 51) d4_20 rfl (by decide) (fun h1 => ?_) (fun h1 => ?_)
  · exact J17_4 T _ (by simp only [if_pos h1]) (by exact (Or.inl h1)) A
  · refine A.aloadN (q := 24) d4_23 rfl rfl rfl ?_
    refine A.iload (q := 26) d4_24 rfl rfl ?_
    refine A.iaload (q := 27) (i := 1) (v := (.int p8)) d4_26 rfl rfl (by decide) rfl ?_
    refine A.iconst (q := 28) (v := (-1 : Int32)) d4_27 rfl (by decide) ?_
    refine A.icmp_ne (q := 31) (r := 40) d4_28 rfl (by decide) (fun h2 => ?_) (fun h2 => ?_)
    · refine A.aloadN (q := 41) d4_40 rfl rfl rfl ?_
      refine A.iload (q := 43) d4_41 rfl rfl ?_
      refine A.iaload (q := 44) (i := 1) (v := (.int p8)) d4_43 rfl rfl (by decide) rfl ?_
      refine A.iload (q := 46) d4_44 rfl rfl ?_
      refine A.icmp_eq (q := 49) (r := 51) d4_46 rfl (by decide) (fun h3 => ?_) (fun h3 => ?_)
      · exact J17_4 T _ (by simp only [if_neg h1, if_neg h2, if_pos h3]) (by exact (Or.inr (Or.inl ⟨h1, h2, h3⟩))) A
      · refine A.iconst (q := 50) (v := (0 : Int32)) d4_49 rfl (by decide) ?_
        have hD1 : ¬ ((p3 = (-1 : Int32)) ∨ (¬ (p3 = (-1 : Int32)) ∧ ¬ (p8 = (-1 : Int32)) ∧ p8 = p3) ∨ (¬ (p3 = (-1 : Int32)) ∧ p8 = (-1 : Int32))) := by first | (simp only [eq_false h1, eq_false h2, eq_false h3, not_true_eq_false, not_false_eq_true, true_and, and_true, false_and, and_false, or_false, false_or, or_true, true_or]; done) | (simp [h1, h2, h3]; done)
        exact A.retZ (v := (FI_7 p3 p4 p8 p9)) d4_50 (by simp only [FI_7, if_neg hD1, if_neg h1, if_neg h2, if_neg h3]; first | rfl | assumption) (by decide) (by decide) ⟨rfl, by first | rfl | (simp only [if_neg hD1, if_neg h1, if_neg h2, if_neg h3])⟩
    · refine A.aloadN (q := 32) d4_31 rfl rfl rfl ?_
      refine A.iload (q := 34) d4_32 rfl rfl ?_
      refine A.iload (q := 36) d4_34 rfl rfl ?_
      refine A.iastore (q := 37) (i := 1) (x' := p3) (L' := ((r0, .inr (.int, [(.int p2), (.int p3), (.int p4), (.int p5), (.int p6), (.int p7)])) :: (r1, .inr (.int, [(.int p3), (.int p9), (.int p10)])) :: RR)) d4_36 rfl rfl (by decide) (by show Int32.toNatClampNeg (0 : Int32) < 3; decide) rfl rfl ?_
      intro T A
      refine A.goto (r := 51) d4_37 (by decide) ?_
      exact J17_4 T _ (by simp only [if_neg h1, if_pos h2]) (by exact (Or.inr (Or.inr ⟨h1, h2⟩))) A
def FI_8 (p3 : Int32) (p4 : Int32) (p5 : Int32) (p8 : Int32) (p9 : Int32) (p10 : Int32) : Int32 := (if (p3 = (-1 : Int32)) ∨ (¬ (p3 = (-1 : Int32)) ∧ ¬ (p8 = (-1 : Int32)) ∧ p8 = p3) ∨ (¬ (p3 = (-1 : Int32)) ∧ p8 = (-1 : Int32)) then (if (p4 = (-1 : Int32)) ∨ (¬ (p4 = (-1 : Int32)) ∧ ¬ (p9 = (-1 : Int32)) ∧ p9 = p4) ∨ (¬ (p4 = (-1 : Int32)) ∧ p9 = (-1 : Int32)) then (if (p5 = (-1 : Int32)) ∨ (¬ (p5 = (-1 : Int32)) ∧ ¬ (p10 = (-1 : Int32)) ∧ p10 = p5) ∨ (¬ (p5 = (-1 : Int32)) ∧ p10 = (-1 : Int32)) then (1 : Int32) else (0 : Int32)) else (0 : Int32)) else (0 : Int32))
set_option maxRecDepth 65536 in
set_option maxHeartbeats 8000000 in
theorem rmI_8 (l : Launch) (Z : State) (a0 : Array Value) (hw : ∀ d ∈ tables_1, d.before a0 Z = true) (n0 : Nat) (r0 : Addr) (r1 : Addr) (p2 : Int32) (p3 : Int32) (p4 : Int32) (p5 : Int32) (p6 : Int32) (p7 : Int32) (p8 : Int32) (p9 : Int32) (p10 : Int32) (RR : Obs) :
    Triple l Z n0 (⟨"com/example/triplemill/triplemill/engine/RowBuffer", "mergeInto", "([III[I)Z"⟩ : MethodName) prog_59_method_15_code 6 (some .boolean) ({ frames := 0, cells := 0, slots := 0, locals := 0 } : Room) 0 0 [(.ref r0), (.int (1 : Int32)), (.int (3 : Int32)), (.ref r1)] ((r0, .inr (.int, [(.int p2), (.int p3), (.int p4), (.int p5), (.int p6), (.int p7)])) :: (r1, .inr (.int, [(.int p8), (.int p9), (.int p10)])) :: RR) (fun v L' => v = some (.int (FI_8 p3 p4 p5 p8 p9 p10)) ∧ L' = ((r0, .inr (.int, [(.int p2), (.int p3), (.int p4), (.int p5), (.int p6), (.int p7)])) :: (r1, .inr (.int, [(.int (if (p3 = (-1 : Int32)) ∨ (¬ (p3 = (-1 : Int32)) ∧ ¬ (p8 = (-1 : Int32)) ∧ p8 = p3) ∨ (¬ (p3 = (-1 : Int32)) ∧ p8 = (-1 : Int32)) then ((if p3 = (-1 : Int32) then p8 else (if p8 = (-1 : Int32) then p3 else p8))) else p8)), (.int (if (p3 = (-1 : Int32)) ∨ (¬ (p3 = (-1 : Int32)) ∧ ¬ (p8 = (-1 : Int32)) ∧ p8 = p3) ∨ (¬ (p3 = (-1 : Int32)) ∧ p8 = (-1 : Int32)) then (if (p4 = (-1 : Int32)) ∨ (¬ (p4 = (-1 : Int32)) ∧ ¬ (p9 = (-1 : Int32)) ∧ p9 = p4) ∨ (¬ (p4 = (-1 : Int32)) ∧ p9 = (-1 : Int32)) then ((if p4 = (-1 : Int32) then p9 else (if p9 = (-1 : Int32) then p4 else p9))) else p9) else p9)), (.int (if (p3 = (-1 : Int32)) ∨ (¬ (p3 = (-1 : Int32)) ∧ ¬ (p8 = (-1 : Int32)) ∧ p8 = p3) ∨ (¬ (p3 = (-1 : Int32)) ∧ p8 = (-1 : Int32)) then (if (p4 = (-1 : Int32)) ∨ (¬ (p4 = (-1 : Int32)) ∧ ¬ (p9 = (-1 : Int32)) ∧ p9 = p4) ∨ (¬ (p4 = (-1 : Int32)) ∧ p9 = (-1 : Int32)) then (if (p5 = (-1 : Int32)) ∨ (¬ (p5 = (-1 : Int32)) ∧ ¬ (p10 = (-1 : Int32)) ∧ p10 = p5) ∨ (¬ (p5 = (-1 : Int32)) ∧ p10 = (-1 : Int32)) then ((if p5 = (-1 : Int32) then p10 else (if p10 = (-1 : Int32) then p5 else p10))) else p10) else p10) else p10))])) :: RR)) := by
  refine Triple.of_body (tbl := tables_1) (a0 := a0) (Ls := #[.val (.ref r0), .val (.int (1 : Int32)), .val (.int (3 : Int32)), .val (.ref r1), .unset, .unset]) pn_4 hw rfl ?_
  intro p e s m below meth c T A
  refine A.iconst (q := 1) (v := (0 : Int32)) d4_0 rfl (by decide) ?_
  refine A.istore (q := 3) (l' := #[.val (.ref r0), .val (.int (1 : Int32)), .val (.int (3 : Int32)), .val (.ref r1), .val (.int (0 : Int32)), .unset]) d4_1 rfl rfl ?_
  refine A.iload (q := 5) d4_3 rfl rfl ?_
  refine A.iloadN (q := 6) d4_5 rfl rfl ?_
  refine A.icmpF (q := 9) d4_6 rfl (by decide) ?_
  refine A.aloadN (q := 10) d4_9 rfl rfl rfl ?_
  refine A.iloadN (q := 11) d4_10 rfl rfl ?_
  refine A.iload (q := 13) d4_11 rfl rfl ?_
  refine A.iadd (q := 14) (v := (1 : Int32)) d4_13 rfl (by decide) ?_
  refine A.iaload (q := 15) (i := 0) (v := (.int p3)) d4_14 rfl rfl (by decide) rfl ?_
  refine A.istore (q := 17) (l' := #[.val (.ref r0), .val (.int (1 : Int32)), .val (.int (3 : Int32)), .val (.ref r1), .val (.int (0 : Int32)), .val (.int p3)]) d4_15 rfl rfl ?_
  have J17_4 : ∀ (T : State) (j4 : Int32), j4 = (if p3 = (-1 : Int32) then p8 else (if p8 = (-1 : Int32) then p3 else p8)) → ((p3 = (-1 : Int32)) ∨ (¬ (p3 = (-1 : Int32)) ∧ ¬ (p8 = (-1 : Int32)) ∧ p8 = p3) ∨ (¬ (p3 = (-1 : Int32)) ∧ p8 = (-1 : Int32))) → Here p l e ({ frames := 0, cells := 0, slots := 0, locals := 0 } : Room) s m ([(.ref r0), (.int (1 : Int32)), (.int (3 : Int32)), (.ref r1)] : List Value).toArray below meth c Z a0 tables_1 (⟨"com/example/triplemill/triplemill/engine/RowBuffer", "mergeInto", "([III[I)Z"⟩ : MethodName).cls (⟨"com/example/triplemill/triplemill/engine/RowBuffer", "mergeInto", "([III[I)Z"⟩ : MethodName).name prog_59_method_15_code 6 (some .boolean) n0 T ((r0, .inr (.int, [(.int p2), (.int p3), (.int p4), (.int p5), (.int p6), (.int p7)])) :: (r1, .inr (.int, [(.int j4), (.int p9), (.int p10)])) :: RR) 0 0 → Go p e below (EndS below s n0 Z 0 0 (fun v L' => v = some (.int (FI_8 p3 p4 p5 p8 p9 p10)) ∧ L' = ((r0, .inr (.int, [(.int p2), (.int p3), (.int p4), (.int p5), (.int p6), (.int p7)])) :: (r1, .inr (.int, [(.int (if (p3 = (-1 : Int32)) ∨ (¬ (p3 = (-1 : Int32)) ∧ ¬ (p8 = (-1 : Int32)) ∧ p8 = p3) ∨ (¬ (p3 = (-1 : Int32)) ∧ p8 = (-1 : Int32)) then ((if p3 = (-1 : Int32) then p8 else (if p8 = (-1 : Int32) then p3 else p8))) else p8)), (.int (if (p3 = (-1 : Int32)) ∨ (¬ (p3 = (-1 : Int32)) ∧ ¬ (p8 = (-1 : Int32)) ∧ p8 = p3) ∨ (¬ (p3 = (-1 : Int32)) ∧ p8 = (-1 : Int32)) then (if (p4 = (-1 : Int32)) ∨ (¬ (p4 = (-1 : Int32)) ∧ ¬ (p9 = (-1 : Int32)) ∧ p9 = p4) ∨ (¬ (p4 = (-1 : Int32)) ∧ p9 = (-1 : Int32)) then ((if p4 = (-1 : Int32) then p9 else (if p9 = (-1 : Int32) then p4 else p9))) else p9) else p9)), (.int (if (p3 = (-1 : Int32)) ∨ (¬ (p3 = (-1 : Int32)) ∧ ¬ (p8 = (-1 : Int32)) ∧ p8 = p3) ∨ (¬ (p3 = (-1 : Int32)) ∧ p8 = (-1 : Int32)) then (if (p4 = (-1 : Int32)) ∨ (¬ (p4 = (-1 : Int32)) ∧ ¬ (p9 = (-1 : Int32)) ∧ p9 = p4) ∨ (¬ (p4 = (-1 : Int32)) ∧ p9 = (-1 : Int32)) then (if (p5 = (-1 : Int32)) ∨ (¬ (p5 = (-1 : Int32)) ∧ ¬ (p10 = (-1 : Int32)) ∧ p10 = p5) ∨ (¬ (p5 = (-1 : Int32)) ∧ p10 = (-1 : Int32)) then ((if p5 = (-1 : Int32) then p10 else (if p10 = (-1 : Int32) then p5 else p10))) else p10) else p10) else p10))])) :: RR))) (T.setTop (mkF m 51 #[.val (.ref r0), .val (.int (1 : Int32)), .val (.int (3 : Int32)), .val (.ref r1), .val (.int (0 : Int32)), .val (.int p3)] [])) := by
   intro T j4 ej4 fd5 A
   refine A.iinc (q := 54) (v := (1 : Int32)) (l' := #[.val (.ref r0), .val (.int (1 : Int32)), .val (.int (3 : Int32)), .val (.ref r1), .val (.int (1 : Int32)), .val (.int p3)]) d4_51 rfl rfl (by decide) rfl ?_
   refine A.goto (r := 3) d4_54 (by decide) ?_
   refine A.iload (q := 5) d4_3 rfl rfl ?_
   refine A.iloadN (q := 6) d4_5 rfl rfl ?_
   refine A.icmpF (q := 9) d4_6 rfl (by decide) ?_
   refine A.aloadN (q := 10) d4_9 rfl rfl rfl ?_
   refine A.iloadN (q := 11) d4_10 rfl rfl ?_
   refine A.iload (q := 13) d4_11 rfl rfl ?_
   refine A.iadd (q := 14) (v := (2 : Int32)) d4_13 rfl (by decide) ?_
   refine A.iaload (q := 15) (i := 0) (v := (.int p4)) d4_14 rfl rfl (by decide) rfl ?_
   refine A.istore (q := 17) (l' := #[.val (.ref r0), .val (.int (1 : Int32)), .val (.int (3 : Int32)), .val (.ref r1), .val (.int (1 : Int32)), .val (.int p4)]) d4_15 rfl rfl ?_
   have J17_9 : ∀ (T : State) (j9 : Int32), j9 = (if p4 = (-1 : Int32) then p9 else (if p9 = (-1 : Int32) then p4 else p9)) → ((p4 = (-1 : Int32)) ∨ (¬ (p4 = (-1 : Int32)) ∧ ¬ (p9 = (-1 : Int32)) ∧ p9 = p4) ∨ (¬ (p4 = (-1 : Int32)) ∧ p9 = (-1 : Int32))) → Here p l e ({ frames := 0, cells := 0, slots := 0, locals := 0 } : Room) s m ([(.ref r0), (.int (1 : Int32)), (.int (3 : Int32)), (.ref r1)] : List Value).toArray below meth c Z a0 tables_1 (⟨"com/example/triplemill/triplemill/engine/RowBuffer", "mergeInto", "([III[I)Z"⟩ : MethodName).cls (⟨"com/example/triplemill/triplemill/engine/RowBuffer", "mergeInto", "([III[I)Z"⟩ : MethodName).name prog_59_method_15_code 6 (some .boolean) n0 T ((r0, .inr (.int, [(.int p2), (.int p3), (.int p4), (.int p5), (.int p6), (.int p7)])) :: (r1, .inr (.int, [(.int j4), (.int j9), (.int p10)])) :: RR) 0 0 → Go p e below (EndS below s n0 Z 0 0 (fun v L' => v = some (.int (FI_8 p3 p4 p5 p8 p9 p10)) ∧ L' = ((r0, .inr (.int, [(.int p2), (.int p3), (.int p4), (.int p5), (.int p6), (.int p7)])) :: (r1, .inr (.int, [(.int (if (p3 = (-1 : Int32)) ∨ (¬ (p3 = (-1 : Int32)) ∧ ¬ (p8 = (-1 : Int32)) ∧ p8 = p3) ∨ (¬ (p3 = (-1 : Int32)) ∧ p8 = (-1 : Int32)) then ((if p3 = (-1 : Int32) then p8 else (if p8 = (-1 : Int32) then p3 else p8))) else p8)), (.int (if (p3 = (-1 : Int32)) ∨ (¬ (p3 = (-1 : Int32)) ∧ ¬ (p8 = (-1 : Int32)) ∧ p8 = p3) ∨ (¬ (p3 = (-1 : Int32)) ∧ p8 = (-1 : Int32)) then (if (p4 = (-1 : Int32)) ∨ (¬ (p4 = (-1 : Int32)) ∧ ¬ (p9 = (-1 : Int32)) ∧ p9 = p4) ∨ (¬ (p4 = (-1 : Int32)) ∧ p9 = (-1 : Int32)) then ((if p4 = (-1 : Int32) then p9 else (if p9 = (-1 : Int32) then p4 else p9))) else p9) else p9)), (.int (if (p3 = (-1 : Int32)) ∨ (¬ (p3 = (-1 : Int32)) ∧ ¬ (p8 = (-1 : Int32)) ∧ p8 = p3) ∨ (¬ (p3 = (-1 : Int32)) ∧ p8 = (-1 : Int32)) then (if (p4 = (-1 : Int32)) ∨ (¬ (p4 = (-1 : Int32)) ∧ ¬ (p9 = (-1 : Int32)) ∧ p9 = p4) ∨ (¬ (p4 = (-1 : Int32)) ∧ p9 = (-1 : Int32)) then (if (p5 = (-1 : Int32)) ∨ (¬ (p5 = (-1 : Int32)) ∧ ¬ (p10 = (-1 : Int32)) ∧ p10 = p5) ∨ (¬ (p5 = (-1 : Int32)) ∧ p10 = (-1 : Int32)) then ((if p5 = (-1 : Int32) then p10 else (if p10 = (-1 : Int32) then p5 else p10))) else p10) else p10) else p10))])) :: RR))) (T.setTop (mkF m 51 #[.val (.ref r0), .val (.int (1 : Int32)), .val (.int (3 : Int32)), .val (.ref r1), .val (.int (1 : Int32)), .val (.int p4)] [])) := by
    intro T j9 ej9 fd10 A
    refine A.iinc (q := 54) (v := (2 : Int32)) (l' := #[.val (.ref r0), .val (.int (1 : Int32)), .val (.int (3 : Int32)), .val (.ref r1), .val (.int (2 : Int32)), .val (.int p4)]) d4_51 rfl rfl (by decide) rfl ?_
    refine A.goto (r := 3) d4_54 (by decide) ?_
    refine A.iload (q := 5) d4_3 rfl rfl ?_
    refine A.iloadN (q := 6) d4_5 rfl rfl ?_
    refine A.icmpF (q := 9) d4_6 rfl (by decide) ?_
    refine A.aloadN (q := 10) d4_9 rfl rfl rfl ?_
    refine A.iloadN (q := 11) d4_10 rfl rfl ?_
    refine A.iload (q := 13) d4_11 rfl rfl ?_
    refine A.iadd (q := 14) (v := (3 : Int32)) d4_13 rfl (by decide) ?_
    refine A.iaload (q := 15) (i := 0) (v := (.int p5)) d4_14 rfl rfl (by decide) rfl ?_
    refine A.istore (q := 17) (l' := #[.val (.ref r0), .val (.int (1 : Int32)), .val (.int (3 : Int32)), .val (.ref r1), .val (.int (2 : Int32)), .val (.int p5)]) d4_15 rfl rfl ?_
    have J17_14 : ∀ (T : State) (j14 : Int32), j14 = (if p5 = (-1 : Int32) then p10 else (if p10 = (-1 : Int32) then p5 else p10)) → ((p5 = (-1 : Int32)) ∨ (¬ (p5 = (-1 : Int32)) ∧ ¬ (p10 = (-1 : Int32)) ∧ p10 = p5) ∨ (¬ (p5 = (-1 : Int32)) ∧ p10 = (-1 : Int32))) → Here p l e ({ frames := 0, cells := 0, slots := 0, locals := 0 } : Room) s m ([(.ref r0), (.int (1 : Int32)), (.int (3 : Int32)), (.ref r1)] : List Value).toArray below meth c Z a0 tables_1 (⟨"com/example/triplemill/triplemill/engine/RowBuffer", "mergeInto", "([III[I)Z"⟩ : MethodName).cls (⟨"com/example/triplemill/triplemill/engine/RowBuffer", "mergeInto", "([III[I)Z"⟩ : MethodName).name prog_59_method_15_code 6 (some .boolean) n0 T ((r0, .inr (.int, [(.int p2), (.int p3), (.int p4), (.int p5), (.int p6), (.int p7)])) :: (r1, .inr (.int, [(.int j4), (.int j9), (.int j14)])) :: RR) 0 0 → Go p e below (EndS below s n0 Z 0 0 (fun v L' => v = some (.int (FI_8 p3 p4 p5 p8 p9 p10)) ∧ L' = ((r0, .inr (.int, [(.int p2), (.int p3), (.int p4), (.int p5), (.int p6), (.int p7)])) :: (r1, .inr (.int, [(.int (if (p3 = (-1 : Int32)) ∨ (¬ (p3 = (-1 : Int32)) ∧ ¬ (p8 = (-1 : Int32)) ∧ p8 = p3) ∨ (¬ (p3 = (-1 : Int32)) ∧ p8 = (-1 : Int32)) then ((if p3 = (-1 : Int32) then p8 else (if p8 = (-1 : Int32) then p3 else p8))) else p8)), (.int (if (p3 = (-1 : Int32)) ∨ (¬ (p3 = (-1 : Int32)) ∧ ¬ (p8 = (-1 : Int32)) ∧ p8 = p3) ∨ (¬ (p3 = (-1 : Int32)) ∧ p8 = (-1 : Int32)) then (if (p4 = (-1 : Int32)) ∨ (¬ (p4 = (-1 : Int32)) ∧ ¬ (p9 = (-1 : Int32)) ∧ p9 = p4) ∨ (¬ (p4 = (-1 : Int32)) ∧ p9 = (-1 : Int32)) then ((if p4 = (-1 : Int32) then p9 else (if p9 = (-1 : Int32) then p4 else p9))) else p9) else p9)), (.int (if (p3 = (-1 : Int32)) ∨ (¬ (p3 = (-1 : Int32)) ∧ ¬ (p8 = (-1 : Int32)) ∧ p8 = p3) ∨ (¬ (p3 = (-1 : Int32)) ∧ p8 = (-1 : Int32)) then (if (p4 = (-1 : Int32)) ∨ (¬ (p4 = (-1 : Int32)) ∧ ¬ (p9 = (-1 : Int32)) ∧ p9 = p4) ∨ (¬ (p4 = (-1 : Int32)) ∧ p9 = (-1 : Int32)) then (if (p5 = (-1 : Int32)) ∨ (¬ (p5 = (-1 : Int32)) ∧ ¬ (p10 = (-1 : Int32)) ∧ p10 = p5) ∨ (¬ (p5 = (-1 : Int32)) ∧ p10 = (-1 : Int32)) then ((if p5 = (-1 : Int32) then p10 else (if p10 = (-1 : Int32) then p5 else p10))) else p10) else p10) else p10))])) :: RR))) (T.setTop (mkF m 51 #[.val (.ref r0), .val (.int (1 : Int32)), .val (.int (3 : Int32)), .val (.ref r1), .val (.int (2 : Int32)), .val (.int p5)] [])) := by
     intro T j14 ej14 fd15 A
     refine A.iinc (q := 54) (v := (3 : Int32)) (l' := #[.val (.ref r0), .val (.int (1 : Int32)), .val (.int (3 : Int32)), .val (.ref r1), .val (.int (3 : Int32)), .val (.int p5)]) d4_51 rfl rfl (by decide) rfl ?_
     refine A.goto (r := 3) d4_54 (by decide) ?_
     refine A.iload (q := 5) d4_3 rfl rfl ?_
     refine A.iloadN (q := 6) d4_5 rfl rfl ?_
     refine A.icmpT (r := 57) d4_6 (by decide) (by decide) ?_
     refine A.iconst (q := 58) (v := (1 : Int32)) d4_57 rfl (by decide) ?_
     subst ej4 ej9 ej14
     exact A.retZ (v := (FI_8 p3 p4 p5 p8 p9 p10)) d4_58 (by simp only [FI_8, if_pos fd5, if_pos fd10, if_pos fd15]; first | rfl | assumption) (by decide) (by decide) ⟨rfl, by first | rfl | (simp only [if_pos fd5, if_pos fd10, if_pos fd15])⟩
    refine A.iload (q := 19) d4_17 rfl rfl ?_
    refine A.iconst (q := 20) (v := (-1 : Int32)) d4_19 rfl (by decide) ?_
    refine A.icmp_eq (q := 23) (r := 51) d4_20 rfl (by decide) (fun h11 => ?_) (fun h11 => ?_)
    · exact J17_14 T _ (by simp only [if_pos h11]) (by exact (Or.inl h11)) A
    · refine A.aloadN (q := 24) d4_23 rfl rfl rfl ?_
      refine A.iload (q := 26) d4_24 rfl rfl ?_
      refine A.iaload (q := 27) (i := 1) (v := (.int p10)) d4_26 rfl rfl (by decide) rfl ?_
      refine A.iconst (q := 28) (v := (-1 : Int32)) d4_27 rfl (by decide) ?_
      refine A.icmp_ne (q := 31) (r := 40) d4_28 rfl (by decide) (fun h12 => ?_) (fun h12 => ?_)
      · refine A.aloadN (q := 41) d4_40 rfl rfl rfl ?_
        refine A.iload (q := 43) d4_41 rfl rfl ?_
        refine A.iaload (q := 44) (i := 1) (v := (.int p10)) d4_43 rfl rfl (by decide) rfl ?_
        refine A.iload (q := 46) d4_44 rfl rfl ?_
        refine A.icmp_eq (q := 49) (r := 51) d4_46 rfl (by decide) (fun h13 => ?_) (fun h13 => ?_)
        · exact J17_14 T _ (by simp only [if_neg h11, if_neg h12, if_pos h13]) (by exact (Or.inr (Or.inl ⟨h11, h12, h13⟩))) A
        · refine A.iconst (q := 50) (v := (0 : Int32)) d4_49 rfl (by decide) ?_
          have hD3 : ¬ ((p5 = (-1 : Int32)) ∨ (¬ (p5 = (-1 : Int32)) ∧ ¬ (p10 = (-1 : Int32)) ∧ p10 = p5) ∨ (¬ (p5 = (-1 : Int32)) ∧ p10 = (-1 : Int32))) := by first | (simp only [eq_false h11, eq_false h12, eq_false h13, not_true_eq_false, not_false_eq_true, true_and, and_true, false_and, and_false, or_false, false_or, or_true, true_or]; done) | (simp [h11, h12, h13]; done)
          subst ej4 ej9
          exact A.retZ (v := (FI_8 p3 p4 p5 p8 p9 p10)) d4_50 (by simp only [FI_8, if_pos fd5, if_pos fd10, if_neg hD3, if_neg h11, if_neg h12, if_neg h13]; first | rfl | assumption) (by decide) (by decide) ⟨rfl, by first | rfl | (simp only [if_pos fd5, if_pos fd10, if_neg hD3, if_neg h11, if_neg h12, if_neg h13])⟩
      · refine A.aloadN (q := 32) d4_31 rfl rfl rfl ?_
        refine A.iload (q := 34) d4_32 rfl rfl ?_
        refine A.iload (q := 36) d4_34 rfl rfl ?_
        refine A.iastore (q := 37) (i := 1) (x' := p5) (L' := ((r0, .inr (.int, [(.int p2), (.int p3), (.int p4), (.int p5), (.int p6), (.int p7)])) :: (r1, .inr (.int, [(.int j4), (.int j9), (.int p5)])) :: RR)) d4_36 rfl rfl (by decide) (by show Int32.toNatClampNeg (2 : Int32) < 3; decide) rfl rfl ?_
        intro T A
        refine A.goto (r := 51) d4_37 (by decide) ?_
        exact J17_14 T _ (by simp only [if_neg h11, if_pos h12]) (by exact (Or.inr (Or.inr ⟨h11, h12⟩))) A
   refine A.iload (q := 19) d4_17 rfl rfl ?_
   refine A.iconst (q := 20) (v := (-1 : Int32)) d4_19 rfl (by decide) ?_
   refine A.icmp_eq (q := 23) (r := 51) d4_20 rfl (by decide) (fun h6 => ?_) (fun h6 => ?_)
   · exact J17_9 T _ (by simp only [if_pos h6]) (by exact (Or.inl h6)) A
   · refine A.aloadN (q := 24) d4_23 rfl rfl rfl ?_
     refine A.iload (q := 26) d4_24 rfl rfl ?_
     refine A.iaload (q := 27) (i := 1) (v := (.int p9)) d4_26 rfl rfl (by decide) rfl ?_
     refine A.iconst (q := 28) (v := (-1 : Int32)) d4_27 rfl (by decide) ?_
     refine A.icmp_ne (q := 31) (r := 40) d4_28 rfl (by decide) (fun h7 => ?_) (fun h7 => ?_)
     · refine A.aloadN (q := 41) d4_40 rfl rfl rfl ?_
       refine A.iload (q := 43) d4_41 rfl rfl ?_
       refine A.iaload (q := 44) (i := 1) (v := (.int p9)) d4_43 rfl rfl (by decide) rfl ?_
       refine A.iload (q := 46) d4_44 rfl rfl ?_
       refine A.icmp_eq (q := 49) (r := 51) d4_46 rfl (by decide) (fun h8 => ?_) (fun h8 => ?_)
       · exact J17_9 T _ (by simp only [if_neg h6, if_neg h7, if_pos h8]) (by exact (Or.inr (Or.inl ⟨h6, h7, h8⟩))) A
       · refine A.iconst (q := 50) (v := (0 : Int32)) d4_49 rfl (by decide) ?_
         have hD2 : ¬ ((p4 = (-1 : Int32)) ∨ (¬ (p4 = (-1 : Int32)) ∧ ¬ (p9 = (-1 : Int32)) ∧ p9 = p4) ∨ (¬ (p4 = (-1 : Int32)) ∧ p9 = (-1 : Int32))) := by first | (simp only [eq_false h6, eq_false h7, eq_false h8, not_true_eq_false, not_false_eq_true, true_and, and_true, false_and, and_false, or_false, false_or, or_true, true_or]; done) | (simp [h6, h7, h8]; done)
         subst ej4
         exact A.retZ (v := (FI_8 p3 p4 p5 p8 p9 p10)) d4_50 (by simp only [FI_8, if_pos fd5, if_neg hD2, if_neg h6, if_neg h7, if_neg h8]; first | rfl | assumption) (by decide) (by decide) ⟨rfl, by first | rfl | (simp only [if_pos fd5, if_neg hD2, if_neg h6, if_neg h7, if_neg h8])⟩
     · refine A.aloadN (q := 32) d4_31 rfl rfl rfl ?_
       refine A.iload (q := 34) d4_32 rfl rfl ?_
       refine A.iload (q := 36) d4_34 rfl rfl ?_
       refine A.iastore (q := 37) (i := 1) (x' := p4) (L' := ((r0, .inr (.int, [(.int p2), (.int p3), (.int p4), (.int p5), (.int p6), (.int p7)])) :: (r1, .inr (.int, [(.int j4), (.int p4), (.int p10)])) :: RR)) d4_36 rfl rfl (by decide) (by show Int32.toNatClampNeg (1 : Int32) < 3; decide) rfl rfl ?_
       intro T A
       refine A.goto (r := 51) d4_37 (by decide) ?_
       exact J17_9 T _ (by simp only [if_neg h6, if_pos h7]) (by exact (Or.inr (Or.inr ⟨h6, h7⟩))) A
  refine A.iload (q := 19) d4_17 rfl rfl ?_
  refine A.iconst (q := 20) (v := (-1 : Int32)) d4_19 rfl (by decide) ?_
  refine A.icmp_eq (q := 23) (r := 51) d4_20 rfl (by decide) (fun h1 => ?_) (fun h1 => ?_)
  · exact J17_4 T _ (by simp only [if_pos h1]) (by exact (Or.inl h1)) A
  · refine A.aloadN (q := 24) d4_23 rfl rfl rfl ?_
    refine A.iload (q := 26) d4_24 rfl rfl ?_
    refine A.iaload (q := 27) (i := 1) (v := (.int p8)) d4_26 rfl rfl (by decide) rfl ?_
    refine A.iconst (q := 28) (v := (-1 : Int32)) d4_27 rfl (by decide) ?_
    refine A.icmp_ne (q := 31) (r := 40) d4_28 rfl (by decide) (fun h2 => ?_) (fun h2 => ?_)
    · refine A.aloadN (q := 41) d4_40 rfl rfl rfl ?_
      refine A.iload (q := 43) d4_41 rfl rfl ?_
      refine A.iaload (q := 44) (i := 1) (v := (.int p8)) d4_43 rfl rfl (by decide) rfl ?_
      refine A.iload (q := 46) d4_44 rfl rfl ?_
      refine A.icmp_eq (q := 49) (r := 51) d4_46 rfl (by decide) (fun h3 => ?_) (fun h3 => ?_)
      · exact J17_4 T _ (by simp only [if_neg h1, if_neg h2, if_pos h3]) (by exact (Or.inr (Or.inl ⟨h1, h2, h3⟩))) A
      · refine A.iconst (q := 50) (v := (0 : Int32)) d4_49 rfl (by decide) ?_
        have hD1 : ¬ ((p3 = (-1 : Int32)) ∨ (¬ (p3 = (-1 : Int32)) ∧ ¬ (p8 = (-1 : Int32)) ∧ p8 = p3) ∨ (¬ (p3 = (-1 : Int32)) ∧ p8 = (-1 : Int32))) := by first | (simp only [eq_false h1, eq_false h2, eq_false h3, not_true_eq_false, not_false_eq_true, true_and, and_true, false_and, and_false, or_false, false_or, or_true, true_or]; done) | (simp [h1, h2, h3]; done)
        exact A.retZ (v := (FI_8 p3 p4 p5 p8 p9 p10)) d4_50 (by simp only [FI_8, if_neg hD1, if_neg h1, if_neg h2, if_neg h3]; first | rfl | assumption) (by decide) (by decide) ⟨rfl, by first | rfl | (simp only [if_neg hD1, if_neg h1, if_neg h2, if_neg h3])⟩
    · refine A.aloadN (q := 32) d4_31 rfl rfl rfl ?_
      refine A.iload (q := 34) d4_32 rfl rfl ?_
      refine A.iload (q := 36) d4_34 rfl rfl ?_
      refine A.iastore (q := 37) (i := 1) (x' := p3) (L' := ((r0, .inr (.int, [(.int p2), (.int p3), (.int p4), (.int p5), (.int p6), (.int p7)])) :: (r1, .inr (.int, [(.int p3), (.int p9), (.int p10)])) :: RR)) d4_36 rfl rfl (by decide) (by show Int32.toNatClampNeg (0 : Int32) < 3; decide) rfl rfl ?_
      intro T A
      refine A.goto (r := 51) d4_37 (by decide) ?_
      exact J17_4 T _ (by simp only [if_neg h1, if_pos h2]) (by exact (Or.inr (Or.inr ⟨h1, h2⟩))) A
set_option maxRecDepth 65536 in
set_option maxHeartbeats 8000000 in
theorem rmI_9 (l : Launch) (Z : State) (a0 : Array Value) (hw : ∀ d ∈ tables_1, d.before a0 Z = true) (n0 : Nat) (r0 : Addr) (r1 : Addr) (p2 : Int32) (p3 : Int32) (p4 : Int32) (p5 : Int32) (p6 : Int32) (p7 : Int32) (p8 : Int32) (p9 : Int32) (p10 : Int32) (RR : Obs) :
    Triple l Z n0 (⟨"com/example/triplemill/triplemill/engine/RowBuffer", "mergeInto", "([III[I)Z"⟩ : MethodName) prog_59_method_15_code 6 (some .boolean) ({ frames := 0, cells := 0, slots := 0, locals := 0 } : Room) 0 0 [(.ref r0), (.int (2 : Int32)), (.int (0 : Int32)), (.ref r1)] ((r0, .inr (.int, [(.int p2), (.int p3), (.int p4), (.int p5), (.int p6), (.int p7)])) :: (r1, .inr (.int, [(.int p8), (.int p9), (.int p10)])) :: RR) (fun v L' => v = some (.int (1 : Int32)) ∧ L' = ((r0, .inr (.int, [(.int p2), (.int p3), (.int p4), (.int p5), (.int p6), (.int p7)])) :: (r1, .inr (.int, [(.int p8), (.int p9), (.int p10)])) :: RR)) := by
  refine Triple.of_body (tbl := tables_1) (a0 := a0) (Ls := #[.val (.ref r0), .val (.int (2 : Int32)), .val (.int (0 : Int32)), .val (.ref r1), .unset, .unset]) pn_4 hw rfl ?_
  intro p e s m below meth c T A
  refine A.iconst (q := 1) (v := (0 : Int32)) d4_0 rfl (by decide) ?_
  refine A.istore (q := 3) (l' := #[.val (.ref r0), .val (.int (2 : Int32)), .val (.int (0 : Int32)), .val (.ref r1), .val (.int (0 : Int32)), .unset]) d4_1 rfl rfl ?_
  refine A.iload (q := 5) d4_3 rfl rfl ?_
  refine A.iloadN (q := 6) d4_5 rfl rfl ?_
  refine A.icmpT (r := 57) d4_6 (by decide) (by decide) ?_
  refine A.iconst (q := 58) (v := (1 : Int32)) d4_57 rfl (by decide) ?_
  exact A.retZ (v := (1 : Int32)) d4_58 (by decide) (by decide) (by decide) ⟨rfl, rfl⟩
def FI_10 (p4 : Int32) (p8 : Int32) : Int32 := (if (p4 = (-1 : Int32)) ∨ (¬ (p4 = (-1 : Int32)) ∧ ¬ (p8 = (-1 : Int32)) ∧ p8 = p4) ∨ (¬ (p4 = (-1 : Int32)) ∧ p8 = (-1 : Int32)) then (1 : Int32) else (0 : Int32))
set_option maxRecDepth 65536 in
set_option maxHeartbeats 8000000 in
theorem rmI_10 (l : Launch) (Z : State) (a0 : Array Value) (hw : ∀ d ∈ tables_1, d.before a0 Z = true) (n0 : Nat) (r0 : Addr) (r1 : Addr) (p2 : Int32) (p3 : Int32) (p4 : Int32) (p5 : Int32) (p6 : Int32) (p7 : Int32) (p8 : Int32) (p9 : Int32) (p10 : Int32) (RR : Obs) :
    Triple l Z n0 (⟨"com/example/triplemill/triplemill/engine/RowBuffer", "mergeInto", "([III[I)Z"⟩ : MethodName) prog_59_method_15_code 6 (some .boolean) ({ frames := 0, cells := 0, slots := 0, locals := 0 } : Room) 0 0 [(.ref r0), (.int (2 : Int32)), (.int (1 : Int32)), (.ref r1)] ((r0, .inr (.int, [(.int p2), (.int p3), (.int p4), (.int p5), (.int p6), (.int p7)])) :: (r1, .inr (.int, [(.int p8), (.int p9), (.int p10)])) :: RR) (fun v L' => v = some (.int (FI_10 p4 p8)) ∧ L' = ((r0, .inr (.int, [(.int p2), (.int p3), (.int p4), (.int p5), (.int p6), (.int p7)])) :: (r1, .inr (.int, [(.int (if (p4 = (-1 : Int32)) ∨ (¬ (p4 = (-1 : Int32)) ∧ ¬ (p8 = (-1 : Int32)) ∧ p8 = p4) ∨ (¬ (p4 = (-1 : Int32)) ∧ p8 = (-1 : Int32)) then ((if p4 = (-1 : Int32) then p8 else (if p8 = (-1 : Int32) then p4 else p8))) else p8)), (.int p9), (.int p10)])) :: RR)) := by
  refine Triple.of_body (tbl := tables_1) (a0 := a0) (Ls := #[.val (.ref r0), .val (.int (2 : Int32)), .val (.int (1 : Int32)), .val (.ref r1), .unset, .unset]) pn_4 hw rfl ?_
  intro p e s m below meth c T A
  refine A.iconst (q := 1) (v := (0 : Int32)) d4_0 rfl (by decide) ?_
  refine A.istore (q := 3) (l' := #[.val (.ref r0), .val (.int (2 : Int32)), .val (.int (1 : Int32)), .val (.ref r1), .val (.int (0 : Int32)), .unset]) d4_1 rfl rfl ?_
  refine A.iload (q := 5) d4_3 rfl rfl ?_
  refine A.iloadN (q := 6) d4_5 rfl rfl ?_
  refine A.icmpF (q := 9) d4_6 rfl (by decide) ?_
  refine A.aloadN (q := 10) d4_9 rfl rfl rfl ?_
  refine A.iloadN (q := 11) d4_10 rfl rfl ?_
  refine A.iload (q := 13) d4_11 rfl rfl ?_
  refine A.iadd (q := 14) (v := (2 : Int32)) d4_13 rfl (by decide) ?_
  refine A.iaload (q := 15) (i := 0) (v := (.int p4)) d4_14 rfl rfl (by decide) rfl ?_
  refine A.istore (q := 17) (l' := #[.val (.ref r0), .val (.int (2 : Int32)), .val (.int (1 : Int32)), .val (.ref r1), .val (.int (0 : Int32)), .val (.int p4)]) d4_15 rfl rfl ?_
  have J17_4 : ∀ (T : State) (j4 : Int32), j4 = (if p4 = (-1 : Int32) then p8 else (if p8 = (-1 : Int32) then p4 else p8)) → ((p4 = (-1 : Int32)) ∨ (¬ (p4 = (-1 : Int32)) ∧ ¬ (p8 = (-1 : Int32)) ∧ p8 = p4) ∨ (¬ (p4 = (-1 : Int32)) ∧ p8 = (-1 : Int32))) → Here p l e ({ frames := 0, cells := 0, slots := 0, locals := 0 } : Room) s m ([(.ref r0), (.int (2 : Int32)), (.int (1 : Int32)), (.ref r1)] : List Value).toArray below meth c Z a0 tables_1 (⟨"com/example/triplemill/triplemill/engine/RowBuffer", "mergeInto", "([III[I)Z"⟩ : MethodName).cls (⟨"com/example/triplemill/triplemill/engine/RowBuffer", "mergeInto", "([III[I)Z"⟩ : MethodName).name prog_59_method_15_code 6 (some .boolean) n0 T ((r0, .inr (.int, [(.int p2), (.int p3), (.int p4), (.int p5), (.int p6), (.int p7)])) :: (r1, .inr (.int, [(.int j4), (.int p9), (.int p10)])) :: RR) 0 0 → Go p e below (EndS below s n0 Z 0 0 (fun v L' => v = some (.int (FI_10 p4 p8)) ∧ L' = ((r0, .inr (.int, [(.int p2), (.int p3), (.int p4), (.int p5), (.int p6), (.int p7)])) :: (r1, .inr (.int, [(.int (if (p4 = (-1 : Int32)) ∨ (¬ (p4 = (-1 : Int32)) ∧ ¬ (p8 = (-1 : Int32)) ∧ p8 = p4) ∨ (¬ (p4 = (-1 : Int32)) ∧ p8 = (-1 : Int32)) then ((if p4 = (-1 : Int32) then p8 else (if p8 = (-1 : Int32) then p4 else p8))) else p8)), (.int p9), (.int p10)])) :: RR))) (T.setTop (mkF m 51 #[.val (.ref r0), .val (.int (2 : Int32)), .val (.int (1 : Int32)), .val (.ref r1), .val (.int (0 : Int32)), .val (.int p4)] [])) := by
   intro T j4 ej4 fd5 A
   refine A.iinc (q := 54) (v := (1 : Int32)) (l' := #[.val (.ref r0), .val (.int (2 : Int32)), .val (.int (1 : Int32)), .val (.ref r1), .val (.int (1 : Int32)), .val (.int p4)]) d4_51 rfl rfl (by decide) rfl ?_
   refine A.goto (r := 3) d4_54 (by decide) ?_
   refine A.iload (q := 5) d4_3 rfl rfl ?_
   refine A.iloadN (q := 6) d4_5 rfl rfl ?_
   refine A.icmpT (r := 57) d4_6 (by decide) (by decide) ?_
   refine A.iconst (q := 58) (v := (1 : Int32)) d4_57 rfl (by decide) ?_
   subst ej4
   exact A.retZ (v := (FI_10 p4 p8)) d4_58 (by simp only [FI_10, if_pos fd5]; first | rfl | assumption) (by decide) (by decide) ⟨rfl, by first | rfl | (simp only [if_pos fd5])⟩
  refine A.iload (q := 19) d4_17 rfl rfl ?_
  refine A.iconst (q := 20) (v := (-1 : Int32)) d4_19 rfl (by decide) ?_
  refine A.icmp_eq (q := 23) (r := 51) d4_20 rfl (by decide) (fun h1 => ?_) (fun h1 => ?_)
  · exact J17_4 T _ (by simp only [if_pos h1]) (by exact (Or.inl h1)) A
  · refine A.aloadN (q := 24) d4_23 rfl rfl rfl ?_
    refine A.iload (q := 26) d4_24 rfl rfl ?_
    refine A.iaload (q := 27) (i := 1) (v := (.int p8)) d4_26 rfl rfl (by decide) rfl ?_
    refine A.iconst (q := 28) (v := (-1 : Int32)) d4_27 rfl (by decide) ?_
    refine A.icmp_ne (q := 31) (r := 40) d4_28 rfl (by decide) (fun h2 => ?_) (fun h2 => ?_)
    · refine A.aloadN (q := 41) d4_40 rfl rfl rfl ?_
      refine A.iload (q := 43) d4_41 rfl rfl ?_
      refine A.iaload (q := 44) (i := 1) (v := (.int p8)) d4_43 rfl rfl (by decide) rfl ?_
      refine A.iload (q := 46) d4_44 rfl rfl ?_
      refine A.icmp_eq (q := 49) (r := 51) d4_46 rfl (by decide) (fun h3 => ?_) (fun h3 => ?_)
      · exact J17_4 T _ (by simp only [if_neg h1, if_neg h2, if_pos h3]) (by exact (Or.inr (Or.inl ⟨h1, h2, h3⟩))) A
      · refine A.iconst (q := 50) (v := (0 : Int32)) d4_49 rfl (by decide) ?_
        have hD1 : ¬ ((p4 = (-1 : Int32)) ∨ (¬ (p4 = (-1 : Int32)) ∧ ¬ (p8 = (-1 : Int32)) ∧ p8 = p4) ∨ (¬ (p4 = (-1 : Int32)) ∧ p8 = (-1 : Int32))) := by first | (simp only [eq_false h1, eq_false h2, eq_false h3, not_true_eq_false, not_false_eq_true, true_and, and_true, false_and, and_false, or_false, false_or, or_true, true_or]; done) | (simp [h1, h2, h3]; done)
        exact A.retZ (v := (FI_10 p4 p8)) d4_50 (by simp only [FI_10, if_neg hD1, if_neg h1, if_neg h2, if_neg h3]; first | rfl | assumption) (by decide) (by decide) ⟨rfl, by first | rfl | (simp only [if_neg hD1, if_neg h1, if_neg h2, if_neg h3])⟩
    · refine A.aloadN (q := 32) d4_31 rfl rfl rfl ?_
      refine A.iload (q := 34) d4_32 rfl rfl ?_
      refine A.iload (q := 36) d4_34 rfl rfl ?_
      refine A.iastore (q := 37) (i := 1) (x' := p4) (L' := ((r0, .inr (.int, [(.int p2), (.int p3), (.int p4), (.int p5), (.int p6), (.int p7)])) :: (r1, .inr (.int, [(.int p4), (.int p9), (.int p10)])) :: RR)) d4_36 rfl rfl (by decide) (by show Int32.toNatClampNeg (0 : Int32) < 3; decide) rfl rfl ?_
      intro T A
      refine A.goto (r := 51) d4_37 (by decide) ?_
      exact J17_4 T _ (by simp only [if_neg h1, if_pos h2]) (by exact (Or.inr (Or.inr ⟨h1, h2⟩))) A
def FI_11 (p4 : Int32) (p5 : Int32) (p8 : Int32) (p9 : Int32) : Int32 := (if (p4 = (-1 : Int32)) ∨ (¬ (p4 = (-1 : Int32)) ∧ ¬ (p8 = (-1 : Int32)) ∧ p8 = p4) ∨ (¬ (p4 = (-1 : Int32)) ∧ p8 = (-1 : Int32)) then (if (p5 = (-1 : Int32)) ∨ (¬ (p5 = (-1 : Int32)) ∧ ¬ (p9 = (-1 : Int32)) ∧ p9 = p5) ∨ (¬ (p5 = (-1 : Int32)) ∧ p9 = (-1 : Int32)) then (1 : Int32) else (0 : Int32)) else (0 : Int32))
set_option maxRecDepth 65536 in
set_option maxHeartbeats 8000000 in
theorem rmI_11 (l : Launch) (Z : State) (a0 : Array Value) (hw : ∀ d ∈ tables_1, d.before a0 Z = true) (n0 : Nat) (r0 : Addr) (r1 : Addr) (p2 : Int32) (p3 : Int32) (p4 : Int32) (p5 : Int32) (p6 : Int32) (p7 : Int32) (p8 : Int32) (p9 : Int32) (p10 : Int32) (RR : Obs) :
    Triple l Z n0 (⟨"com/example/triplemill/triplemill/engine/RowBuffer", "mergeInto", "([III[I)Z"⟩ : MethodName) prog_59_method_15_code 6 (some .boolean) ({ frames := 0, cells := 0, slots := 0, locals := 0 } : Room) 0 0 [(.ref r0), (.int (2 : Int32)), (.int (2 : Int32)), (.ref r1)] ((r0, .inr (.int, [(.int p2), (.int p3), (.int p4), (.int p5), (.int p6), (.int p7)])) :: (r1, .inr (.int, [(.int p8), (.int p9), (.int p10)])) :: RR) (fun v L' => v = some (.int (FI_11 p4 p5 p8 p9)) ∧ L' = ((r0, .inr (.int, [(.int p2), (.int p3), (.int p4), (.int p5), (.int p6), (.int p7)])) :: (r1, .inr (.int, [(.int (if (p4 = (-1 : Int32)) ∨ (¬ (p4 = (-1 : Int32)) ∧ ¬ (p8 = (-1 : Int32)) ∧ p8 = p4) ∨ (¬ (p4 = (-1 : Int32)) ∧ p8 = (-1 : Int32)) then ((if p4 = (-1 : Int32) then p8 else (if p8 = (-1 : Int32) then p4 else p8))) else p8)), (.int (if (p4 = (-1 : Int32)) ∨ (¬ (p4 = (-1 : Int32)) ∧ ¬ (p8 = (-1 : Int32)) ∧ p8 = p4) ∨ (¬ (p4 = (-1 : Int32)) ∧ p8 = (-1 : Int32)) then (if (p5 = (-1 : Int32)) ∨ (¬ (p5 = (-1 : Int32)) ∧ ¬ (p9 = (-1 : Int32)) ∧ p9 = p5) ∨ (¬ (p5 = (-1 : Int32)) ∧ p9 = (-1 : Int32)) then ((if p5 = (-1 : Int32) then p9 else (if p9 = (-1 : Int32) then p5 else p9))) else p9) else p9)), (.int p10)])) :: RR)) := by
  refine Triple.of_body (tbl := tables_1) (a0 := a0) (Ls := #[.val (.ref r0), .val (.int (2 : Int32)), .val (.int (2 : Int32)), .val (.ref r1), .unset, .unset]) pn_4 hw rfl ?_
  intro p e s m below meth c T A
  refine A.iconst (q := 1) (v := (0 : Int32)) d4_0 rfl (by decide) ?_
  refine A.istore (q := 3) (l' := #[.val (.ref r0), .val (.int (2 : Int32)), .val (.int (2 : Int32)), .val (.ref r1), .val (.int (0 : Int32)), .unset]) d4_1 rfl rfl ?_
  refine A.iload (q := 5) d4_3 rfl rfl ?_
  refine A.iloadN (q := 6) d4_5 rfl rfl ?_
  refine A.icmpF (q := 9) d4_6 rfl (by decide) ?_
  refine A.aloadN (q := 10) d4_9 rfl rfl rfl ?_
  refine A.iloadN (q := 11) d4_10 rfl rfl ?_
  refine A.iload (q := 13) d4_11 rfl rfl ?_
  refine A.iadd (q := 14) (v := (2 : Int32)) d4_13 rfl (by decide) ?_
  refine A.iaload (q := 15) (i := 0) (v := (.int p4)) d4_14 rfl rfl (by decide) rfl ?_
  refine A.istore (q := 17) (l' := #[.val (.ref r0), .val (.int (2 : Int32)), .val (.int (2 : Int32)), .val (.ref r1), .val (.int (0 : Int32)), .val (.int p4)]) d4_15 rfl rfl ?_
  have J17_4 : ∀ (T : State) (j4 : Int32), j4 = (if p4 = (-1 : Int32) then p8 else (if p8 = (-1 : Int32) then p4 else p8)) → ((p4 = (-1 : Int32)) ∨ (¬ (p4 = (-1 : Int32)) ∧ ¬ (p8 = (-1 : Int32)) ∧ p8 = p4) ∨ (¬ (p4 = (-1 : Int32)) ∧ p8 = (-1 : Int32))) → Here p l e ({ frames := 0, cells := 0, slots := 0, locals := 0 } : Room) s m ([(.ref r0), (.int (2 : Int32)), (.int (2 : Int32)), (.ref r1)] : List Value).toArray below meth c Z a0 tables_1 (⟨"com/example/triplemill/triplemill/engine/RowBuffer", "mergeInto", "([III[I)Z"⟩ : MethodName).cls (⟨"com/example/triplemill/triplemill/engine/RowBuffer", "mergeInto", "([III[I)Z"⟩ : MethodName).name prog_59_method_15_code 6 (some .boolean) n0 T ((r0, .inr (.int, [(.int p2), (.int p3), (.int p4), (.int p5), (.int p6), (.int p7)])) :: (r1, .inr (.int, [(.int j4), (.int p9), (.int p10)])) :: RR) 0 0 → Go p e below (EndS below s n0 Z 0 0 (fun v L' => v = some (.int (FI_11 p4 p5 p8 p9)) ∧ L' = ((r0, .inr (.int, [(.int p2), (.int p3), (.int p4), (.int p5), (.int p6), (.int p7)])) :: (r1, .inr (.int, [(.int (if (p4 = (-1 : Int32)) ∨ (¬ (p4 = (-1 : Int32)) ∧ ¬ (p8 = (-1 : Int32)) ∧ p8 = p4) ∨ (¬ (p4 = (-1 : Int32)) ∧ p8 = (-1 : Int32)) then ((if p4 = (-1 : Int32) then p8 else (if p8 = (-1 : Int32) then p4 else p8))) else p8)), (.int (if (p4 = (-1 : Int32)) ∨ (¬ (p4 = (-1 : Int32)) ∧ ¬ (p8 = (-1 : Int32)) ∧ p8 = p4) ∨ (¬ (p4 = (-1 : Int32)) ∧ p8 = (-1 : Int32)) then (if (p5 = (-1 : Int32)) ∨ (¬ (p5 = (-1 : Int32)) ∧ ¬ (p9 = (-1 : Int32)) ∧ p9 = p5) ∨ (¬ (p5 = (-1 : Int32)) ∧ p9 = (-1 : Int32)) then ((if p5 = (-1 : Int32) then p9 else (if p9 = (-1 : Int32) then p5 else p9))) else p9) else p9)), (.int p10)])) :: RR))) (T.setTop (mkF m 51 #[.val (.ref r0), .val (.int (2 : Int32)), .val (.int (2 : Int32)), .val (.ref r1), .val (.int (0 : Int32)), .val (.int p4)] [])) := by
   intro T j4 ej4 fd5 A
   refine A.iinc (q := 54) (v := (1 : Int32)) (l' := #[.val (.ref r0), .val (.int (2 : Int32)), .val (.int (2 : Int32)), .val (.ref r1), .val (.int (1 : Int32)), .val (.int p4)]) d4_51 rfl rfl (by decide) rfl ?_
   refine A.goto (r := 3) d4_54 (by decide) ?_
   refine A.iload (q := 5) d4_3 rfl rfl ?_
   refine A.iloadN (q := 6) d4_5 rfl rfl ?_
   refine A.icmpF (q := 9) d4_6 rfl (by decide) ?_
   refine A.aloadN (q := 10) d4_9 rfl rfl rfl ?_
   refine A.iloadN (q := 11) d4_10 rfl rfl ?_
   refine A.iload (q := 13) d4_11 rfl rfl ?_
   refine A.iadd (q := 14) (v := (3 : Int32)) d4_13 rfl (by decide) ?_
   refine A.iaload (q := 15) (i := 0) (v := (.int p5)) d4_14 rfl rfl (by decide) rfl ?_
   refine A.istore (q := 17) (l' := #[.val (.ref r0), .val (.int (2 : Int32)), .val (.int (2 : Int32)), .val (.ref r1), .val (.int (1 : Int32)), .val (.int p5)]) d4_15 rfl rfl ?_
   have J17_9 : ∀ (T : State) (j9 : Int32), j9 = (if p5 = (-1 : Int32) then p9 else (if p9 = (-1 : Int32) then p5 else p9)) → ((p5 = (-1 : Int32)) ∨ (¬ (p5 = (-1 : Int32)) ∧ ¬ (p9 = (-1 : Int32)) ∧ p9 = p5) ∨ (¬ (p5 = (-1 : Int32)) ∧ p9 = (-1 : Int32))) → Here p l e ({ frames := 0, cells := 0, slots := 0, locals := 0 } : Room) s m ([(.ref r0), (.int (2 : Int32)), (.int (2 : Int32)), (.ref r1)] : List Value).toArray below meth c Z a0 tables_1 (⟨"com/example/triplemill/triplemill/engine/RowBuffer", "mergeInto", "([III[I)Z"⟩ : MethodName).cls (⟨"com/example/triplemill/triplemill/engine/RowBuffer", "mergeInto", "([III[I)Z"⟩ : MethodName).name prog_59_method_15_code 6 (some .boolean) n0 T ((r0, .inr (.int, [(.int p2), (.int p3), (.int p4), (.int p5), (.int p6), (.int p7)])) :: (r1, .inr (.int, [(.int j4), (.int j9), (.int p10)])) :: RR) 0 0 → Go p e below (EndS below s n0 Z 0 0 (fun v L' => v = some (.int (FI_11 p4 p5 p8 p9)) ∧ L' = ((r0, .inr (.int, [(.int p2), (.int p3), (.int p4), (.int p5), (.int p6), (.int p7)])) :: (r1, .inr (.int, [(.int (if (p4 = (-1 : Int32)) ∨ (¬ (p4 = (-1 : Int32)) ∧ ¬ (p8 = (-1 : Int32)) ∧ p8 = p4) ∨ (¬ (p4 = (-1 : Int32)) ∧ p8 = (-1 : Int32)) then ((if p4 = (-1 : Int32) then p8 else (if p8 = (-1 : Int32) then p4 else p8))) else p8)), (.int (if (p4 = (-1 : Int32)) ∨ (¬ (p4 = (-1 : Int32)) ∧ ¬ (p8 = (-1 : Int32)) ∧ p8 = p4) ∨ (¬ (p4 = (-1 : Int32)) ∧ p8 = (-1 : Int32)) then (if (p5 = (-1 : Int32)) ∨ (¬ (p5 = (-1 : Int32)) ∧ ¬ (p9 = (-1 : Int32)) ∧ p9 = p5) ∨ (¬ (p5 = (-1 : Int32)) ∧ p9 = (-1 : Int32)) then ((if p5 = (-1 : Int32) then p9 else (if p9 = (-1 : Int32) then p5 else p9))) else p9) else p9)), (.int p10)])) :: RR))) (T.setTop (mkF m 51 #[.val (.ref r0), .val (.int (2 : Int32)), .val (.int (2 : Int32)), .val (.ref r1), .val (.int (1 : Int32)), .val (.int p5)] [])) := by
    intro T j9 ej9 fd10 A
    refine A.iinc (q := 54) (v := (2 : Int32)) (l' := #[.val (.ref r0), .val (.int (2 : Int32)), .val (.int (2 : Int32)), .val (.ref r1), .val (.int (2 : Int32)), .val (.int p5)]) d4_51 rfl rfl (by decide) rfl ?_
    refine A.goto (r := 3) d4_54 (by decide) ?_
    refine A.iload (q := 5) d4_3 rfl rfl ?_
    refine A.iloadN (q := 6) d4_5 rfl rfl ?_
    refine A.icmpT (r := 57) d4_6 (by decide) (by decide) ?_
    refine A.iconst (q := 58) (v := (1 : Int32)) d4_57 rfl (by decide) ?_
    subst ej4 ej9
    exact A.retZ (v := (FI_11 p4 p5 p8 p9)) d4_58 (by simp only [FI_11, if_pos fd5, if_pos fd10]; first | rfl | assumption) (by decide) (by decide) ⟨rfl, by first | rfl | (simp only [if_pos fd5, if_pos fd10])⟩
   refine A.iload (q := 19) d4_17 rfl rfl ?_
   refine A.iconst (q := 20) (v := (-1 : Int32)) d4_19 rfl (by decide) ?_
   refine A.icmp_eq (q := 23) (r := 51) d4_20 rfl (by decide) (fun h6 => ?_) (fun h6 => ?_)
   · exact J17_9 T _ (by simp only [if_pos h6]) (by exact (Or.inl h6)) A
   · refine A.aloadN (q := 24) d4_23 rfl rfl rfl ?_
     refine A.iload (q := 26) d4_24 rfl rfl ?_
     refine A.iaload (q := 27) (i := 1) (v := (.int p9)) d4_26 rfl rfl (by decide) rfl ?_
     refine A.iconst (q := 28) (v := (-1 : Int32)) d4_27 rfl (by decide) ?_
     refine A.icmp_ne (q := 31) (r := 40) d4_28 rfl (by decide) (fun h7 => ?_) (fun h7 => ?_)
     · refine A.aloadN (q := 41) d4_40 rfl rfl rfl ?_
       refine A.iload (q := 43) d4_41 rfl rfl ?_
       refine A.iaload (q := 44) (i := 1) (v := (.int p9)) d4_43 rfl rfl (by decide) rfl ?_
       refine A.iload (q := 46) d4_44 rfl rfl ?_
       refine A.icmp_eq (q := 49) (r := 51) d4_46 rfl (by decide) (fun h8 => ?_) (fun h8 => ?_)
       · exact J17_9 T _ (by simp only [if_neg h6, if_neg h7, if_pos h8]) (by exact (Or.inr (Or.inl ⟨h6, h7, h8⟩))) A
       · refine A.iconst (q := 50) (v := (0 : Int32)) d4_49 rfl (by decide) ?_
         have hD2 : ¬ ((p5 = (-1 : Int32)) ∨ (¬ (p5 = (-1 : Int32)) ∧ ¬ (p9 = (-1 : Int32)) ∧ p9 = p5) ∨ (¬ (p5 = (-1 : Int32)) ∧ p9 = (-1 : Int32))) := by first | (simp only [eq_false h6, eq_false h7, eq_false h8, not_true_eq_false, not_false_eq_true, true_and, and_true, false_and, and_false, or_false, false_or, or_true, true_or]; done) | (simp [h6, h7, h8]; done)
         subst ej4
         exact A.retZ (v := (FI_11 p4 p5 p8 p9)) d4_50 (by simp only [FI_11, if_pos fd5, if_neg hD2, if_neg h6, if_neg h7, if_neg h8]; first | rfl | assumption) (by decide) (by decide) ⟨rfl, by first | rfl | (simp only [if_pos fd5, if_neg hD2, if_neg h6, if_neg h7, if_neg h8])⟩
     · refine A.aloadN (q := 32) d4_31 rfl rfl rfl ?_
       refine A.iload (q := 34) d4_32 rfl rfl ?_
       refine A.iload (q := 36) d4_34 rfl rfl ?_
       refine A.iastore (q := 37) (i := 1) (x' := p5) (L' := ((r0, .inr (.int, [(.int p2), (.int p3), (.int p4), (.int p5), (.int p6), (.int p7)])) :: (r1, .inr (.int, [(.int j4), (.int p5), (.int p10)])) :: RR)) d4_36 rfl rfl (by decide) (by show Int32.toNatClampNeg (1 : Int32) < 3; decide) rfl rfl ?_
       intro T A
       refine A.goto (r := 51) d4_37 (by decide) ?_
       exact J17_9 T _ (by simp only [if_neg h6, if_pos h7]) (by exact (Or.inr (Or.inr ⟨h6, h7⟩))) A
  refine A.iload (q := 19) d4_17 rfl rfl ?_
  refine A.iconst (q := 20) (v := (-1 : Int32)) d4_19 rfl (by decide) ?_
  refine A.icmp_eq (q := 23) (r := 51) d4_20 rfl (by decide) (fun h1 => ?_) (fun h1 => ?_)
  · exact J17_4 T _ (by simp only [if_pos h1]) (by exact (Or.inl h1)) A
  · refine A.aloadN (q := 24) d4_23 rfl rfl rfl ?_
    refine A.iload (q := 26) d4_24 rfl rfl ?_
    refine A.iaload (q := 27) (i := 1) (v := (.int p8)) d4_26 rfl rfl (by decide) rfl ?_
    refine A.iconst (q := 28) (v := (-1 : Int32)) d4_27 rfl (by decide) ?_
    refine A.icmp_ne (q := 31) (r := 40) d4_28 rfl (by decide) (fun h2 => ?_) (fun h2 => ?_)
    · refine A.aloadN (q := 41) d4_40 rfl rfl rfl ?_
      refine A.iload (q := 43) d4_41 rfl rfl ?_
      refine A.iaload (q := 44) (i := 1) (v := (.int p8)) d4_43 rfl rfl (by decide) rfl ?_
      refine A.iload (q := 46) d4_44 rfl rfl ?_
      refine A.icmp_eq (q := 49) (r := 51) d4_46 rfl (by decide) (fun h3 => ?_) (fun h3 => ?_)
      · exact J17_4 T _ (by simp only [if_neg h1, if_neg h2, if_pos h3]) (by exact (Or.inr (Or.inl ⟨h1, h2, h3⟩))) A
      · refine A.iconst (q := 50) (v := (0 : Int32)) d4_49 rfl (by decide) ?_
        have hD1 : ¬ ((p4 = (-1 : Int32)) ∨ (¬ (p4 = (-1 : Int32)) ∧ ¬ (p8 = (-1 : Int32)) ∧ p8 = p4) ∨ (¬ (p4 = (-1 : Int32)) ∧ p8 = (-1 : Int32))) := by first | (simp only [eq_false h1, eq_false h2, eq_false h3, not_true_eq_false, not_false_eq_true, true_and, and_true, false_and, and_false, or_false, false_or, or_true, true_or]; done) | (simp [h1, h2, h3]; done)
        exact A.retZ (v := (FI_11 p4 p5 p8 p9)) d4_50 (by simp only [FI_11, if_neg hD1, if_neg h1, if_neg h2, if_neg h3]; first | rfl | assumption) (by decide) (by decide) ⟨rfl, by first | rfl | (simp only [if_neg hD1, if_neg h1, if_neg h2, if_neg h3])⟩
    · refine A.aloadN (q := 32) d4_31 rfl rfl rfl ?_
      refine A.iload (q := 34) d4_32 rfl rfl ?_
      refine A.iload (q := 36) d4_34 rfl rfl ?_
      refine A.iastore (q := 37) (i := 1) (x' := p4) (L' := ((r0, .inr (.int, [(.int p2), (.int p3), (.int p4), (.int p5), (.int p6), (.int p7)])) :: (r1, .inr (.int, [(.int p4), (.int p9), (.int p10)])) :: RR)) d4_36 rfl rfl (by decide) (by show Int32.toNatClampNeg (0 : Int32) < 3; decide) rfl rfl ?_
      intro T A
      refine A.goto (r := 51) d4_37 (by decide) ?_
      exact J17_4 T _ (by simp only [if_neg h1, if_pos h2]) (by exact (Or.inr (Or.inr ⟨h1, h2⟩))) A
def FI_12 (p4 : Int32) (p5 : Int32) (p6 : Int32) (p8 : Int32) (p9 : Int32) (p10 : Int32) : Int32 := (if (p4 = (-1 : Int32)) ∨ (¬ (p4 = (-1 : Int32)) ∧ ¬ (p8 = (-1 : Int32)) ∧ p8 = p4) ∨ (¬ (p4 = (-1 : Int32)) ∧ p8 = (-1 : Int32)) then (if (p5 = (-1 : Int32)) ∨ (¬ (p5 = (-1 : Int32)) ∧ ¬ (p9 = (-1 : Int32)) ∧ p9 = p5) ∨ (¬ (p5 = (-1 : Int32)) ∧ p9 = (-1 : Int32)) then (if (p6 = (-1 : Int32)) ∨ (¬ (p6 = (-1 : Int32)) ∧ ¬ (p10 = (-1 : Int32)) ∧ p10 = p6) ∨ (¬ (p6 = (-1 : Int32)) ∧ p10 = (-1 : Int32)) then (1 : Int32) else (0 : Int32)) else (0 : Int32)) else (0 : Int32))
set_option maxRecDepth 65536 in
set_option maxHeartbeats 8000000 in
theorem rmI_12 (l : Launch) (Z : State) (a0 : Array Value) (hw : ∀ d ∈ tables_1, d.before a0 Z = true) (n0 : Nat) (r0 : Addr) (r1 : Addr) (p2 : Int32) (p3 : Int32) (p4 : Int32) (p5 : Int32) (p6 : Int32) (p7 : Int32) (p8 : Int32) (p9 : Int32) (p10 : Int32) (RR : Obs) :
    Triple l Z n0 (⟨"com/example/triplemill/triplemill/engine/RowBuffer", "mergeInto", "([III[I)Z"⟩ : MethodName) prog_59_method_15_code 6 (some .boolean) ({ frames := 0, cells := 0, slots := 0, locals := 0 } : Room) 0 0 [(.ref r0), (.int (2 : Int32)), (.int (3 : Int32)), (.ref r1)] ((r0, .inr (.int, [(.int p2), (.int p3), (.int p4), (.int p5), (.int p6), (.int p7)])) :: (r1, .inr (.int, [(.int p8), (.int p9), (.int p10)])) :: RR) (fun v L' => v = some (.int (FI_12 p4 p5 p6 p8 p9 p10)) ∧ L' = ((r0, .inr (.int, [(.int p2), (.int p3), (.int p4), (.int p5), (.int p6), (.int p7)])) :: (r1, .inr (.int, [(.int (if (p4 = (-1 : Int32)) ∨ (¬ (p4 = (-1 : Int32)) ∧ ¬ (p8 = (-1 : Int32)) ∧ p8 = p4) ∨ (¬ (p4 = (-1 : Int32)) ∧ p8 = (-1 : Int32)) then ((if p4 = (-1 : Int32) then p8 else (if p8 = (-1 : Int32) then p4 else p8))) else p8)), (.int (if (p4 = (-1 : Int32)) ∨ (¬ (p4 = (-1 : Int32)) ∧ ¬ (p8 = (-1 : Int32)) ∧ p8 = p4) ∨ (¬ (p4 = (-1 : Int32)) ∧ p8 = (-1 : Int32)) then (if (p5 = (-1 : Int32)) ∨ (¬ (p5 = (-1 : Int32)) ∧ ¬ (p9 = (-1 : Int32)) ∧ p9 = p5) ∨ (¬ (p5 = (-1 : Int32)) ∧ p9 = (-1 : Int32)) then ((if p5 = (-1 : Int32) then p9 else (if p9 = (-1 : Int32) then p5 else p9))) else p9) else p9)), (.int (if (p4 = (-1 : Int32)) ∨ (¬ (p4 = (-1 : Int32)) ∧ ¬ (p8 = (-1 : Int32)) ∧ p8 = p4) ∨ (¬ (p4 = (-1 : Int32)) ∧ p8 = (-1 : Int32)) then (if (p5 = (-1 : Int32)) ∨ (¬ (p5 = (-1 : Int32)) ∧ ¬ (p9 = (-1 : Int32)) ∧ p9 = p5) ∨ (¬ (p5 = (-1 : Int32)) ∧ p9 = (-1 : Int32)) then (if (p6 = (-1 : Int32)) ∨ (¬ (p6 = (-1 : Int32)) ∧ ¬ (p10 = (-1 : Int32)) ∧ p10 = p6) ∨ (¬ (p6 = (-1 : Int32)) ∧ p10 = (-1 : Int32)) then ((if p6 = (-1 : Int32) then p10 else (if p10 = (-1 : Int32) then p6 else p10))) else p10) else p10) else p10))])) :: RR)) := by
  refine Triple.of_body (tbl := tables_1) (a0 := a0) (Ls := #[.val (.ref r0), .val (.int (2 : Int32)), .val (.int (3 : Int32)), .val (.ref r1), .unset, .unset]) pn_4 hw rfl ?_
  intro p e s m below meth c T A
  refine A.iconst (q := 1) (v := (0 : Int32)) d4_0 rfl (by decide) ?_
  refine A.istore (q := 3) (l' := #[.val (.ref r0), .val (.int (2 : Int32)), .val (.int (3 : Int32)), .val (.ref r1), .val (.int (0 : Int32)), .unset]) d4_1 rfl rfl ?_
  refine A.iload (q := 5) d4_3 rfl rfl ?_
  refine A.iloadN (q := 6) d4_5 rfl rfl ?_
  refine A.icmpF (q := 9) d4_6 rfl (by decide) ?_
  refine A.aloadN (q := 10) d4_9 rfl rfl rfl ?_
  refine A.iloadN (q := 11) d4_10 rfl rfl ?_
  refine A.iload (q := 13) d4_11 rfl rfl ?_
  refine A.iadd (q := 14) (v := (2 : Int32)) d4_13 rfl (by decide) ?_
  refine A.iaload (q := 15) (i := 0) (v := (.int p4)) d4_14 rfl rfl (by decide) rfl ?_
  refine A.istore (q := 17) (l' := #[.val (.ref r0), .val (.int (2 : Int32)), .val (.int (3 : Int32)), .val (.ref r1), .val (.int (0 : Int32)), .val (.int p4)]) d4_15 rfl rfl ?_
  have J17_4 : ∀ (T : State) (j4 : Int32), j4 = (if p4 = (-1 : Int32) then p8 else (if p8 = (-1 : Int32) then p4 else p8)) → ((p4 = (-1 : Int32)) ∨ (¬ (p4 = (-1 : Int32)) ∧ ¬ (p8 = (-1 : Int32)) ∧ p8 = p4) ∨ (¬ (p4 = (-1 : Int32)) ∧ p8 = (-1 : Int32))) → Here p l e ({ frames := 0, cells := 0, slots := 0, locals := 0 } : Room) s m ([(.ref r0), (.int (2 : Int32)), (.int (3 : Int32)), (.ref r1)] : List Value).toArray below meth c Z a0 tables_1 (⟨"com/example/triplemill/triplemill/engine/RowBuffer", "mergeInto", "([III[I)Z"⟩ : MethodName).cls (⟨"com/example/triplemill/triplemill/engine/RowBuffer", "mergeInto", "([III[I)Z"⟩ : MethodName).name prog_59_method_15_code 6 (some .boolean) n0 T ((r0, .inr (.int, [(.int p2), (.int p3), (.int p4), (.int p5), (.int p6), (.int p7)])) :: (r1, .inr (.int, [(.int j4), (.int p9), (.int p10)])) :: RR) 0 0 → Go p e below (EndS below s n0 Z 0 0 (fun v L' => v = some (.int (FI_12 p4 p5 p6 p8 p9 p10)) ∧ L' = ((r0, .inr (.int, [(.int p2), (.int p3), (.int p4), (.int p5), (.int p6), (.int p7)])) :: (r1, .inr (.int, [(.int (if (p4 = (-1 : Int32)) ∨ (¬ (p4 = (-1 : Int32)) ∧ ¬ (p8 = (-1 : Int32)) ∧ p8 = p4) ∨ (¬ (p4 = (-1 : Int32)) ∧ p8 = (-1 : Int32)) then ((if p4 = (-1 : Int32) then p8 else (if p8 = (-1 : Int32) then p4 else p8))) else p8)), (.int (if (p4 = (-1 : Int32)) ∨ (¬ (p4 = (-1 : Int32)) ∧ ¬ (p8 = (-1 : Int32)) ∧ p8 = p4) ∨ (¬ (p4 = (-1 : Int32)) ∧ p8 = (-1 : Int32)) then (if (p5 = (-1 : Int32)) ∨ (¬ (p5 = (-1 : Int32)) ∧ ¬ (p9 = (-1 : Int32)) ∧ p9 = p5) ∨ (¬ (p5 = (-1 : Int32)) ∧ p9 = (-1 : Int32)) then ((if p5 = (-1 : Int32) then p9 else (if p9 = (-1 : Int32) then p5 else p9))) else p9) else p9)), (.int (if (p4 = (-1 : Int32)) ∨ (¬ (p4 = (-1 : Int32)) ∧ ¬ (p8 = (-1 : Int32)) ∧ p8 = p4) ∨ (¬ (p4 = (-1 : Int32)) ∧ p8 = (-1 : Int32)) then (if (p5 = (-1 : Int32)) ∨ (¬ (p5 = (-1 : Int32)) ∧ ¬ (p9 = (-1 : Int32)) ∧ p9 = p5) ∨ (¬ (p5 = (-1 : Int32)) ∧ p9 = (-1 : Int32)) then (if (p6 = (-1 : Int32)) ∨ (¬ (p6 = (-1 : Int32)) ∧ ¬ (p10 = (-1 : Int32)) ∧ p10 = p6) ∨ (¬ (p6 = (-1 : Int32)) ∧ p10 = (-1 : Int32)) then ((if p6 = (-1 : Int32) then p10 else (if p10 = (-1 : Int32) then p6 else p10))) else p10) else p10) else p10))])) :: RR))) (T.setTop (mkF m 51 #[.val (.ref r0), .val (.int (2 : Int32)), .val (.int (3 : Int32)), .val (.ref r1), .val (.int (0 : Int32)), .val (.int p4)] [])) := by
   intro T j4 ej4 fd5 A
   refine A.iinc (q := 54) (v := (1 : Int32)) (l' := #[.val (.ref r0), .val (.int (2 : Int32)), .val (.int (3 : Int32)), .val (.ref r1), .val (.int (1 : Int32)), .val (.int p4)]) d4_51 rfl rfl (by decide) rfl ?_
   refine A.goto (r := 3) d4_54 (by decide) ?_
   refine A.iload (q := 5) d4_3 rfl rfl ?_
   refine A.iloadN (q := 6) d4_5 rfl rfl ?_
   refine A.icmpF (q := 9) d4_6 rfl (by decide) ?_
   refine A.aloadN (q := 10) d4_9 rfl rfl rfl ?_
   refine A.iloadN (q := 11) d4_10 rfl rfl ?_
   refine A.iload (q := 13) d4_11 rfl rfl ?_
   refine A.iadd (q := 14) (v := (3 : Int32)) d4_13 rfl (by decide) ?_
   refine A.iaload (q := 15) (i := 0) (v := (.int p5)) d4_14 rfl rfl (by decide) rfl ?_
   refine A.istore (q := 17) (l' := #[.val (.ref r0), .val (.int (2 : Int32)), .val (.int (3 : Int32)), .val (.ref r1), .val (.int (1 : Int32)), .val (.int p5)]) d4_15 rfl rfl ?_
   have J17_9 : ∀ (T : State) (j9 : Int32), j9 = (if p5 = (-1 : Int32) then p9 else (if p9 = (-1 : Int32) then p5 else p9)) → ((p5 = (-1 : Int32)) ∨ (¬ (p5 = (-1 : Int32)) ∧ ¬ (p9 = (-1 : Int32)) ∧ p9 = p5) ∨ (¬ (p5 = (-1 : Int32)) ∧ p9 = (-1 : Int32))) → Here p l e ({ frames := 0, cells := 0, slots := 0, locals := 0 } : Room) s m ([(.ref r0), (.int (2 : Int32)), (.int (3 : Int32)), (.ref r1)] : List Value).toArray below meth c Z a0 tables_1 (⟨"com/example/triplemill/triplemill/engine/RowBuffer", "mergeInto", "([III[I)Z"⟩ : MethodName).cls (⟨"com/example/triplemill/triplemill/engine/RowBuffer", "mergeInto", "([III[I)Z"⟩ : MethodName).name prog_59_method_15_code 6 (some .boolean) n0 T ((r0, .inr (.int, [(.int p2), (.int p3), (.int p4), (.int p5), (.int p6), (.int p7)])) :: (r1, .inr (.int, [(.int j4), (.int j9), (.int p10)])) :: RR) 0 0 → Go p e below (EndS below s n0 Z 0 0 (fun v L' => v = some (.int (FI_12 p4 p5 p6 p8 p9 p10)) ∧ L' = ((r0, .inr (.int, [(.int p2), (.int p3), (.int p4), (.int p5), (.int p6), (.int p7)])) :: (r1, .inr (.int, [(.int (if (p4 = (-1 : Int32)) ∨ (¬ (p4 = (-1 : Int32)) ∧ ¬ (p8 = (-1 : Int32)) ∧ p8 = p4) ∨ (¬ (p4 = (-1 : Int32)) ∧ p8 = (-1 : Int32)) then ((if p4 = (-1 : Int32) then p8 else (if p8 = (-1 : Int32) then p4 else p8))) else p8)), (.int (if (p4 = (-1 : Int32)) ∨ (¬ (p4 = (-1 : Int32)) ∧ ¬ (p8 = (-1 : Int32)) ∧ p8 = p4) ∨ (¬ (p4 = (-1 : Int32)) ∧ p8 = (-1 : Int32)) then (if (p5 = (-1 : Int32)) ∨ (¬ (p5 = (-1 : Int32)) ∧ ¬ (p9 = (-1 : Int32)) ∧ p9 = p5) ∨ (¬ (p5 = (-1 : Int32)) ∧ p9 = (-1 : Int32)) then ((if p5 = (-1 : Int32) then p9 else (if p9 = (-1 : Int32) then p5 else p9))) else p9) else p9)), (.int (if (p4 = (-1 : Int32)) ∨ (¬ (p4 = (-1 : Int32)) ∧ ¬ (p8 = (-1 : Int32)) ∧ p8 = p4) ∨ (¬ (p4 = (-1 : Int32)) ∧ p8 = (-1 : Int32)) then (if (p5 = (-1 : Int32)) ∨ (¬ (p5 = (-1 : Int32)) ∧ ¬ (p9 = (-1 : Int32)) ∧ p9 = p5) ∨ (¬ (p5 = (-1 : Int32)) ∧ p9 = (-1 : Int32)) then (if (p6 = (-1 : Int32)) ∨ (¬ (p6 = (-1 : Int32)) ∧ ¬ (p10 = (-1 : Int32)) ∧ p10 = p6) ∨ (¬ (p6 = (-1 : Int32)) ∧ p10 = (-1 : Int32)) then ((if p6 = (-1 : Int32) then p10 else (if p10 = (-1 : Int32) then p6 else p10))) else p10) else p10) else p10))])) :: RR))) (T.setTop (mkF m 51 #[.val (.ref r0), .val (.int (2 : Int32)), .val (.int (3 : Int32)), .val (.ref r1), .val (.int (1 : Int32)), .val (.int p5)] [])) := by
    intro T j9 ej9 fd10 A
    refine A.iinc (q := 54) (v := (2 : Int32)) (l' := #[.val (.ref r0), .val (.int (2 : Int32)), .val (.int (3 : Int32)), .val (.ref r1), .val (.int (2 : Int32)), .val (.int p5)]) d4_51 rfl rfl (by decide) rfl ?_
    refine A.goto (r := 3) d4_54 (by decide) ?_
    refine A.iload (q := 5) d4_3 rfl rfl ?_
    refine A.iloadN (q := 6) d4_5 rfl rfl ?_
    refine A.icmpF (q := 9) d4_6 rfl (by decide) ?_
    refine A.aloadN (q := 10) d4_9 rfl rfl rfl ?_
    refine A.iloadN (q := 11) d4_10 rfl rfl ?_
    refine A.iload (q := 13) d4_11 rfl rfl ?_
    refine A.iadd (q := 14) (v := (4 : Int32)) d4_13 rfl (by decide) ?_
    refine A.iaload (q := 15) (i := 0) (v := (.int p6)) d4_14 rfl rfl (by decide) rfl ?_
    refine A.istore (q := 17) (l' := #[.val (.ref r0), .val (.int (2 : Int32)), .val (.int (3 : Int32)), .val (.ref r1), .val (.int (2 : Int32)), .val (.int p6)]) d4_15 rfl rfl ?_
    have J17_14 : ∀ (T : State) (j14 : Int32), j14 = (if p6 = (-1 : Int32) then p10 else (if p10 = (-1 : Int32) then p6 else p10)) → ((p6 = (-1 : Int32)) ∨ (¬ (p6 = (-1 : Int32)) ∧ ¬ (p10 = (-1 : Int32)) ∧ p10 = p6) ∨ (¬ (p6 = (-1 : Int32)) ∧ p10 = (-1 : Int32))) → Here p l e ({ frames := 0, cells := 0, slots := 0, locals := 0 } : Room) s m ([(.ref r0), (.int (2 : Int32)), (.int (3 : Int32)), (.ref r1)] : List Value).toArray below meth c Z a0 tables_1 (⟨"com/example/triplemill/triplemill/engine/RowBuffer", "mergeInto", "([III[I)Z"⟩ : MethodName).cls (⟨"com/example/triplemill/triplemill/engine/RowBuffer", "mergeInto", "([III[I)Z"⟩ : MethodName).name prog_59_method_15_code 6 (some .boolean) n0 T ((r0, .inr (.int, [(.int p2), (.int p3), (.int p4), (.int p5), (.int p6), (.int p7)])) :: (r1, .inr (.int, [(.int j4), (.int j9), (.int j14)])) :: RR) 0 0 → Go p e below (EndS below s n0 Z 0 0 (fun v L' => v = some (.int (FI_12 p4 p5 p6 p8 p9 p10)) ∧ L' = ((r0, .inr (.int, [(.int p2), (.int p3), (.int p4), (.int p5), (.int p6), (.int p7)])) :: (r1, .inr (.int, [(.int (if (p4 = (-1 : Int32)) ∨ (¬ (p4 = (-1 : Int32)) ∧ ¬ (p8 = (-1 : Int32)) ∧ p8 = p4) ∨ (¬ (p4 = (-1 : Int32)) ∧ p8 = (-1 : Int32)) then ((if p4 = (-1 : Int32) then p8 else (if p8 = (-1 : Int32) then p4 else p8))) else p8)), (.int (if (p4 = (-1 : Int32)) ∨ (¬ (p4 = (-1 : Int32)) ∧ ¬ (p8 = (-1 : Int32)) ∧ p8 = p4) ∨ (¬ (p4 = (-1 : Int32)) ∧ p8 = (-1 : Int32)) then (if (p5 = (-1 : Int32)) ∨ (¬ (p5 = (-1 : Int32)) ∧ ¬ (p9 = (-1 : Int32)) ∧ p9 = p5) ∨ (¬ (p5 = (-1 : Int32)) ∧ p9 = (-1 : Int32)) then ((if p5 = (-1 : Int32) then p9 else (if p9 = (-1 : Int32) then p5 else p9))) else p9) else p9)), (.int (if (p4 = (-1 : Int32)) ∨ (¬ (p4 = (-1 : Int32)) ∧ ¬ (p8 = (-1 : Int32)) ∧ p8 = p4) ∨ (¬ (p4 = (-1 : Int32)) ∧ p8 = (-1 : Int32)) then (if (p5 = (-1 : Int32)) ∨ (¬ (p5 = (-1 : Int32)) ∧ ¬ (p9 = (-1 : Int32)) ∧ p9 = p5) ∨ (¬ (p5 = (-1 : Int32)) ∧ p9 = (-1 : Int32)) then (if (p6 = (-1 : Int32)) ∨ (¬ (p6 = (-1 : Int32)) ∧ ¬ (p10 = (-1 : Int32)) ∧ p10 = p6) ∨ (¬ (p6 = (-1 : Int32)) ∧ p10 = (-1 : Int32)) then ((if p6 = (-1 : Int32) then p10 else (if p10 = (-1 : Int32) then p6 else p10))) else p10) else p10) else p10))])) :: RR))) (T.setTop (mkF m 51 #[.val (.ref r0), .val (.int (2 : Int32)), .val (.int (3 : Int32)), .val (.ref r1), .val (.int (2 : Int32)), .val (.int p6)] [])) := by
     intro T j14 ej14 fd15 A
     refine A.iinc (q := 54) (v := (3 : Int32)) (l' := #[.val (.ref r0), .val (.int (2 : Int32)), .val (.int (3 : Int32)), .val (.ref r1), .val (.int (3 : Int32)), .val (.int p6)]) d4_51 rfl rfl (by decide) rfl ?_
     refine A.goto (r := 3) d4_54 (by decide) ?_
     refine A.iload (q := 5) d4_3 rfl rfl ?_
     refine A.iloadN (q := 6) d4_5 rfl rfl ?_
     refine A.icmpT (r := 57) d4_6 (by decide) (by decide) ?_
     refine A.iconst (q := 58) (v := (1 : Int32)) d4_57 rfl (by decide) ?_
     subst ej4 ej9 ej14
     exact A.retZ (v := (FI_12 p4 p5 p6 p8 p9 p10)) d4_58 (by simp only [FI_12, if_pos fd5, if_pos fd10, if_pos fd15]; first | rfl | assumption) (by decide) (by decide) ⟨rfl, by first | rfl | (simp only [if_pos fd5, if_pos fd10, if_pos fd15])⟩
    refine A.iload (q := 19) d4_17 rfl rfl ?_
    refine A.iconst (q := 20) (v := (-1 : Int32)) d4_19 rfl (by decide) ?_
    refine A.icmp_eq (q := 23) (r := 51) d4_20 rfl (by decide) (fun h11 => ?_) (fun h11 => ?_)
    · exact J17_14 T _ (by simp only [if_pos h11]) (by exact (Or.inl h11)) A
    · refine A.aloadN (q := 24) d4_23 rfl rfl rfl ?_
      refine A.iload (q := 26) d4_24 rfl rfl ?_
      refine A.iaload (q := 27) (i := 1) (v := (.int p10)) d4_26 rfl rfl (by decide) rfl ?_
      refine A.iconst (q := 28) (v := (-1 : Int32)) d4_27 rfl (by decide) ?_
      refine A.icmp_ne (q := 31) (r := 40) d4_28 rfl (by decide) (fun h12 => ?_) (fun h12 => ?_)
      · refine A.aloadN (q := 41) d4_40 rfl rfl rfl ?_
        refine A.iload (q := 43) d4_41 rfl rfl ?_
        refine A.iaload (q := 44) (i := 1) (v := (.int p10)) d4_43 rfl rfl (by decide) rfl ?_
        refine A.iload (q := 46) d4_44 rfl rfl ?_
        refine A.icmp_eq (q := 49) (r := 51) d4_46 rfl (by decide) (fun h13 => ?_) (fun h13 => ?_)
        · exact J17_14 T _ (by simp only [if_neg h11, if_neg h12, if_pos h13]) (by exact (Or.inr (Or.inl ⟨h11, h12, h13⟩))) A
        · refine A.iconst (q := 50) (v := (0 : Int32)) d4_49 rfl (by decide) ?_
          have hD3 : ¬ ((p6 = (-1 : Int32)) ∨ (¬ (p6 = (-1 : Int32)) ∧ ¬ (p10 = (-1 : Int32)) ∧ p10 = p6) ∨ (¬ (p6 = (-1 : Int32)) ∧ p10 = (-1 : Int32))) := by first | (simp only [eq_false h11, eq_false h12, eq_false h13, not_true_eq_false, not_false_eq_true, true_and, and_true, false_and, and_false, or_false, false_or, or_true, true_or]; done) | (simp [h11, h12, h13]; done)
          subst ej4 ej9
          exact A.retZ (v := (FI_12 p4 p5 p6 p8 p9 p10)) d4_50 (by simp only [FI_12, if_pos fd5, if_pos fd10, if_neg hD3, if_neg h11, if_neg h12, if_neg h13]; first | rfl | assumption) (by decide) (by decide) ⟨rfl, by first | rfl | (simp only [if_pos fd5, if_pos fd10, if_neg hD3, if_neg h11, if_neg h12, if_neg h13])⟩
      · refine A.aloadN (q := 32) d4_31 rfl rfl rfl ?_
        refine A.iload (q := 34) d4_32 rfl rfl ?_
        refine A.iload (q := 36) d4_34 rfl rfl ?_
        refine A.iastore (q := 37) (i := 1) (x' := p6) (L' := ((r0, .inr (.int, [(.int p2), (.int p3), (.int p4), (.int p5), (.int p6), (.int p7)])) :: (r1, .inr (.int, [(.int j4), (.int j9), (.int p6)])) :: RR)) d4_36 rfl rfl (by decide) (by show Int32.toNatClampNeg (2 : Int32) < 3; decide) rfl rfl ?_
        intro T A
        refine A.goto (r := 51) d4_37 (by decide) ?_
        exact J17_14 T _ (by simp only [if_neg h11, if_pos h12]) (by exact (Or.inr (Or.inr ⟨h11, h12⟩))) A
   refine A.iload (q := 19) d4_17 rfl rfl ?_
   refine A.iconst (q := 20) (v := (-1 : Int32)) d4_19 rfl (by decide) ?_
   refine A.icmp_eq (q := 23) (r := 51) d4_20 rfl (by decide) (fun h6 => ?_) (fun h6 => ?_)
   · exact J17_9 T _ (by simp only [if_pos h6]) (by exact (Or.inl h6)) A
   · refine A.aloadN (q := 24) d4_23 rfl rfl rfl ?_
     refine A.iload (q := 26) d4_24 rfl rfl ?_
     refine A.iaload (q := 27) (i := 1) (v := (.int p9)) d4_26 rfl rfl (by decide) rfl ?_
     refine A.iconst (q := 28) (v := (-1 : Int32)) d4_27 rfl (by decide) ?_
     refine A.icmp_ne (q := 31) (r := 40) d4_28 rfl (by decide) (fun h7 => ?_) (fun h7 => ?_)
     · refine A.aloadN (q := 41) d4_40 rfl rfl rfl ?_
       refine A.iload (q := 43) d4_41 rfl rfl ?_
       refine A.iaload (q := 44) (i := 1) (v := (.int p9)) d4_43 rfl rfl (by decide) rfl ?_
       refine A.iload (q := 46) d4_44 rfl rfl ?_
       refine A.icmp_eq (q := 49) (r := 51) d4_46 rfl (by decide) (fun h8 => ?_) (fun h8 => ?_)
       · exact J17_9 T _ (by simp only [if_neg h6, if_neg h7, if_pos h8]) (by exact (Or.inr (Or.inl ⟨h6, h7, h8⟩))) A
       · refine A.iconst (q := 50) (v := (0 : Int32)) d4_49 rfl (by decide) ?_
         have hD2 : ¬ ((p5 = (-1 : Int32)) ∨ (¬ (p5 = (-1 : Int32)) ∧ ¬ (p9 = (-1 : Int32)) ∧ p9 = p5) ∨ (¬ (p5 = (-1 : Int32)) ∧ p9 = (-1 : Int32))) := by first | (simp only [eq_false h6, eq_false h7, eq_false h8, not_true_eq_false, not_false_eq_true, true_and, and_true, false_and, and_false, or_false, false_or, or_true, true_or]; done) | (simp [h6, h7, h8]; done)
         subst ej4
         exact A.retZ (v := (FI_12 p4 p5 p6 p8 p9 p10)) d4_50 (by simp only [FI_12, if_pos fd5, if_neg hD2, if_neg h6, if_neg h7, if_neg h8]; first | rfl | assumption) (by decide) (by decide) ⟨rfl, by first | rfl | (simp only [if_pos fd5, if_neg hD2, if_neg h6, if_neg h7, if_neg h8])⟩
     · refine A.aloadN (q := 32) d4_31 rfl rfl rfl ?_
       refine A.iload (q := 34) d4_32 rfl rfl ?_
       refine A.iload (q := 36) d4_34 rfl rfl ?_
       refine A.iastore (q := 37) (i := 1) (x' := p5) (L' := ((r0, .inr (.int, [(.int p2), (.int p3), (.int p4), (.int p5), (.int p6), (.int p7)])) :: (r1, .inr (.int, [(.int j4), (.int p5), (.int p10)])) :: RR)) d4_36 rfl rfl (by decide) (by show Int32.toNatClampNeg (1 : Int32) < 3; decide) rfl rfl ?_
       intro T A
       refine A.goto (r := 51) d4_37 (by decide) ?_
       exact J17_9 T _ (by simp only [if_neg h6, if_pos h7]) (by exact (Or.inr (Or.inr ⟨h6, h7⟩))) A
  refine A.iload (q := 19) d4_17 rfl rfl ?_
  refine A.iconst (q := 20) (v := (-1 : Int32)) d4_19 rfl (by decide) ?_
  refine A.icmp_eq (q := 23) (r := 51) d4_20 rfl (by decide) (fun h1 => ?_) (fun h1 => ?_)
  · exact J17_4 T _ (by simp only [if_pos h1]) (by exact (Or.inl h1)) A
  · refine A.aloadN (q := 24) d4_23 rfl rfl rfl ?_
    refine A.iload (q := 26) d4_24 rfl rfl ?_
    refine A.iaload (q := 27) (i := 1) (v := (.int p8)) d4_26 rfl rfl (by decide) rfl ?_
    refine A.iconst (q := 28) (v := (-1 : Int32)) d4_27 rfl (by decide) ?_
    refine A.icmp_ne (q := 31) (r := 40) d4_28 rfl (by decide) (fun h2 => ?_) (fun h2 => ?_)
    · refine A.aloadN (q := 41) d4_40 rfl rfl rfl ?_
      refine A.iload (q := 43) d4_41 rfl rfl ?_
      refine A.iaload (q := 44) (i := 1) (v := (.int p8)) d4_43 rfl rfl (by decide) rfl ?_
      refine A.iload (q := 46) d4_44 rfl rfl ?_
      refine A.icmp_eq (q := 49) (r := 51) d4_46 rfl (by decide) (fun h3 => ?_) (fun h3 => ?_)
      · exact J17_4 T _ (by simp only [if_neg h1, if_neg h2, if_pos h3]) (by exact (Or.inr (Or.inl ⟨h1, h2, h3⟩))) A
      · refine A.iconst (q := 50) (v := (0 : Int32)) d4_49 rfl (by decide) ?_
        have hD1 : ¬ ((p4 = (-1 : Int32)) ∨ (¬ (p4 = (-1 : Int32)) ∧ ¬ (p8 = (-1 : Int32)) ∧ p8 = p4) ∨ (¬ (p4 = (-1 : Int32)) ∧ p8 = (-1 : Int32))) := by first | (simp only [eq_false h1, eq_false h2, eq_false h3, not_true_eq_false, not_false_eq_true, true_and, and_true, false_and, and_false, or_false, false_or, or_true, true_or]; done) | (simp [h1, h2, h3]; done)
        exact A.retZ (v := (FI_12 p4 p5 p6 p8 p9 p10)) d4_50 (by simp only [FI_12, if_neg hD1, if_neg h1, if_neg h2, if_neg h3]; first | rfl | assumption) (by decide) (by decide) ⟨rfl, by first | rfl | (simp only [if_neg hD1, if_neg h1, if_neg h2, if_neg h3])⟩
    · refine A.aloadN (q := 32) d4_31 rfl rfl rfl ?_
      refine A.iload (q := 34) d4_32 rfl rfl ?_
      refine A.iload (q := 36) d4_34 rfl rfl ?_
      refine A.iastore (q := 37) (i := 1) (x' := p4) (L' := ((r0, .inr (.int, [(.int p2), (.int p3), (.int p4), (.int p5), (.int p6), (.int p7)])) :: (r1, .inr (.int, [(.int p4), (.int p9), (.int p10)])) :: RR)) d4_36 rfl rfl (by decide) (by show Int32.toNatClampNeg (0 : Int32) < 3; decide) rfl rfl ?_
      intro T A
      refine A.goto (r := 51) d4_37 (by decide) ?_
      exact J17_4 T _ (by simp only [if_neg h1, if_pos h2]) (by exact (Or.inr (Or.inr ⟨h1, h2⟩))) A
set_option maxRecDepth 65536 in
set_option maxHeartbeats 8000000 in
theorem rmI_13 (l : Launch) (Z : State) (a0 : Array Value) (hw : ∀ d ∈ tables_1, d.before a0 Z = true) (n0 : Nat) (r0 : Addr) (r1 : Addr) (p2 : Int32) (p3 : Int32) (p4 : Int32) (p5 : Int32) (p6 : Int32) (p7 : Int32) (p8 : Int32) (p9 : Int32) (p10 : Int32) (RR : Obs) :
    Triple l Z n0 (⟨"com/example/triplemill/triplemill/engine/RowBuffer", "mergeInto", "([III[I)Z"⟩ : MethodName) prog_59_method_15_code 6 (some .boolean) ({ frames := 0, cells := 0, slots := 0, locals := 0 } : Room) 0 0 [(.ref r0), (.int (3 : Int32)), (.int (0 : Int32)), (.ref r1)] ((r0, .inr (.int, [(.int p2), (.int p3), (.int p4), (.int p5), (.int p6), (.int p7)])) :: (r1, .inr (.int, [(.int p8), (.int p9), (.int p10)])) :: RR) (fun v L' => v = some (.int (1 : Int32)) ∧ L' = ((r0, .inr (.int, [(.int p2), (.int p3), (.int p4), (.int p5), (.int p6), (.int p7)])) :: (r1, .inr (.int, [(.int p8), (.int p9), (.int p10)])) :: RR)) := by
  refine Triple.of_body (tbl := tables_1) (a0 := a0) (Ls := #[.val (.ref r0), .val (.int (3 : Int32)), .val (.int (0 : Int32)), .val (.ref r1), .unset, .unset]) pn_4 hw rfl ?_
  intro p e s m below meth c T A
  refine A.iconst (q := 1) (v := (0 : Int32)) d4_0 rfl (by decide) ?_
  refine A.istore (q := 3) (l' := #[.val (.ref r0), .val (.int (3 : Int32)), .val (.int (0 : Int32)), .val (.ref r1), .val (.int (0 : Int32)), .unset]) d4_1 rfl rfl ?_
  refine A.iload (q := 5) d4_3 rfl rfl ?_
  refine A.iloadN (q := 6) d4_5 rfl rfl ?_
  refine A.icmpT (r := 57) d4_6 (by decide) (by decide) ?_
  refine A.iconst (q := 58) (v := (1 : Int32)) d4_57 rfl (by decide) ?_
  exact A.retZ (v := (1 : Int32)) d4_58 (by decide) (by decide) (by decide) ⟨rfl, rfl⟩
def FI_14 (p5 : Int32) (p8 : Int32) : Int32 := (if (p5 = (-1 : Int32)) ∨ (¬ (p5 = (-1 : Int32)) ∧ ¬ (p8 = (-1 : Int32)) ∧ p8 = p5) ∨ (¬ (p5 = (-1 : Int32)) ∧ p8 = (-1 : Int32)) then (1 : Int32) else (0 : Int32))
set_option maxRecDepth 65536 in
set_option maxHeartbeats 8000000 in
theorem rmI_14 (l : Launch) (Z : State) (a0 : Array Value) (hw : ∀ d ∈ tables_1, d.before a0 Z = true) (n0 : Nat) (r0 : Addr) (r1 : Addr) (p2 : Int32) (p3 : Int32) (p4 : Int32) (p5 : Int32) (p6 : Int32) (p7 : Int32) (p8 : Int32) (p9 : Int32) (p10 : Int32) (RR : Obs) :
    Triple l Z n0 (⟨"com/example/triplemill/triplemill/engine/RowBuffer", "mergeInto", "([III[I)Z"⟩ : MethodName) prog_59_method_15_code 6 (some .boolean) ({ frames := 0, cells := 0, slots := 0, locals := 0 } : Room) 0 0 [(.ref r0), (.int (3 : Int32)), (.int (1 : Int32)), (.ref r1)] ((r0, .inr (.int, [(.int p2), (.int p3), (.int p4), (.int p5), (.int p6), (.int p7)])) :: (r1, .inr (.int, [(.int p8), (.int p9), (.int p10)])) :: RR) (fun v L' => v = some (.int (FI_14 p5 p8)) ∧ L' = ((r0, .inr (.int, [(.int p2), (.int p3), (.int p4), (.int p5), (.int p6), (.int p7)])) :: (r1, .inr (.int, [(.int (if (p5 = (-1 : Int32)) ∨ (¬ (p5 = (-1 : Int32)) ∧ ¬ (p8 = (-1 : Int32)) ∧ p8 = p5) ∨ (¬ (p5 = (-1 : Int32)) ∧ p8 = (-1 : Int32)) then ((if p5 = (-1 : Int32) then p8 else (if p8 = (-1 : Int32) then p5 else p8))) else p8)), (.int p9), (.int p10)])) :: RR)) := by
  refine Triple.of_body (tbl := tables_1) (a0 := a0) (Ls := #[.val (.ref r0), .val (.int (3 : Int32)), .val (.int (1 : Int32)), .val (.ref r1), .unset, .unset]) pn_4 hw rfl ?_
  intro p e s m below meth c T A
  refine A.iconst (q := 1) (v := (0 : Int32)) d4_0 rfl (by decide) ?_
  refine A.istore (q := 3) (l' := #[.val (.ref r0), .val (.int (3 : Int32)), .val (.int (1 : Int32)), .val (.ref r1), .val (.int (0 : Int32)), .unset]) d4_1 rfl rfl ?_
  refine A.iload (q := 5) d4_3 rfl rfl ?_
  refine A.iloadN (q := 6) d4_5 rfl rfl ?_
  refine A.icmpF (q := 9) d4_6 rfl (by decide) ?_
  refine A.aloadN (q := 10) d4_9 rfl rfl rfl ?_
  refine A.iloadN (q := 11) d4_10 rfl rfl ?_
  refine A.iload (q := 13) d4_11 rfl rfl ?_
  refine A.iadd (q := 14) (v := (3 : Int32)) d4_13 rfl (by decide) ?_
  refine A.iaload (q := 15) (i := 0) (v := (.int p5)) d4_14 rfl rfl (by decide) rfl ?_
  refine A.istore (q := 17) (l' := #[.val (.ref r0), .val (.int (3 : Int32)), .val (.int (1 : Int32)), .val (.ref r1), .val (.int (0 : Int32)), .val (.int p5)]) d4_15 rfl rfl ?_
  have J17_4 : ∀ (T : State) (j4 : Int32), j4 = (if p5 = (-1 : Int32) then p8 else (if p8 = (-1 : Int32) then p5 else p8)) → ((p5 = (-1 : Int32)) ∨ (¬ (p5 = (-1 : Int32)) ∧ ¬ (p8 = (-1 : Int32)) ∧ p8 = p5) ∨ (¬ (p5 = (-1 : Int32)) ∧ p8 = (-1 : Int32))) → Here p l e ({ frames := 0, cells := 0, slots := 0, locals := 0 } : Room) s m ([(.ref r0), (.int (3 : Int32)), (.int (1 : Int32)), (.ref r1)] : List Value).toArray below meth c Z a0 tables_1 (⟨"com/example/triplemill/triplemill/engine/RowBuffer", "mergeInto", "([III[I)Z"⟩ : MethodName).cls (⟨"com/example/triplemill/triplemill/engine/RowBuffer", "mergeInto", "([III[I)Z"⟩ : MethodName).name prog_59_method_15_code 6 (some .boolean) n0 T ((r0, .inr (.int, [(.int p2), (.int p3), (.int p4), (.int p5), (.int p6), (.int p7)])) :: (r1, .inr (.int, [(.int j4), (.int p9), (.int p10)])) :: RR) 0 0 → Go p e below (EndS below s n0 Z 0 0 (fun v L' => v = some (.int (FI_14 p5 p8)) ∧ L' = ((r0, .inr (.int, [(.int p2), (.int p3), (.int p4), (.int p5), (.int p6), (.int p7)])) :: (r1, .inr (.int, [(.int (if (p5 = (-1 : Int32)) ∨ (¬ (p5 = (-1 : Int32)) ∧ ¬ (p8 = (-1 : Int32)) ∧ p8 = p5) ∨ (¬ (p5 = (-1 : Int32)) ∧ p8 = (-1 : Int32)) then ((if p5 = (-1 : Int32) then p8 else (if p8 = (-1 : Int32) then p5 else p8))) else p8)), (.int p9), (.int p10)])) :: RR))) (T.setTop (mkF m 51 #[.val (.ref r0), .val (.int (3 : Int32)), .val (.int (1 : Int32)), .val (.ref r1), .val (.int (0 : Int32)), .val (.int p5)] [])) := by
   intro T j4 ej4 fd5 A
   refine A.iinc (q := 54) (v := (1 : Int32)) (l' := #[.val (.ref r0), .val (.int (3 : Int32)), .val (.int (1 : Int32)), .val (.ref r1), .val (.int (1 : Int32)), .val (.int p5)]) d4_51 rfl rfl (by decide) rfl ?_
   refine A.goto (r := 3) d4_54 (by decide) ?_
   refine A.iload (q := 5) d4_3 rfl rfl ?_
   refine A.iloadN (q := 6) d4_5 rfl rfl ?_
   refine A.icmpT (r := 57) d4_6 (by decide) (by decide) ?_
   refine A.iconst (q := 58) (v := (1 : Int32)) d4_57 rfl (by decide) ?_
   subst ej4
   exact A.retZ (v := (FI_14 p5 p8)) d4_58 (by simp only [FI_14, if_pos fd5]; first | rfl | assumption) (by decide) (by decide) ⟨rfl, by first | rfl | (simp only [if_pos fd5])⟩
  refine A.iload (q := 19) d4_17 rfl rfl ?_
  refine A.iconst (q := 20) (v := (-1 : Int32)) d4_19 rfl (by decide) ?_
  refine A.icmp_eq (q := 23) (r := 51) d4_20 rfl (by decide) (fun h1 => ?_) (fun h1 => ?_)
  · exact J17_4 T _ (by simp only [if_pos h1]) (by exact (Or.inl h1)) A
  · refine A.aloadN (q := 24) d4_23 rfl rfl rfl ?_
    refine A.iload (q := 26) d4_24 rfl rfl ?_
    refine A.iaload (q := 27) (i := 1) (v := (.int p8)) d4_26 rfl rfl (by decide) rfl ?_
    refine A.iconst (q := 28) (v := (-1 : Int32)) d4_27 rfl (by decide) ?_
    refine A.icmp_ne (q := 31) (r := 40) d4_28 rfl (by decide) (fun h2 => ?_) (fun h2 => ?_)
    · refine A.aloadN (q := 41) d4_40 rfl rfl rfl ?_
      refine A.iload (q := 43) d4_41 rfl rfl ?_
      refine A.iaload (q := 44) (i := 1) (v := (.int p8)) d4_43 rfl rfl (by decide) rfl ?_
      refine A.iload (q := 46) d4_44 rfl rfl ?_
      refine A.icmp_eq (q := 49) (r := 51) d4_46 rfl (by decide) (fun h3 => ?_) (fun h3 => ?_)
      · exact J17_4 T _ (by simp only [if_neg h1, if_neg h2, if_pos h3]) (by exact (Or.inr (Or.inl ⟨h1, h2, h3⟩))) A
      · refine A.iconst (q := 50) (v := (0 : Int32)) d4_49 rfl (by decide) ?_
        have hD1 : ¬ ((p5 = (-1 : Int32)) ∨ (¬ (p5 = (-1 : Int32)) ∧ ¬ (p8 = (-1 : Int32)) ∧ p8 = p5) ∨ (¬ (p5 = (-1 : Int32)) ∧ p8 = (-1 : Int32))) := by first | (simp only [eq_false h1, eq_false h2, eq_false h3, not_true_eq_false, not_false_eq_true, true_and, and_true, false_and, and_false, or_false, false_or, or_true, true_or]; done) | (simp [h1, h2, h3]; done)
        exact A.retZ (v := (FI_14 p5 p8)) d4_50 (by simp only [FI_14, if_neg hD1, if_neg h1, if_neg h2, if_neg h3]; first | rfl | assumption) (by decide) (by decide) ⟨rfl, by first | rfl | (simp only [if_neg hD1, if_neg h1, if_neg h2, if_neg h3])⟩
    · refine A.aloadN (q := 32) d4_31 rfl rfl rfl ?_
      refine A.iload (q := 34) d4_32 rfl rfl ?_
      refine A.iload (q := 36) d4_34 rfl rfl ?_
      refine A.iastore (q := 37) (i := 1) (x' := p5) (L' := ((r0, .inr (.int, [(.int p2), (.int p3), (.int p4), (.int p5), (.int p6), (.int p7)])) :: (r1, .inr (.int, [(.int p5), (.int p9), (.int p10)])) :: RR)) d4_36 rfl rfl (by decide) (by show Int32.toNatClampNeg (0 : Int32) < 3; decide) rfl rfl ?_
      intro T A
      refine A.goto (r := 51) d4_37 (by decide) ?_
      exact J17_4 T _ (by simp only [if_neg h1, if_pos h2]) (by exact (Or.inr (Or.inr ⟨h1, h2⟩))) A
def FI_15 (p5 : Int32) (p6 : Int32) (p8 : Int32) (p9 : Int32) : Int32 := (if (p5 = (-1 : Int32)) ∨ (¬ (p5 = (-1 : Int32)) ∧ ¬ (p8 = (-1 : Int32)) ∧ p8 = p5) ∨ (¬ (p5 = (-1 : Int32)) ∧ p8 = (-1 : Int32)) then (if (p6 = (-1 : Int32)) ∨ (¬ (p6 = (-1 : Int32)) ∧ ¬ (p9 = (-1 : Int32)) ∧ p9 = p6) ∨ (¬ (p6 = (-1 : Int32)) ∧ p9 = (-1 : Int32)) then (1 : Int32) else (0 : Int32)) else (0 : Int32))
set_option maxRecDepth 65536 in
set_option maxHeartbeats 8000000 in
theorem rmI_15 (l : Launch) (Z : State) (a0 : Array Value) (hw : ∀ d ∈ tables_1, d.before a0 Z = true) (n0 : Nat) (r0 : Addr) (r1 : Addr) (p2 : Int32) (p3 : Int32) (p4 : Int32) (p5 : Int32) (p6 : Int32) (p7 : Int32) (p8 : Int32) (p9 : Int32) (p10 : Int32) (RR : Obs) :
    Triple l Z n0 (⟨"com/example/triplemill/triplemill/engine/RowBuffer", "mergeInto", "([III[I)Z"⟩ : MethodName) prog_59_method_15_code 6 (some .boolean) ({ frames := 0, cells := 0, slots := 0, locals := 0 } : Room) 0 0 [(.ref r0), (.int (3 : Int32)), (.int (2 : Int32)), (.ref r1)] ((r0, .inr (.int, [(.int p2), (.int p3), (.int p4), (.int p5), (.int p6), (.int p7)])) :: (r1, .inr (.int, [(.int p8), (.int p9), (.int p10)])) :: RR) (fun v L' => v = some (.int (FI_15 p5 p6 p8 p9)) ∧ L' = ((r0, .inr (.int, [(.int p2), (.int p3), (.int p4), (.int p5), (.int p6), (.int p7)])) :: (r1, .inr (.int, [(.int (if (p5 = (-1 : Int32)) ∨ (¬ (p5 = (-1 : Int32)) ∧ ¬ (p8 = (-1 : Int32)) ∧ p8 = p5) ∨ (¬ (p5 = (-1 : Int32)) ∧ p8 = (-1 : Int32)) then ((if p5 = (-1 : Int32) then p8 else (if p8 = (-1 : Int32) then p5 else p8))) else p8)), (.int (if (p5 = (-1 : Int32)) ∨ (¬ (p5 = (-1 : Int32)) ∧ ¬ (p8 = (-1 : Int32)) ∧ p8 = p5) ∨ (¬ (p5 = (-1 : Int32)) ∧ p8 = (-1 : Int32)) then (if (p6 = (-1 : Int32)) ∨ (¬ (p6 = (-1 : Int32)) ∧ ¬ (p9 = (-1 : Int32)) ∧ p9 = p6) ∨ (¬ (p6 = (-1 : Int32)) ∧ p9 = (-1 : Int32)) then ((if p6 = (-1 : Int32) then p9 else (if p9 = (-1 : Int32) then p6 else p9))) else p9) else p9)), (.int p10)])) :: RR)) := by
  refine Triple.of_body (tbl := tables_1) (a0 := a0) (Ls := #[.val (.ref r0), .val (.int (3 : Int32)), .val (.int (2 : Int32)), .val (.ref r1), .unset, .unset]) pn_4 hw rfl ?_
  intro p e s m below meth c T A
  refine A.iconst (q := 1) (v := (0 : Int32)) d4_0 rfl (by decide) ?_
  refine A.istore (q := 3) (l' := #[.val (.ref r0), .val (.int (3 : Int32)), .val (.int (2 : Int32)), .val (.ref r1), .val (.int (0 : Int32)), .unset]) d4_1 rfl rfl ?_
  refine A.iload (q := 5) d4_3 rfl rfl ?_
  refine A.iloadN (q := 6) d4_5 rfl rfl ?_
  refine A.icmpF (q := 9) d4_6 rfl (by decide) ?_
  refine A.aloadN (q := 10) d4_9 rfl rfl rfl ?_
  refine A.iloadN (q := 11) d4_10 rfl rfl ?_
  refine A.iload (q := 13) d4_11 rfl rfl ?_
  refine A.iadd (q := 14) (v := (3 : Int32)) d4_13 rfl (by decide) ?_
  refine A.iaload (q := 15) (i := 0) (v := (.int p5)) d4_14 rfl rfl (by decide) rfl ?_
  refine A.istore (q := 17) (l' := #[.val (.ref r0), .val (.int (3 : Int32)), .val (.int (2 : Int32)), .val (.ref r1), .val (.int (0 : Int32)), .val (.int p5)]) d4_15 rfl rfl ?_
  have J17_4 : ∀ (T : State) (j4 : Int32), j4 = (if p5 = (-1 : Int32) then p8 else (if p8 = (-1 : Int32) then p5 else p8)) → ((p5 = (-1 : Int32)) ∨ (¬ (p5 = (-1 : Int32)) ∧ ¬ (p8 = (-1 : Int32)) ∧ p8 = p5) ∨ (¬ (p5 = (-1 : Int32)) ∧ p8 = (-1 : Int32))) → Here p l e ({ frames := 0, cells := 0, slots := 0, locals := 0 } : Room) s m ([(.ref r0), (.int (3 : Int32)), (.int (2 : Int32)), (.ref r1)] : List Value).toArray below meth c Z a0 tables_1 (⟨"com/example/triplemill/triplemill/engine/RowBuffer", "mergeInto", "([III[I)Z"⟩ : MethodName).cls (⟨"com/example/triplemill/triplemill/engine/RowBuffer", "mergeInto", "([III[I)Z"⟩ : MethodName).name prog_59_method_15_code 6 (some .boolean) n0 T ((r0, .inr (.int, [(.int p2), (.int p3), (.int p4), (.int p5), (.int p6), (.int p7)])) :: (r1, .inr (.int, [(.int j4), (.int p9), (.int p10)])) :: RR) 0 0 → Go p e below (EndS below s n0 Z 0 0 (fun v L' => v = some (.int (FI_15 p5 p6 p8 p9)) ∧ L' = ((r0, .inr (.int, [(.int p2), (.int p3), (.int p4), (.int p5), (.int p6), (.int p7)])) :: (r1, .inr (.int, [(.int (if (p5 = (-1 : Int32)) ∨ (¬ (p5 = (-1 : Int32)) ∧ ¬ (p8 = (-1 : Int32)) ∧ p8 = p5) ∨ (¬ (p5 = (-1 : Int32)) ∧ p8 = (-1 : Int32)) then ((if p5 = (-1 : Int32) then p8 else (if p8 = (-1 : Int32) then p5 else p8))) else p8)), (.int (if (p5 = (-1 : Int32)) ∨ (¬ (p5 = (-1 : Int32)) ∧ ¬ (p8 = (-1 : Int32)) ∧ p8 = p5) ∨ (¬ (p5 = (-1 : Int32)) ∧ p8 = (-1 : Int32)) then (if (p6 = (-1 : Int32)) ∨ (¬ (p6 = (-1 : Int32)) ∧ ¬ (p9 = (-1 : Int32)) ∧ p9 = p6) ∨ (¬ (p6 = (-1 : Int32)) ∧ p9 = (-1 : Int32)) then ((if p6 = (-1 : Int32) then p9 else (if p9 = (-1 : Int32) then p6 else p9))) else p9) else p9)), (.int p10)])) :: RR))) (T.setTop (mkF m 51 #[.val (.ref r0), .val (.int (3 : Int32)), .val (.int (2 : Int32)), .val (.ref r1), .val (.int (0 : Int32)), .val (.int p5)] [])) := by
   intro T j4 ej4 fd5 A
   refine A.iinc (q := 54) (v := (1 : Int32)) (l' := #[.val (.ref r0), .val (.int (3 : Int32)), .val (.int (2 : Int32)), .val (.ref r1), .val (.int (1 : Int32)), .val (.int p5)]) d4_51 rfl rfl (by decide) rfl ?_
   refine A.goto (r := 3) d4_54 (by decide) ?_
   refine A.iload (q := 5) d4_3 rfl rfl ?_
   refine A.iloadN (q := 6) d4_5 rfl rfl ?_
   refine A.icmpF (q := 9) d4_6 rfl (by decide) ?_
   refine A.aloadN (q := 10) d4_9 rfl rfl rfl ?_
   refine A.iloadN (q := 11) d4_10 rfl rfl ?_
   refine A.iload (q := 13) d4_11 rfl rfl ?_
   refine A.iadd (q := 14) (v := (4 : Int32)) d4_13 rfl (by decide) ?_
   refine A.iaload (q := 15) (i := 0) (v := (.int p6)) d4_14 rfl rfl (by decide) rfl ?_
   refine A.istore (q := 17) (l' := #[.val (.ref r0), .val (.int (3 : Int32)), .val (.int (2 : Int32)), .val (.ref r1), .val (.int (1 : Int32)), .val (.int p6)]) d4_15 rfl rfl ?_
   have J17_9 : ∀ (T : State) (j9 : Int32), j9 = (if p6 = (-1 : Int32) then p9 else (if p9 = (-1 : Int32) then p6 else p9)) → ((p6 = (-1 : Int32)) ∨ (¬ (p6 = (-1 : Int32)) ∧ ¬ (p9 = (-1 : Int32)) ∧ p9 = p6) ∨ (¬ (p6 = (-1 : Int32)) ∧ p9 = (-1 : Int32))) → Here p l e ({ frames := 0, cells := 0, slots := 0, locals := 0 } : Room) s m ([(.ref r0), (.int (3 : Int32)), (.int (2 : Int32)), (.ref r1)] : List Value).toArray below meth c Z a0 tables_1 (⟨"com/example/triplemill/triplemill/engine/RowBuffer", "mergeInto", "([III[I)Z"⟩ : MethodName).cls (⟨"com/example/triplemill/triplemill/engine/RowBuffer", "mergeInto", "([III[I)Z"⟩ : MethodName).name prog_59_method_15_code 6 (some .boolean) n0 T ((r0, .inr (.int, [(.int p2), (.int p3), (.int p4), (.int p5), (.int p6), (.int p7)])) :: (r1, .inr (.int, [(.int j4), (.int j9), (.int p10)])) :: RR) 0 0 → Go p e below (EndS below s n0 Z 0 0 (fun v L' => v = some (.int (FI_15 p5 p6 p8 p9)) ∧ L' = ((r0, .inr (.int, [(.int p2), (.int p3), (.int p4), (.int p5), (.int p6), (.int p7)])) :: (r1, .inr (.int, [(.int (if (p5 = (-1 : Int32)) ∨ (¬ (p5 = (-1 : Int32)) ∧ ¬ (p8 = (-1 : Int32)) ∧ p8 = p5) ∨ (¬ (p5 = (-1 : Int32)) ∧ p8 = (-1 : Int32)) then ((if p5 = (-1 : Int32) then p8 else (if p8 = (-1 : Int32) then p5 else p8))) else p8)), (.int (if (p5 = (-1 : Int32)) ∨ (¬ (p5 = (-1 : Int32)) ∧ ¬ (p8 = (-1 : Int32)) ∧ p8 = p5) ∨ (¬ (p5 = (-1 : Int32)) ∧ p8 = (-1 : Int32)) then (if (p6 = (-1 : Int32)) ∨ (¬ (p6 = (-1 : Int32)) ∧ ¬ (p9 = (-1 : Int32)) ∧ p9 = p6) ∨ (¬ (p6 = (-1 : Int32)) ∧ p9 = (-1 : Int32)) then ((if p6 = (-1 : Int32) then p9 else (if p9 = (-1 : Int32) then p6 else p9))) else p9) else p9)), (.int p10)])) :: RR))) (T.setTop (mkF m 51 #[.val (.ref r0), .val (.int (3 : Int32)), .val (.int (2 : Int32)), .val (.ref r1), .val (.int (1 : Int32)), .val (.int p6)] [])) := by
    intro T j9 ej9 fd10 A
    refine A.iinc (q := 54) (v := (2 : Int32)) (l' := #[.val (.ref r0), .val (.int (3 : Int32)), .val (.int (2 : Int32)), .val (.ref r1), .val (.int (2 : Int32)), .val (.int p6)]) d4_51 rfl rfl (by decide) rfl ?_
    refine A.goto (r := 3) d4_54 (by decide) ?_
    refine A.iload (q := 5) d4_3 rfl rfl ?_
    refine A.iloadN (q := 6) d4_5 rfl rfl ?_
    refine A.icmpT (r := 57) d4_6 (by decide) (by decide) ?_
    refine A.iconst (q := 58) (v := (1 : Int32)) d4_57 rfl (by decide) ?_
    subst ej4 ej9
    exact A.retZ (v := (FI_15 p5 p6 p8 p9)) d4_58 (by simp only [FI_15, if_pos fd5, if_pos fd10]; first | rfl | assumption) (by decide) (by decide) ⟨rfl, by first | rfl | (simp only [if_pos fd5, if_pos fd10])⟩
   refine A.iload (q := 19) d4_17 rfl rfl ?_
   refine A.iconst (q := 20) (v := (-1 : Int32)) d4_19 rfl (by decide) ?_
   refine A.icmp_eq (q := 23) (r := 51) d4_20 rfl (by decide) (fun h6 => ?_) (fun h6 => ?_)
   · exact J17_9 T _ (by simp only [if_pos h6]) (by exact (Or.inl h6)) A
   · refine A.aloadN (q := 24) d4_23 rfl rfl rfl ?_
     refine A.iload (q := 26) d4_24 rfl rfl ?_
     refine A.iaload (q := 27) (i := 1) (v := (.int p9)) d4_26 rfl rfl (by decide) rfl ?_
     refine A.iconst (q := 28) (v := (-1 : Int32)) d4_27 rfl (by decide) ?_
     refine A.icmp_ne (q := 31) (r := 40) d4_28 rfl (by decide) (fun h7 => ?_) (fun h7 => ?_)
     · refine A.aloadN (q := 41) d4_40 rfl rfl rfl ?_
       refine A.iload (q := 43) d4_41 rfl rfl ?_
       refine A.iaload (q := 44) (i := 1) (v := (.int p9)) d4_43 rfl rfl (by decide) rfl ?_
       refine A.iload (q := 46) d4_44 rfl rfl ?_
       refine A.icmp_eq (q := 49) (r := 51) d4_46 rfl (by decide) (fun h8 => ?_) (fun h8 => ?_)
       · exact J17_9 T _ (by simp only [if_neg h6, if_neg h7, if_pos h8]) (by exact (Or.inr (Or.inl ⟨h6, h7, h8⟩))) A
       · refine A.iconst (q := 50) (v := (0 : Int32)) d4_49 rfl (by decide) ?_
         have hD2 : ¬ ((p6 = (-1 : Int32)) ∨ (¬ (p6 = (-1 : Int32)) ∧ ¬ (p9 = (-1 : Int32)) ∧ p9 = p6) ∨ (¬ (p6 = (-1 : Int32)) ∧ p9 = (-1 : Int32))) := by first | (simp only [eq_false h6, eq_false h7, eq_false h8, not_true_eq_false, not_false_eq_true, true_and, and_true, false_and, and_false, or_false, false_or, or_true, true_or]; done) | (simp [h6, h7, h8]; done)
         subst ej4
         exact A.retZ (v := (FI_15 p5 p6 p8 p9)) d4_50 (by simp only [FI_15, if_pos fd5, if_neg hD2, if_neg h6, if_neg h7, if_neg h8]; first | rfl | assumption) (by decide) (by decide) ⟨rfl, by first | rfl | (simp only [if_pos fd5, if_neg hD2, if_neg h6, if_neg h7, if_neg h8])⟩
     · refine A.aloadN (q := 32) d4_31 rfl rfl rfl ?_
       refine A.iload (q := 34) d4_32 rfl rfl ?_
       refine A.iload (q := 36) d4_34 rfl rfl ?_
       refine A.iastore (q := 37) (i := 1) (x' := p6) (L' := ((r0, .inr (.int, [(.int p2), (.int p3), (.int p4), (.int p5), (.int p6), (.int p7)])) :: (r1, .inr (.int, [(.int j4), (.int p6), (.int p10)])) :: RR)) d4_36 rfl rfl (by decide) (by show Int32.toNatClampNeg (1 : Int32) < 3; decide) rfl rfl ?_
       intro T A
       refine A.goto (r := 51) d4_37 (by decide) ?_
       exact J17_9 T _ (by simp only [if_neg h6, if_pos h7]) (by exact (Or.inr (Or.inr ⟨h6, h7⟩))) A
  refine A.iload (q := 19) d4_17 rfl rfl ?_
  refine A.iconst (q := 20) (v := (-1 : Int32)) d4_19 rfl (by decide) ?_
  refine A.icmp_eq (q := 23) (r := 51) d4_20 rfl (by decide) (fun h1 => ?_) (fun h1 => ?_)
  · exact J17_4 T _ (by simp only [if_pos h1]) (by exact (Or.inl h1)) A
  · refine A.aloadN (q := 24) d4_23 rfl rfl rfl ?_
    refine A.iload (q := 26) d4_24 rfl rfl ?_
    refine A.iaload (q := 27) (i := 1) (v := (.int p8)) d4_26 rfl rfl (by decide) rfl ?_
    refine A.iconst (q := 28) (v := (-1 : Int32)) d4_27 rfl (by decide) ?_
    refine A.icmp_ne (q := 31) (r := 40) d4_28 rfl (by decide) (fun h2 => ?_) (fun h2 => ?_)
    · refine A.aloadN (q := 41) d4_40 rfl rfl rfl ?_
      refine A.iload (q := 43) d4_41 rfl rfl ?_
      refine A.iaload (q := 44) (i := 1) (v := (.int p8)) d4_43 rfl rfl (by decide) rfl ?_
      refine A.iload (q := 46) d4_44 rfl rfl ?_
      refine A.icmp_eq (q := 49) (r := 51) d4_46 rfl (by decide) (fun h3 => ?_) (fun h3 => ?_)
      · exact J17_4 T _ (by simp only [if_neg h1, if_neg h2, if_pos h3]) (by exact (Or.inr (Or.inl ⟨h1, h2, h3⟩))) A
      · refine A.iconst (q := 50) (v := (0 : Int32)) d4_49 rfl (by decide) ?_
        have hD1 : ¬ ((p5 = (-1 : Int32)) ∨ (¬ (p5 = (-1 : Int32)) ∧ ¬ (p8 = (-1 : Int32)) ∧ p8 = p5) ∨ (¬ (p5 = (-1 : Int32)) ∧ p8 = (-1 : Int32))) := by first | (simp only [eq_false h1, eq_false h2, eq_false h3, not_true_eq_false, not_false_eq_true, true_and, and_true, false_and, and_false, or_false, false_or, or_true, true_or]; done) | (simp [h1, h2, h3]; done)
        exact A.retZ (v := (FI_15 p5 p6 p8 p9)) d4_50 (by simp only [FI_15, if_neg hD1, if_neg h1, if_neg h2, if_neg h3]; first | rfl | assumption) (by decide) (by decide) ⟨rfl, by first | rfl | (simp only [if_neg hD1, if_neg h1, if_neg h2, if_neg h3])⟩
    · refine A.aloadN (q := 32) d4_31 rfl rfl rfl ?_
      refine A.iload (q := 34) d4_32 rfl rfl ?_
      refine A.iload (q := 36) d4_34 rfl rfl ?_
      refine A.iastore (q := 37) (i := 1) (x' := p5) (L' := ((r0, .inr (.int, [(.int p2), (.int p3), (.int p4), (.int p5), (.int p6), (.int p7)])) :: (r1, .inr (.int, [(.int p5), (.int p9), (.int p10)])) :: RR)) d4_36 rfl rfl (by decide) (by show Int32.toNatClampNeg (0 : Int32) < 3; decide) rfl rfl ?_
      intro T A
      refine A.goto (r := 51) d4_37 (by decide) ?_
      exact J17_4 T _ (by simp only [if_neg h1, if_pos h2]) (by exact (Or.inr (Or.inr ⟨h1, h2⟩))) A
def FI_16 (p5 : Int32) (p6 : Int32) (p7 : Int32) (p8 : Int32) (p9 : Int32) (p10 : Int32) : Int32 := (if (p5 = (-1 : Int32)) ∨ (¬ (p5 = (-1 : Int32)) ∧ ¬ (p8 = (-1 : Int32)) ∧ p8 = p5) ∨ (¬ (p5 = (-1 : Int32)) ∧ p8 = (-1 : Int32)) then (if (p6 = (-1 : Int32)) ∨ (¬ (p6 = (-1 : Int32)) ∧ ¬ (p9 = (-1 : Int32)) ∧ p9 = p6) ∨ (¬ (p6 = (-1 : Int32)) ∧ p9 = (-1 : Int32)) then (if (p7 = (-1 : Int32)) ∨ (¬ (p7 = (-1 : Int32)) ∧ ¬ (p10 = (-1 : Int32)) ∧ p10 = p7) ∨ (¬ (p7 = (-1 : Int32)) ∧ p10 = (-1 : Int32)) then (1 : Int32) else (0 : Int32)) else (0 : Int32)) else (0 : Int32))
set_option maxRecDepth 65536 in
set_option maxHeartbeats 8000000 in
theorem rmI_16 (l : Launch) (Z : State) (a0 : Array Value) (hw : ∀ d ∈ tables_1, d.before a0 Z = true) (n0 : Nat) (r0 : Addr) (r1 : Addr) (p2 : Int32) (p3 : Int32) (p4 : Int32) (p5 : Int32) (p6 : Int32) (p7 : Int32) (p8 : Int32) (p9 : Int32) (p10 : Int32) (RR : Obs) :
    Triple l Z n0 (⟨"com/example/triplemill/triplemill/engine/RowBuffer", "mergeInto", "([III[I)Z"⟩ : MethodName) prog_59_method_15_code 6 (some .boolean) ({ frames := 0, cells := 0, slots := 0, locals := 0 } : Room) 0 0 [(.ref r0), (.int (3 : Int32)), (.int (3 : Int32)), (.ref r1)] ((r0, .inr (.int, [(.int p2), (.int p3), (.int p4), (.int p5), (.int p6), (.int p7)])) :: (r1, .inr (.int, [(.int p8), (.int p9), (.int p10)])) :: RR) (fun v L' => v = some (.int (FI_16 p5 p6 p7 p8 p9 p10)) ∧ L' = ((r0, .inr (.int, [(.int p2), (.int p3), (.int p4), (.int p5), (.int p6), (.int p7)])) :: (r1, .inr (.int, [(.int (if (p5 = (-1 : Int32)) ∨ (¬ (p5 = (-1 : Int32)) ∧ ¬ (p8 = (-1 : Int32)) ∧ p8 = p5) ∨ (¬ (p5 = (-1 : Int32)) ∧ p8 = (-1 : Int32)) then ((if p5 = (-1 : Int32) then p8 else (if p8 = (-1 : Int32) then p5 else p8))) else p8)), (.int (if (p5 = (-1 : Int32)) ∨ (¬ (p5 = (-1 : Int32)) ∧ ¬ (p8 = (-1 : Int32)) ∧ p8 = p5) ∨ (¬ (p5 = (-1 : Int32)) ∧ p8 = (-1 : Int32)) then (if (p6 = (-1 : Int32)) ∨ (¬ (p6 = (-1 : Int32)) ∧ ¬ (p9 = (-1 : Int32)) ∧ p9 = p6) ∨ (¬ (p6 = (-1 : Int32)) ∧ p9 = (-1 : Int32)) then ((if p6 = (-1 : Int32) then p9 else (if p9 = (-1 : Int32) then p6 else p9))) else p9) else p9)), (.int (if (p5 = (-1 : Int32)) ∨ (¬ (p5 = (-1 : Int32)) ∧ ¬ (p8 = (-1 : Int32)) ∧ p8 = p5) ∨ (¬ (p5 = (-1 : Int32)) ∧ p8 = (-1 : Int32)) then (if (p6 = (-1 : Int32)) ∨ (¬ (p6 = (-1 : Int32)) ∧ ¬ (p9 = (-1 : Int32)) ∧ p9 = p6) ∨ (¬ (p6 = (-1 : Int32)) ∧ p9 = (-1 : Int32)) then (if (p7 = (-1 : Int32)) ∨ (¬ (p7 = (-1 : Int32)) ∧ ¬ (p10 = (-1 : Int32)) ∧ p10 = p7) ∨ (¬ (p7 = (-1 : Int32)) ∧ p10 = (-1 : Int32)) then ((if p7 = (-1 : Int32) then p10 else (if p10 = (-1 : Int32) then p7 else p10))) else p10) else p10) else p10))])) :: RR)) := by
  refine Triple.of_body (tbl := tables_1) (a0 := a0) (Ls := #[.val (.ref r0), .val (.int (3 : Int32)), .val (.int (3 : Int32)), .val (.ref r1), .unset, .unset]) pn_4 hw rfl ?_
  intro p e s m below meth c T A
  refine A.iconst (q := 1) (v := (0 : Int32)) d4_0 rfl (by decide) ?_
  refine A.istore (q := 3) (l' := #[.val (.ref r0), .val (.int (3 : Int32)), .val (.int (3 : Int32)), .val (.ref r1), .val (.int (0 : Int32)), .unset]) d4_1 rfl rfl ?_
  refine A.iload (q := 5) d4_3 rfl rfl ?_
  refine A.iloadN (q := 6) d4_5 rfl rfl ?_
  refine A.icmpF (q := 9) d4_6 rfl (by decide) ?_
  refine A.aloadN (q := 10) d4_9 rfl rfl rfl ?_
  refine A.iloadN (q := 11) d4_10 rfl rfl ?_
  refine A.iload (q := 13) d4_11 rfl rfl ?_
  refine A.iadd (q := 14) (v := (3 : Int32)) d4_13 rfl (by decide) ?_
  refine A.iaload (q := 15) (i := 0) (v := (.int p5)) d4_14 rfl rfl (by decide) rfl ?_
  refine A.istore (q := 17) (l' := #[.val (.ref r0), .val (.int (3 : Int32)), .val (.int (3 : Int32)), .val (.ref r1), .val (.int (0 : Int32)), .val (.int p5)]) d4_15 rfl rfl ?_
  have J17_4 : ∀ (T : State) (j4 : Int32), j4 = (if p5 = (-1 : Int32) then p8 else (if p8 = (-1 : Int32) then p5 else p8)) → ((p5 = (-1 : Int32)) ∨ (¬ (p5 = (-1 : Int32)) ∧ ¬ (p8 = (-1 : Int32)) ∧ p8 = p5) ∨ (¬ (p5 = (-1 : Int32)) ∧ p8 = (-1 : Int32))) → Here p l e ({ frames := 0, cells := 0, slots := 0, locals := 0 } : Room) s m ([(.ref r0), (.int (3 : Int32)), (.int (3 : Int32)), (.ref r1)] : List Value).toArray below meth c Z a0 tables_1 (⟨"com/example/triplemill/triplemill/engine/RowBuffer", "mergeInto", "([III[I)Z"⟩ : MethodName).cls (⟨"com/example/triplemill/triplemill/engine/RowBuffer", "mergeInto", "([III[I)Z"⟩ : MethodName).name prog_59_method_15_code 6 (some .boolean) n0 T ((r0, .inr (.int, [(.int p2), (.int p3), (.int p4), (.int p5), (.int p6), (.int p7)])) :: (r1, .inr (.int, [(.int j4), (.int p9), (.int p10)])) :: RR) 0 0 → Go p e below (EndS below s n0 Z 0 0 (fun v L' => v = some (.int (FI_16 p5 p6 p7 p8 p9 p10)) ∧ L' = ((r0, .inr (.int, [(.int p2), (.int p3), (.int p4), (.int p5), (.int p6), (.int p7)])) :: (r1, .inr (.int, [(.int (if (p5 = (-1 : Int32)) ∨ (¬ (p5 = (-1 : Int32)) ∧ ¬ (p8 = (-1 : Int32)) ∧ p8 = p5) ∨ (¬ (p5 = (-1 : Int32)) ∧ p8 = (-1 : Int32)) then ((if p5 = (-1 : Int32) then p8 else (if p8 = (-1 : Int32) then p5 else p8))) else p8)), (.int (if (p5 = (-1 : Int32)) ∨ (¬ (p5 = (-1 : Int32)) ∧ ¬ (p8 = (-1 : Int32)) ∧ p8 = p5) ∨ (¬ (p5 = (-1 : Int32)) ∧ p8 = (-1 : Int32)) then (if (p6 = (-1 : Int32)) ∨ (¬ (p6 = (-1 : Int32)) ∧ ¬ (p9 = (-1 : Int32)) ∧ p9 = p6) ∨ (¬ (p6 = (-1 : Int32)) ∧ p9 = (-1 : Int32)) then ((if p6 = (-1 : Int32) then p9 else (if p9 = (-1 : Int32) then p6 else p9))) else p9) else p9)), (.int (if (p5 = (-1 : Int32)) ∨ (¬ (p5 = (-1 : Int32)) ∧ ¬ (p8 = (-1 : Int32)) ∧ p8 = p5) ∨ (¬ (p5 = (-1 : Int32)) ∧ p8 = (-1 : Int32)) then (if (p6 = (-1 : Int32)) ∨ (¬ (p6 = (-1 : Int32)) ∧ ¬ (p9 = (-1 : Int32)) ∧ p9 = p6) ∨ (¬ (p6 = (-1 : Int32)) ∧ p9 = (-1 : Int32)) then (if (p7 = (-1 : Int32)) ∨ (¬ (p7 = (-1 : Int32)) ∧ ¬ (p10 = (-1 : Int32)) ∧ p10 = p7) ∨ (¬ (p7 = (-1 : Int32)) ∧ p10 = (-1 : Int32)) then ((if p7 = (-1 : Int32) then p10 else (if p10 = (-1 : Int32) then p7 else p10))) else p10) else p10) else p10))])) :: RR))) (T.setTop (mkF m 51 #[.val (.ref r0), .val (.int (3 : Int32)), .val (.int (3 : Int32)), .val (.ref r1), .val (.int (0 : Int32)), .val (.int p5)] [])) := by
   intro T j4 ej4 fd5 A
   refine A.iinc (q := 54) (v := (1 : Int32)) (l' := #[.val (.ref r0), .val (.int (3 : Int32)), .val (.int (3 : Int32)), .val (.ref r1), .val (.int (1 : Int32)), .val (.int p5)]) d4_51 rfl rfl (by decide) rfl ?_
   refine A.goto (r := 3) d4_54 (by decide) ?_
   refine A.iload (q := 5) d4_3 rfl rfl ?_
   refine A.iloadN (q := 6) d4_5 rfl rfl ?_
   refine A.icmpF (q := 9) d4_6 rfl (by decide) ?_
   refine A.aloadN (q := 10) d4_9 rfl rfl rfl ?_
   refine A.iloadN (q := 11) d4_10 rfl rfl ?_
   refine A.iload (q := 13) d4_11 rfl rfl ?_
   refine A.iadd (q := 14) (v := (4 : Int32)) d4_13 rfl (by decide) ?_
   refine A.iaload (q := 15) (i := 0) (v := (.int p6)) d4_14 rfl rfl (by decide) rfl ?_
   refine A.istore (q := 17) (l' := #[.val (.ref r0), .val (.int (3 : Int32)), .val (.int (3 : Int32)), .val (.ref r1), .val (.int (1 : Int32)), .val (.int p6)]) d4_15 rfl rfl ?_
   have J17_9 : ∀ (T : State) (j9 : Int32), j9 = (if p6 = (-1 : Int32) then p9 else (if p9 = (-1 : Int32) then p6 else p9)) → ((p6 = (-1 : Int32)) ∨ (¬ (p6 = (-1 : Int32)) ∧ ¬ (p9 = (-1 : Int32)) ∧ p9 = p6) ∨ (¬ (p6 = (-1 : Int32)) ∧ p9 = (-1 : Int32))) → Here p l e ({ frames := 0, cells := 0, slots := 0, locals := 0 } : Room) s m ([(.ref r0), (.int (3 : Int32)), (.int (3 : Int32)), (.ref r1)] : List Value).toArray below meth c Z a0 tables_1 (⟨"com/example/triplemill/triplemill/engine/RowBuffer", "mergeInto", "([III[I)Z"⟩ : MethodName).cls (⟨"com/example/triplemill/triplemill/engine/RowBuffer", "mergeInto", "([III[I)Z"⟩ : MethodName).name prog_59_method_15_code 6 (some .boolean) n0 T ((r0, .inr (.int, [(.int p2), (.int p3), (.int p4), (.int p5), (.int p6), (.int p7)])) :: (r1, .inr (.int, [(.int j4), (.int j9), (.int p10)])) :: RR) 0 0 → Go p e below (EndS below s n0 Z 0 0 (fun v L' => v = some (.int (FI_16 p5 p6 p7 p8 p9 p10)) ∧ L' = ((r0, .inr (.int, [(.int p2), (.int p3), (.int p4), (.int p5), (.int p6), (.int p7)])) :: (r1, .inr (.int, [(.int (if (p5 = (-1 : Int32)) ∨ (¬ (p5 = (-1 : Int32)) ∧ ¬ (p8 = (-1 : Int32)) ∧ p8 = p5) ∨ (¬ (p5 = (-1 : Int32)) ∧ p8 = (-1 : Int32)) then ((if p5 = (-1 : Int32) then p8 else (if p8 = (-1 : Int32) then p5 else p8))) else p8)), (.int (if (p5 = (-1 : Int32)) ∨ (¬ (p5 = (-1 : Int32)) ∧ ¬ (p8 = (-1 : Int32)) ∧ p8 = p5) ∨ (¬ (p5 = (-1 : Int32)) ∧ p8 = (-1 : Int32)) then (if (p6 = (-1 : Int32)) ∨ (¬ (p6 = (-1 : Int32)) ∧ ¬ (p9 = (-1 : Int32)) ∧ p9 = p6) ∨ (¬ (p6 = (-1 : Int32)) ∧ p9 = (-1 : Int32)) then ((if p6 = (-1 : Int32) then p9 else (if p9 = (-1 : Int32) then p6 else p9))) else p9) else p9)), (.int (if (p5 = (-1 : Int32)) ∨ (¬ (p5 = (-1 : Int32)) ∧ ¬ (p8 = (-1 : Int32)) ∧ p8 = p5) ∨ (¬ (p5 = (-1 : Int32)) ∧ p8 = (-1 : Int32)) then (if (p6 = (-1 : Int32)) ∨ (¬ (p6 = (-1 : Int32)) ∧ ¬ (p9 = (-1 : Int32)) ∧ p9 = p6) ∨ (¬ (p6 = (-1 : Int32)) ∧ p9 = (-1 : Int32)) then (if (p7 = (-1 : Int32)) ∨ (¬ (p7 = (-1 : Int32)) ∧ ¬ (p10 = (-1 : Int32)) ∧ p10 = p7) ∨ (¬ (p7 = (-1 : Int32)) ∧ p10 = (-1 : Int32)) then ((if p7 = (-1 : Int32) then p10 else (if p10 = (-1 : Int32) then p7 else p10))) else p10) else p10) else p10))])) :: RR))) (T.setTop (mkF m 51 #[.val (.ref r0), .val (.int (3 : Int32)), .val (.int (3 : Int32)), .val (.ref r1), .val (.int (1 : Int32)), .val (.int p6)] [])) := by
    intro T j9 ej9 fd10 A
    refine A.iinc (q := 54) (v := (2 : Int32)) (l' := #[.val (.ref r0), .val (.int (3 : Int32)), .val (.int (3 : Int32)), .val (.ref r1), .val (.int (2 : Int32)), .val (.int p6)]) d4_51 rfl rfl (by decide) rfl ?_
    refine A.goto (r := 3) d4_54 (by decide) ?_
    refine A.iload (q := 5) d4_3 rfl rfl ?_
    refine A.iloadN (q := 6) d4_5 rfl rfl ?_
    refine A.icmpF (q := 9) d4_6 rfl (by decide) ?_
    refine A.aloadN (q := 10) d4_9 rfl rfl rfl ?_
    refine A.iloadN (q := 11) d4_10 rfl rfl ?_
    refine A.iload (q := 13) d4_11 rfl rfl ?_
    refine A.iadd (q := 14) (v := (5 : Int32)) d4_13 rfl (by decide) ?_
    refine A.iaload (q := 15) (i := 0) (v := (.int p7)) d4_14 rfl rfl (by decide) rfl ?_
    refine A.istore (q := 17) (l' := #[.val (.ref r0), .val (.int (3 : Int32)), .val (.int (3 : Int32)), .val (.ref r1), .val (.int (2 : Int32)), .val (.int p7)]) d4_15 rfl rfl ?_
    have J17_14 : ∀ (T : State) (j14 : Int32), j14 = (if p7 = (-1 : Int32) then p10 else (if p10 = (-1 : Int32) then p7 else p10)) → ((p7 = (-1 : Int32)) ∨ (¬ (p7 = (-1 : Int32)) ∧ ¬ (p10 = (-1 : Int32)) ∧ p10 = p7) ∨ (¬ (p7 = (-1 : Int32)) ∧ p10 = (-1 : Int32))) → Here p l e ({ frames := 0, cells := 0, slots := 0, locals := 0 } : Room) s m ([(.ref r0), (.int (3 : Int32)), (.int (3 : Int32)), (.ref r1)] : List Value).toArray below meth c Z a0 tables_1 (⟨"com/example/triplemill/triplemill/engine/RowBuffer", "mergeInto", "([III[I)Z"⟩ : MethodName).cls (⟨"com/example/triplemill/triplemill/engine/RowBuffer", "mergeInto", "([III[I)Z"⟩ : MethodName).name prog_59_method_15_code 6 (some .boolean) n0 T ((r0, .inr (.int, [(.int p2), (.int p3), (.int p4), (.int p5), (.int p6), (.int p7)])) :: (r1, .inr (.int, [(.int j4), (.int j9), (.int j14)])) :: RR) 0 0 → Go p e below (EndS below s n0 Z 0 0 (fun v L' => v = some (.int (FI_16 p5 p6 p7 p8 p9 p10)) ∧ L' = ((r0, .inr (.int, [(.int p2), (.int p3), (.int p4), (.int p5), (.int p6), (.int p7)])) :: (r1, .inr (.int, [(.int (if (p5 = (-1 : Int32)) ∨ (¬ (p5 = (-1 : Int32)) ∧ ¬ (p8 = (-1 : Int32)) ∧ p8 = p5) ∨ (¬ (p5 = (-1 : Int32)) ∧ p8 = (-1 : Int32)) then ((if p5 = (-1 : Int32) then p8 else (if p8 = (-1 : Int32) then p5 else p8))) else p8)), (.int (if (p5 = (-1 : Int32)) ∨ (¬ (p5 = (-1 : Int32)) ∧ ¬ (p8 = (-1 : Int32)) ∧ p8 = p5) ∨ (¬ (p5 = (-1 : Int32)) ∧ p8 = (-1 : Int32)) then (if (p6 = (-1 : Int32)) ∨ (¬ (p6 = (-1 : Int32)) ∧ ¬ (p9 = (-1 : Int32)) ∧ p9 = p6) ∨ (¬ (p6 = (-1 : Int32)) ∧ p9 = (-1 : Int32)) then ((if p6 = (-1 : Int32) then p9 else (if p9 = (-1 : Int32) then p6 else p9))) else p9) else p9)), (.int (if (p5 = (-1 : Int32)) ∨ (¬ (p5 = (-1 : Int32)) ∧ ¬ (p8 = (-1 : Int32)) ∧ p8 = p5) ∨ (¬ (p5 = (-1 : Int32)) ∧ p8 = (-1 : Int32)) then (if (p6 = (-1 : Int32)) ∨ (¬ (p6 = (-1 : Int32)) ∧ ¬ (p9 = (-1 : Int32)) ∧ p9 = p6) ∨ (¬ (p6 = (-1 : Int32)) ∧ p9 = (-1 : Int32)) then (if (p7 = (-1 : Int32)) ∨ (¬ (p7 = (-1 : Int32)) ∧ ¬ (p10 = (-1 : Int32)) ∧ p10 = p7) ∨ (¬ (p7 = (-1 : Int32)) ∧ p10 = (-1 : Int32)) then ((if p7 = (-1 : Int32) then p10 else (if p10 = (-1 : Int32) then p7 else p10))) else p10) else p10) else p10))])) :: RR))) (T.setTop (mkF m 51 #[.val (.ref r0), .val (.int (3 : Int32)), .val (.int (3 : Int32)), .val (.ref r1), .val (.int (2 : Int32)), .val (.int p7)] [])) := by
     intro T j14 ej14 fd15 A
     refine A.iinc (q := 54) (v := (3 : Int32)) (l' := #[.val (.ref r0), .val (.int (3 : Int32)), .val (.int (3 : Int32)), .val (.ref r1), .val (.int (3 : Int32)), .val (.int p7)]) d4_51 rfl rfl (by decide) rfl ?_
     refine A.goto (r := 3) d4_54 (by decide) ?_
     refine A.iload (q := 5) d4_3 rfl rfl ?_
     refine A.iloadN (q := 6) d4_5 rfl rfl ?_
     refine A.icmpT (r := 57) d4_6 (by decide) (by decide) ?_
     refine A.iconst (q := 58) (v := (1 : Int32)) d4_57 rfl (by decide) ?_
     subst ej4 ej9 ej14
     exact A.retZ (v := (FI_16 p5 p6 p7 p8 p9 p10)) d4_58 (by simp only [FI_16, if_pos fd5, if_pos fd10, if_pos fd15]; first | rfl | assumption) (by decide) (by decide) ⟨rfl, by first | rfl | (simp only [if_pos fd5, if_pos fd10, if_pos fd15])⟩
    refine A.iload (q := 19) d4_17 rfl rfl ?_
    refine A.iconst (q := 20) (v := (-1 : Int32)) d4_19 rfl (by decide) ?_
    refine A.icmp_eq (q := 23) (r := 51) d4_20 rfl (by decide) (fun h11 => ?_) (fun h11 => ?_)
    · exact J17_14 T _ (by simp only [if_pos h11]) (by exact (Or.inl h11)) A
    · refine A.aloadN (q := 24) d4_23 rfl rfl rfl ?_
      refine A.iload (q := 26) d4_24 rfl rfl ?_
      refine A.iaload (q := 27) (i := 1) (v := (.int p10)) d4_26 rfl rfl (by decide) rfl ?_
      refine A.iconst (q := 28) (v := (-1 : Int32)) d4_27 rfl (by decide) ?_
      refine A.icmp_ne (q := 31) (r := 40) d4_28 rfl (by decide) (fun h12 => ?_) (fun h12 => ?_)
      · refine A.aloadN (q := 41) d4_40 rfl rfl rfl ?_
        refine A.iload (q := 43) d4_41 rfl rfl ?_
        refine A.iaload (q := 44) (i := 1) (v := (.int p10)) d4_43 rfl rfl (by decide) rfl ?_
        refine A.iload (q := 46) d4_44 rfl rfl ?_
        refine A.icmp_eq (q := 49) (r := 51) d4_46 rfl (by decide) (fun h13 => ?_) (fun h13 => ?_)
        · exact J17_14 T _ (by simp only [if_neg h11, if_neg h12, if_pos h13]) (by exact (Or.inr (Or.inl ⟨h11, h12, h13⟩))) A
        · refine A.iconst (q := 50) (v := (0 : Int32)) d4_49 rfl (by decide) ?_
          have hD3 : ¬ ((p7 = (-1 : Int32)) ∨ (¬ (p7 = (-1 : Int32)) ∧ ¬ (p10 = (-1 : Int32)) ∧ p10 = p7) ∨ (¬ (p7 = (-1 : Int32)) ∧ p10 = (-1 : Int32))) := by first | (simp only [eq_false h11, eq_false h12, eq_false h13, not_true_eq_false, not_false_eq_true, true_and, and_true, false_and, and_false, or_false, false_or, or_true, true_or]; done) | (simp [h11, h12, h13]; done)
          subst ej4 ej9
          exact A.retZ (v := (FI_16 p5 p6 p7 p8 p9 p10)) d4_50 (by simp only [FI_16, if_pos fd5, if_pos fd10, if_neg hD3, if_neg h11, if_neg h12, if_neg h13]; first | rfl | assumption) (by decide) (by decide) ⟨rfl, by first | rfl | (simp only [if_pos fd5, if_pos fd10, if_neg hD3, if_neg h11, if_neg h12, if_neg h13])⟩
      · refine A.aloadN (q := 32) d4_31 rfl rfl rfl ?_
        refine A.iload (q := 34) d4_32 rfl rfl ?_
        refine A.iload (q := 36) d4_34 rfl rfl ?_
        refine A.iastore (q := 37) (i := 1) (x' := p7) (L' := ((r0, .inr (.int, [(.int p2), (.int p3), (.int p4), (.int p5), (.int p6), (.int p7)])) :: (r1, .inr (.int, [(.int j4), (.int j9), (.int p7)])) :: RR)) d4_36 rfl rfl (by decide) (by show Int32.toNatClampNeg (2 : Int32) < 3; decide) rfl rfl ?_
        intro T A
        refine A.goto (r := 51) d4_37 (by decide) ?_
        exact J17_14 T _ (by simp only [if_neg h11, if_pos h12]) (by exact (Or.inr (Or.inr ⟨h11, h12⟩))) A
   refine A.iload (q := 19) d4_17 rfl rfl ?_
   refine A.iconst (q := 20) (v := (-1 : Int32)) d4_19 rfl (by decide) ?_
   refine A.icmp_eq (q := 23) (r := 51) d4_20 rfl (by decide) (fun h6 => ?_) (fun h6 => ?_)
   · exact J17_9 T _ (by simp only [if_pos h6]) (by exact (Or.inl h6)) A
   · refine A.aloadN (q := 24) d4_23 rfl rfl rfl ?_
     refine A.iload (q := 26) d4_24 rfl rfl ?_
     refine A.iaload (q := 27) (i := 1) (v := (.int p9)) d4_26 rfl rfl (by decide) rfl ?_
     refine A.iconst (q := 28) (v := (-1 : Int32)) d4_27 rfl (by decide) ?_
     refine A.icmp_ne (q := 31) (r := 40) d4_28 rfl (by decide) (fun h7 => ?_) (fun h7 => ?_)
     · refine A.aloadN (q := 41) d4_40 rfl rfl rfl ?_
       refine A.iload (q := 43) d4_41 rfl rfl ?_
       refine A.iaload (q := 44) (i := 1) (v := (.int p9)) d4_43 rfl rfl (by decide) rfl ?_
       refine A.iload (q := 46) d4_44 rfl rfl ?_
       refine A.icmp_eq (q := 49) (r := 51) d4_46 rfl (by decide) (fun h8 => ?_) (fun h8 => ?_)
       · exact J17_9 T _ (by simp only [if_neg h6, if_neg h7, if_pos h8]) (by exact (Or.inr (Or.inl ⟨h6, h7, h8⟩))) A
       · refine A.iconst (q := 50) (v := (0 : Int32)) d4_49 rfl (by decide) ?_
         have hD2 : ¬ ((p6 = (-1 : Int32)) ∨ (¬ (p6 = (-1 : Int32)) ∧ ¬ (p9 = (-1 : Int32)) ∧ p9 = p6) ∨ (¬ (p6 = (-1 : Int32)) ∧ p9 = (-1 : Int32))) := by first | (simp only [eq_false h6, eq_false h7, eq_false h8, not_true_eq_false, not_false_eq_true, true_and, and_true, false_and, and_false, or_false, false_or, or_true, true_or]; done) | (simp [h6, h7, h8]; done)
         subst ej4
         exact A.retZ (v := (FI_16 p5 p6 p7 p8 p9 p10)) d4_50 (by simp only [FI_16, if_pos fd5, if_neg hD2, if_neg h6, if_neg h7, if_neg h8]; first | rfl | assumption) (by decide) (by decide) ⟨rfl, by first | rfl | (simp only [if_pos fd5, if_neg hD2, if_neg h6, if_neg h7, if_neg h8])⟩
     · refine A.aloadN (q := 32) d4_31 rfl rfl rfl ?_
       refine A.iload (q := 34) d4_32 rfl rfl ?_
       refine A.iload (q := 36) d4_34 rfl rfl ?_
       refine A.iastore (q := 37) (i := 1) (x' := p6) (L' := ((r0, .inr (.int, [(.int p2), (.int p3), (.int p4), (.int p5), (.int p6), (.int p7)])) :: (r1, .inr (.int, [(.int j4), (.int p6), (.int p10)])) :: RR)) d4_36 rfl rfl (by decide) (by show Int32.toNatClampNeg (1 : Int32) < 3; decide) rfl rfl ?_
       intro T A
       refine A.goto (r := 51) d4_37 (by decide) ?_
       exact J17_9 T _ (by simp only [if_neg h6, if_pos h7]) (by exact (Or.inr (Or.inr ⟨h6, h7⟩))) A
  refine A.iload (q := 19) d4_17 rfl rfl ?_
  refine A.iconst (q := 20) (v := (-1 : Int32)) d4_19 rfl (by decide) ?_
  refine A.icmp_eq (q := 23) (r := 51) d4_20 rfl (by decide) (fun h1 => ?_) (fun h1 => ?_)
  · exact J17_4 T _ (by simp only [if_pos h1]) (by exact (Or.inl h1)) A
  · refine A.aloadN (q := 24) d4_23 rfl rfl rfl ?_
    refine A.iload (q := 26) d4_24 rfl rfl ?_
    refine A.iaload (q := 27) (i := 1) (v := (.int p8)) d4_26 rfl rfl (by decide) rfl ?_
    refine A.iconst (q := 28) (v := (-1 : Int32)) d4_27 rfl (by decide) ?_
    refine A.icmp_ne (q := 31) (r := 40) d4_28 rfl (by decide) (fun h2 => ?_) (fun h2 => ?_)
    · refine A.aloadN (q := 41) d4_40 rfl rfl rfl ?_
      refine A.iload (q := 43) d4_41 rfl rfl ?_
      refine A.iaload (q := 44) (i := 1) (v := (.int p8)) d4_43 rfl rfl (by decide) rfl ?_
      refine A.iload (q := 46) d4_44 rfl rfl ?_
      refine A.icmp_eq (q := 49) (r := 51) d4_46 rfl (by decide) (fun h3 => ?_) (fun h3 => ?_)
      · exact J17_4 T _ (by simp only [if_neg h1, if_neg h2, if_pos h3]) (by exact (Or.inr (Or.inl ⟨h1, h2, h3⟩))) A
      · refine A.iconst (q := 50) (v := (0 : Int32)) d4_49 rfl (by decide) ?_
        have hD1 : ¬ ((p5 = (-1 : Int32)) ∨ (¬ (p5 = (-1 : Int32)) ∧ ¬ (p8 = (-1 : Int32)) ∧ p8 = p5) ∨ (¬ (p5 = (-1 : Int32)) ∧ p8 = (-1 : Int32))) := by first | (simp only [eq_false h1, eq_false h2, eq_false h3, not_true_eq_false, not_false_eq_true, true_and, and_true, false_and, and_false, or_false, false_or, or_true, true_or]; done) | (simp [h1, h2, h3]; done)
        exact A.retZ (v := (FI_16 p5 p6 p7 p8 p9 p10)) d4_50 (by simp only [FI_16, if_neg hD1, if_neg h1, if_neg h2, if_neg h3]; first | rfl | assumption) (by decide) (by decide) ⟨rfl, by first | rfl | (simp only [if_neg hD1, if_neg h1, if_neg h2, if_neg h3])⟩
    · refine A.aloadN (q := 32) d4_31 rfl rfl rfl ?_
      refine A.iload (q := 34) d4_32 rfl rfl ?_
      refine A.iload (q := 36) d4_34 rfl rfl ?_
      refine A.iastore (q := 37) (i := 1) (x' := p5) (L' := ((r0, .inr (.int, [(.int p2), (.int p3), (.int p4), (.int p5), (.int p6), (.int p7)])) :: (r1, .inr (.int, [(.int p5), (.int p9), (.int p10)])) :: RR)) d4_36 rfl rfl (by decide) (by show Int32.toNatClampNeg (0 : Int32) < 3; decide) rfl rfl ?_
      intro T A
      refine A.goto (r := 51) d4_37 (by decide) ?_
      exact J17_4 T _ (by simp only [if_neg h1, if_pos h2]) (by exact (Or.inr (Or.inr ⟨h1, h2⟩))) A
theorem pn_0 : plainFor (⟨"com/example/triplemill/triplemill/engine/RowBufferMergeIntoPinLaw", "law", "(JIIII)Z"⟩ : MethodName) = true := plainFor_of_name (by first | (simp [plainName, overriddenIn]; done) | decide +kernel)
set_option maxRecDepth 65536 in
set_option maxHeartbeats 8000000 in
theorem rm0 (l : Launch) (Z : State) (a0 : Array Value) (hw : ∀ d ∈ tables_1, d.before a0 Z = true) (n0 : Nat) (sl : Int64) (pp qq rr sh : Int32) :
    Triple l Z n0 x code 24 (some .boolean) room_1 16 128 [(.long sl), (.int pp), (.int qq), (.int rr), (.int sh)] [] (fun v _ => v = some (.int 1)) := by
  refine Triple.of_body (tbl := tables_1) (a0 := a0) (Ls := #[.val (.long sl), .second, .val (.int pp), .val (.int qq), .val (.int rr), .val (.int sh), .unset, .unset, .unset, .unset, .unset, .unset, .unset, .unset, .unset, .unset, .unset, .unset, .unset, .unset, .unset, .unset, .unset, .unset]) pn_0 hw rfl ?_
  intro p e s m below meth c T A
  refine A.iload (q := 2) at_0 rfl rfl ?_
  refine A.iconst (q := 3) (v := (3 : Int32)) at_2 rfl (by decide) ?_
  obtain ⟨v1, e1⟩ : ∃ v : Int32, sh &&& (3 : Int32) = v := ⟨_, rfl⟩
  refine A.iand (q := 4) at_3 rfl e1 ?_
  refine A.istore (q := 6) (l' := #[.val (.long sl), .second, .val (.int pp), .val (.int qq), .val (.int rr), .val (.int sh), .val (.int v1), .unset, .unset, .unset, .unset, .unset, .unset, .unset, .unset, .unset, .unset, .unset, .unset, .unset, .unset, .unset, .unset, .unset]) at_4 rfl rfl ?_
  refine A.iload (q := 8) at_6 rfl rfl ?_
  refine A.iconst (q := 9) (v := (2 : Int32)) at_8 rfl (by decide) ?_
  obtain ⟨v2, e2⟩ : ∃ v : Int32, (sh.toUInt32 >>> ((2 : Int32) &&& 31).toUInt32).toInt32 = v := ⟨_, rfl⟩
  refine A.iushr (q := 10) at_9 rfl e2 ?_
  refine A.iconst (q := 11) (v := (3 : Int32)) at_10 rfl (by decide) ?_
  obtain ⟨v3, e3⟩ : ∃ v : Int32, v2 &&& (3 : Int32) = v := ⟨_, rfl⟩
  refine A.iand (q := 12) at_11 rfl e3 ?_
  refine A.istore (q := 14) (l' := #[.val (.long sl), .second, .val (.int pp), .val (.int qq), .val (.int rr), .val (.int sh), .val (.int v1), .val (.int v3), .unset, .unset, .unset, .unset, .unset, .unset, .unset, .unset, .unset, .unset, .unset, .unset, .unset, .unset, .unset, .unset]) at_12 rfl rfl ?_
  refine A.bipush (q := 16) (v := (6 : Int32)) at_14 rfl (by decide) ?_
  refine A.newA (q := 18) (w := 0) (cap := 6) (ty := .int) (vs := [(.int (0 : Int32)), (.int (0 : Int32)), (.int (0 : Int32)), (.int (0 : Int32)), (.int (0 : Int32)), (.int (0 : Int32))]) at_16 rfl rfl rfl (by decide) (by decide) (by decide) rfl (by decide) (by decide) ?_
  intro T b4 A
  refine A.astore (q := 20) (l' := #[.val (.long sl), .second, .val (.int pp), .val (.int qq), .val (.int rr), .val (.int sh), .val (.int v1), .val (.int v3), .val (.ref b4), .unset, .unset, .unset, .unset, .unset, .unset, .unset, .unset, .unset, .unset, .unset, .unset, .unset, .unset, .unset]) at_18 rfl rfl rfl ?_
  refine A.aload (q := 22) at_20 rfl rfl rfl ?_
  refine A.iconst (q := 23) (v := (0 : Int32)) at_22 rfl (by decide) ?_
  refine A.lloadN (q := 24) at_23 rfl rfl ?_
  refine A.iconst (q := 25) (v := (0 : Int32)) at_24 rfl (by decide) ?_
  refine A.iloadN (q := 26) at_25 rfl rfl ?_
  refine A.iloadN (q := 27) at_26 rfl rfl ?_
  refine A.iload (q := 29) at_27 rfl rfl ?_
  refine A.callS (q := 32) (w1 := 1) (w2 := 2) (w3 := 3) (w4 := 4) (as := [(.long sl), (.int (0 : Int32)), (.int pp), (.int qq), (.int rr)]) (st := [(.int (0 : Int32)), (.ref b4)]) (W := 2) at_29 rfl rfl rfl rfl rfl (rmP l Z a0 hw n0 sl (0 : Int32) pp qq rr _) (by decide) ⟨_, _, pd_0, rfl⟩ rfl rfl rfl (by decide) (by decide) (by decide) (by decide) ?_
  rintro _ T _ ⟨rfl, rfl⟩ A
  show Go p e below _ (T.setTop (mkF m 32 #[.val (.long sl), .second, .val (.int pp), .val (.int qq), .val (.int rr), .val (.int sh), .val (.int v1), .val (.int v3), .val (.ref b4), .unset, .unset, .unset, .unset, .unset, .unset, .unset, .unset, .unset, .unset, .unset, .unset, .unset, .unset, .unset] [(.int (FP sl (0 : Int32) pp qq rr)), (.int (0 : Int32)), (.ref b4)]))
  obtain ⟨v5, e5⟩ : ∃ v : Int32, (FP sl (0 : Int32) pp qq rr) = v := ⟨_, rfl⟩
  rw [e5]
  refine A.iastore (q := 33) (i := 0) (x' := v5) (L' := [(b4, .inr (.int, [(.int v5), (.int (0 : Int32)), (.int (0 : Int32)), (.int (0 : Int32)), (.int (0 : Int32)), (.int (0 : Int32))]))]) at_32 rfl rfl (by decide) (by show Int32.toNatClampNeg (0 : Int32) < 6; decide) rfl rfl ?_
  intro T A
  refine A.aload (q := 35) at_33 rfl rfl rfl ?_
  refine A.iconst (q := 36) (v := (1 : Int32)) at_35 rfl (by decide) ?_
  refine A.lloadN (q := 37) at_36 rfl rfl ?_
  refine A.iconst (q := 38) (v := (2 : Int32)) at_37 rfl (by decide) ?_
  refine A.iloadN (q := 39) at_38 rfl rfl ?_
  refine A.iloadN (q := 40) at_39 rfl rfl ?_
  refine A.iload (q := 42) at_40 rfl rfl ?_
  refine A.callS (q := 45) (w1 := 1) (w2 := 2) (w3 := 3) (w4 := 4) (as := [(.long sl), (.int (2 : Int32)), (.int pp), (.int qq), (.int rr)]) (st := [(.int (1 : Int32)), (.ref b4)]) (W := 2) at_42 rfl rfl rfl rfl rfl (rmP l Z a0 hw n0 sl (2 : Int32) pp qq rr _) (by decide) ⟨_, _, pd_0, rfl⟩ rfl rfl rfl (by decide) (by decide) (by decide) (by decide) ?_
  rintro _ T _ ⟨rfl, rfl⟩ A
  show Go p e below _ (T.setTop (mkF m 45 #[.val (.long sl), .second, .val (.int pp), .val (.int qq), .val (.int rr), .val (.int sh), .val (.int v1), .val (.int v3), .val (.ref b4), .unset, .unset, .unset, .unset, .unset, .unset, .unset, .unset, .unset, .unset, .unset, .unset, .unset, .unset, .unset] [(.int (FP sl (2 : Int32) pp qq rr)), (.int (1 : Int32)), (.ref b4)]))
  obtain ⟨v6, e6⟩ : ∃ v : Int32, (FP sl (2 : Int32) pp qq rr) = v := ⟨_, rfl⟩
  rw [e6]
  refine A.iastore (q := 46) (i := 0) (x' := v6) (L' := [(b4, .inr (.int, [(.int v5), (.int v6), (.int (0 : Int32)), (.int (0 : Int32)), (.int (0 : Int32)), (.int (0 : Int32))]))]) at_45 rfl rfl (by decide) (by show Int32.toNatClampNeg (1 : Int32) < 6; decide) rfl rfl ?_
  intro T A
  refine A.aload (q := 48) at_46 rfl rfl rfl ?_
  refine A.iconst (q := 49) (v := (2 : Int32)) at_48 rfl (by decide) ?_
  refine A.lloadN (q := 50) at_49 rfl rfl ?_
  refine A.iconst (q := 51) (v := (4 : Int32)) at_50 rfl (by decide) ?_
  refine A.iloadN (q := 52) at_51 rfl rfl ?_
  refine A.iloadN (q := 53) at_52 rfl rfl ?_
  refine A.iload (q := 55) at_53 rfl rfl ?_
  refine A.callS (q := 58) (w1 := 1) (w2 := 2) (w3 := 3) (w4 := 4) (as := [(.long sl), (.int (4 : Int32)), (.int pp), (.int qq), (.int rr)]) (st := [(.int (2 : Int32)), (.ref b4)]) (W := 2) at_55 rfl rfl rfl rfl rfl (rmP l Z a0 hw n0 sl (4 : Int32) pp qq rr _) (by decide) ⟨_, _, pd_0, rfl⟩ rfl rfl rfl (by decide) (by decide) (by decide) (by decide) ?_
  rintro _ T _ ⟨rfl, rfl⟩ A
  show Go p e below _ (T.setTop (mkF m 58 #[.val (.long sl), .second, .val (.int pp), .val (.int qq), .val (.int rr), .val (.int sh), .val (.int v1), .val (.int v3), .val (.ref b4), .unset, .unset, .unset, .unset, .unset, .unset, .unset, .unset, .unset, .unset, .unset, .unset, .unset, .unset, .unset] [(.int (FP sl (4 : Int32) pp qq rr)), (.int (2 : Int32)), (.ref b4)]))
  obtain ⟨v7, e7⟩ : ∃ v : Int32, (FP sl (4 : Int32) pp qq rr) = v := ⟨_, rfl⟩
  rw [e7]
  refine A.iastore (q := 59) (i := 0) (x' := v7) (L' := [(b4, .inr (.int, [(.int v5), (.int v6), (.int v7), (.int (0 : Int32)), (.int (0 : Int32)), (.int (0 : Int32))]))]) at_58 rfl rfl (by decide) (by show Int32.toNatClampNeg (2 : Int32) < 6; decide) rfl rfl ?_
  intro T A
  refine A.aload (q := 61) at_59 rfl rfl rfl ?_
  refine A.iconst (q := 62) (v := (3 : Int32)) at_61 rfl (by decide) ?_
  refine A.lloadN (q := 63) at_62 rfl rfl ?_
  refine A.bipush (q := 65) (v := (6 : Int32)) at_63 rfl (by decide) ?_
  refine A.iloadN (q := 66) at_65 rfl rfl ?_
  refine A.iloadN (q := 67) at_66 rfl rfl ?_
  refine A.iload (q := 69) at_67 rfl rfl ?_
  refine A.callS (q := 72) (w1 := 1) (w2 := 2) (w3 := 3) (w4 := 4) (as := [(.long sl), (.int (6 : Int32)), (.int pp), (.int qq), (.int rr)]) (st := [(.int (3 : Int32)), (.ref b4)]) (W := 2) at_69 rfl rfl rfl rfl rfl (rmP l Z a0 hw n0 sl (6 : Int32) pp qq rr _) (by decide) ⟨_, _, pd_0, rfl⟩ rfl rfl rfl (by decide) (by decide) (by decide) (by decide) ?_
  rintro _ T _ ⟨rfl, rfl⟩ A
  show Go p e below _ (T.setTop (mkF m 72 #[.val (.long sl), .second, .val (.int pp), .val (.int qq), .val (.int rr), .val (.int sh), .val (.int v1), .val (.int v3), .val (.ref b4), .unset, .unset, .unset, .unset, .unset, .unset, .unset, .unset, .unset, .unset, .unset, .unset, .unset, .unset, .unset] [(.int (FP sl (6 : Int32) pp qq rr)), (.int (3 : Int32)), (.ref b4)]))
  obtain ⟨v8, e8⟩ : ∃ v : Int32, (FP sl (6 : Int32) pp qq rr) = v := ⟨_, rfl⟩
  rw [e8]
  refine A.iastore (q := 73) (i := 0) (x' := v8) (L' := [(b4, .inr (.int, [(.int v5), (.int v6), (.int v7), (.int v8), (.int (0 : Int32)), (.int (0 : Int32))]))]) at_72 rfl rfl (by decide) (by show Int32.toNatClampNeg (3 : Int32) < 6; decide) rfl rfl ?_
  intro T A
  refine A.aload (q := 75) at_73 rfl rfl rfl ?_
  refine A.iconst (q := 76) (v := (4 : Int32)) at_75 rfl (by decide) ?_
  refine A.lloadN (q := 77) at_76 rfl rfl ?_
  refine A.bipush (q := 79) (v := (8 : Int32)) at_77 rfl (by decide) ?_
  refine A.iloadN (q := 80) at_79 rfl rfl ?_
  refine A.iloadN (q := 81) at_80 rfl rfl ?_
  refine A.iload (q := 83) at_81 rfl rfl ?_
  refine A.callS (q := 86) (w1 := 1) (w2 := 2) (w3 := 3) (w4 := 4) (as := [(.long sl), (.int (8 : Int32)), (.int pp), (.int qq), (.int rr)]) (st := [(.int (4 : Int32)), (.ref b4)]) (W := 2) at_83 rfl rfl rfl rfl rfl (rmP l Z a0 hw n0 sl (8 : Int32) pp qq rr _) (by decide) ⟨_, _, pd_0, rfl⟩ rfl rfl rfl (by decide) (by decide) (by decide) (by decide) ?_
  rintro _ T _ ⟨rfl, rfl⟩ A
  show Go p e below _ (T.setTop (mkF m 86 #[.val (.long sl), .second, .val (.int pp), .val (.int qq), .val (.int rr), .val (.int sh), .val (.int v1), .val (.int v3), .val (.ref b4), .unset, .unset, .unset, .unset, .unset, .unset, .unset, .unset, .unset, .unset, .unset, .unset, .unset, .unset, .unset] [(.int (FP sl (8 : Int32) pp qq rr)), (.int (4 : Int32)), (.ref b4)]))
  obtain ⟨v9, e9⟩ : ∃ v : Int32, (FP sl (8 : Int32) pp qq rr) = v := ⟨_, rfl⟩
  rw [e9]
  refine A.iastore (q := 87) (i := 0) (x' := v9) (L' := [(b4, .inr (.int, [(.int v5), (.int v6), (.int v7), (.int v8), (.int v9), (.int (0 : Int32))]))]) at_86 rfl rfl (by decide) (by show Int32.toNatClampNeg (4 : Int32) < 6; decide) rfl rfl ?_
  intro T A
  refine A.aload (q := 89) at_87 rfl rfl rfl ?_
  refine A.iconst (q := 90) (v := (5 : Int32)) at_89 rfl (by decide) ?_
  refine A.lloadN (q := 91) at_90 rfl rfl ?_
  refine A.bipush (q := 93) (v := (10 : Int32)) at_91 rfl (by decide) ?_
  refine A.iloadN (q := 94) at_93 rfl rfl ?_
  refine A.iloadN (q := 95) at_94 rfl rfl ?_
  refine A.iload (q := 97) at_95 rfl rfl ?_
  refine A.callS (q := 100) (w1 := 1) (w2 := 2) (w3 := 3) (w4 := 4) (as := [(.long sl), (.int (10 : Int32)), (.int pp), (.int qq), (.int rr)]) (st := [(.int (5 : Int32)), (.ref b4)]) (W := 2) at_97 rfl rfl rfl rfl rfl (rmP l Z a0 hw n0 sl (10 : Int32) pp qq rr _) (by decide) ⟨_, _, pd_0, rfl⟩ rfl rfl rfl (by decide) (by decide) (by decide) (by decide) ?_
  rintro _ T _ ⟨rfl, rfl⟩ A
  show Go p e below _ (T.setTop (mkF m 100 #[.val (.long sl), .second, .val (.int pp), .val (.int qq), .val (.int rr), .val (.int sh), .val (.int v1), .val (.int v3), .val (.ref b4), .unset, .unset, .unset, .unset, .unset, .unset, .unset, .unset, .unset, .unset, .unset, .unset, .unset, .unset, .unset] [(.int (FP sl (10 : Int32) pp qq rr)), (.int (5 : Int32)), (.ref b4)]))
  obtain ⟨v10, e10⟩ : ∃ v : Int32, (FP sl (10 : Int32) pp qq rr) = v := ⟨_, rfl⟩
  rw [e10]
  refine A.iastore (q := 101) (i := 0) (x' := v10) (L' := [(b4, .inr (.int, [(.int v5), (.int v6), (.int v7), (.int v8), (.int v9), (.int v10)]))]) at_100 rfl rfl (by decide) (by show Int32.toNatClampNeg (5 : Int32) < 6; decide) rfl rfl ?_
  intro T A
  refine A.iconst (q := 102) (v := (3 : Int32)) at_101 rfl (by decide) ?_
  refine A.newA (q := 104) (w := 0) (cap := 3) (ty := .int) (vs := [(.int (0 : Int32)), (.int (0 : Int32)), (.int (0 : Int32))]) at_102 rfl rfl rfl (by decide) (by decide) (by decide) rfl (by decide) (by decide) ?_
  intro T b11 A
  refine A.astore (q := 106) (l' := #[.val (.long sl), .second, .val (.int pp), .val (.int qq), .val (.int rr), .val (.int sh), .val (.int v1), .val (.int v3), .val (.ref b4), .val (.ref b11), .unset, .unset, .unset, .unset, .unset, .unset, .unset, .unset, .unset, .unset, .unset, .unset, .unset, .unset]) at_104 rfl rfl rfl ?_
  refine A.aload (q := 108) at_106 rfl rfl rfl ?_
  refine A.iconst (q := 109) (v := (0 : Int32)) at_108 rfl (by decide) ?_
  refine A.lloadN (q := 110) at_109 rfl rfl ?_
  refine A.bipush (q := 112) (v := (12 : Int32)) at_110 rfl (by decide) ?_
  refine A.iloadN (q := 113) at_112 rfl rfl ?_
  refine A.iloadN (q := 114) at_113 rfl rfl ?_
  refine A.iload (q := 116) at_114 rfl rfl ?_
  refine A.callS (q := 119) (w1 := 1) (w2 := 2) (w3 := 3) (w4 := 4) (as := [(.long sl), (.int (12 : Int32)), (.int pp), (.int qq), (.int rr)]) (st := [(.int (0 : Int32)), (.ref b11)]) (W := 2) at_116 rfl rfl rfl rfl rfl (rmP l Z a0 hw n0 sl (12 : Int32) pp qq rr _) (by decide) ⟨_, _, pd_0, rfl⟩ rfl rfl rfl (by decide) (by decide) (by decide) (by decide) ?_
  rintro _ T _ ⟨rfl, rfl⟩ A
  show Go p e below _ (T.setTop (mkF m 119 #[.val (.long sl), .second, .val (.int pp), .val (.int qq), .val (.int rr), .val (.int sh), .val (.int v1), .val (.int v3), .val (.ref b4), .val (.ref b11), .unset, .unset, .unset, .unset, .unset, .unset, .unset, .unset, .unset, .unset, .unset, .unset, .unset, .unset] [(.int (FP sl (12 : Int32) pp qq rr)), (.int (0 : Int32)), (.ref b11)]))
  obtain ⟨v12, e12⟩ : ∃ v : Int32, (FP sl (12 : Int32) pp qq rr) = v := ⟨_, rfl⟩
  rw [e12]
  refine A.iastore (q := 120) (i := 0) (x' := v12) (L' := [(b11, .inr (.int, [(.int v12), (.int (0 : Int32)), (.int (0 : Int32))])), (b4, .inr (.int, [(.int v5), (.int v6), (.int v7), (.int v8), (.int v9), (.int v10)]))]) at_119 rfl rfl (by decide) (by show Int32.toNatClampNeg (0 : Int32) < 3; decide) rfl rfl ?_
  intro T A
  refine A.aload (q := 122) at_120 rfl rfl rfl ?_
  refine A.iconst (q := 123) (v := (1 : Int32)) at_122 rfl (by decide) ?_
  refine A.lloadN (q := 124) at_123 rfl rfl ?_
  refine A.bipush (q := 126) (v := (14 : Int32)) at_124 rfl (by decide) ?_
  refine A.iloadN (q := 127) at_126 rfl rfl ?_
  refine A.iloadN (q := 128) at_127 rfl rfl ?_
  refine A.iload (q := 130) at_128 rfl rfl ?_
  refine A.callS (q := 133) (w1 := 1) (w2 := 2) (w3 := 3) (w4 := 4) (as := [(.long sl), (.int (14 : Int32)), (.int pp), (.int qq), (.int rr)]) (st := [(.int (1 : Int32)), (.ref b11)]) (W := 2) at_130 rfl rfl rfl rfl rfl (rmP l Z a0 hw n0 sl (14 : Int32) pp qq rr _) (by decide) ⟨_, _, pd_0, rfl⟩ rfl rfl rfl (by decide) (by decide) (by decide) (by decide) ?_
  rintro _ T _ ⟨rfl, rfl⟩ A
  show Go p e below _ (T.setTop (mkF m 133 #[.val (.long sl), .second, .val (.int pp), .val (.int qq), .val (.int rr), .val (.int sh), .val (.int v1), .val (.int v3), .val (.ref b4), .val (.ref b11), .unset, .unset, .unset, .unset, .unset, .unset, .unset, .unset, .unset, .unset, .unset, .unset, .unset, .unset] [(.int (FP sl (14 : Int32) pp qq rr)), (.int (1 : Int32)), (.ref b11)]))
  obtain ⟨v13, e13⟩ : ∃ v : Int32, (FP sl (14 : Int32) pp qq rr) = v := ⟨_, rfl⟩
  rw [e13]
  refine A.iastore (q := 134) (i := 0) (x' := v13) (L' := [(b11, .inr (.int, [(.int v12), (.int v13), (.int (0 : Int32))])), (b4, .inr (.int, [(.int v5), (.int v6), (.int v7), (.int v8), (.int v9), (.int v10)]))]) at_133 rfl rfl (by decide) (by show Int32.toNatClampNeg (1 : Int32) < 3; decide) rfl rfl ?_
  intro T A
  refine A.aload (q := 136) at_134 rfl rfl rfl ?_
  refine A.iconst (q := 137) (v := (2 : Int32)) at_136 rfl (by decide) ?_
  refine A.lloadN (q := 138) at_137 rfl rfl ?_
  refine A.bipush (q := 140) (v := (16 : Int32)) at_138 rfl (by decide) ?_
  refine A.iloadN (q := 141) at_140 rfl rfl ?_
  refine A.iloadN (q := 142) at_141 rfl rfl ?_
  refine A.iload (q := 144) at_142 rfl rfl ?_
  refine A.callS (q := 147) (w1 := 1) (w2 := 2) (w3 := 3) (w4 := 4) (as := [(.long sl), (.int (16 : Int32)), (.int pp), (.int qq), (.int rr)]) (st := [(.int (2 : Int32)), (.ref b11)]) (W := 2) at_144 rfl rfl rfl rfl rfl (rmP l Z a0 hw n0 sl (16 : Int32) pp qq rr _) (by decide) ⟨_, _, pd_0, rfl⟩ rfl rfl rfl (by decide) (by decide) (by decide) (by decide) ?_
  rintro _ T _ ⟨rfl, rfl⟩ A
  show Go p e below _ (T.setTop (mkF m 147 #[.val (.long sl), .second, .val (.int pp), .val (.int qq), .val (.int rr), .val (.int sh), .val (.int v1), .val (.int v3), .val (.ref b4), .val (.ref b11), .unset, .unset, .unset, .unset, .unset, .unset, .unset, .unset, .unset, .unset, .unset, .unset, .unset, .unset] [(.int (FP sl (16 : Int32) pp qq rr)), (.int (2 : Int32)), (.ref b11)]))
  obtain ⟨v14, e14⟩ : ∃ v : Int32, (FP sl (16 : Int32) pp qq rr) = v := ⟨_, rfl⟩
  rw [e14]
  refine A.iastore (q := 148) (i := 0) (x' := v14) (L' := [(b11, .inr (.int, [(.int v12), (.int v13), (.int v14)])), (b4, .inr (.int, [(.int v5), (.int v6), (.int v7), (.int v8), (.int v9), (.int v10)]))]) at_147 rfl rfl (by decide) (by show Int32.toNatClampNeg (2 : Int32) < 3; decide) rfl rfl ?_
  intro T A
  refine A.aload (q := 150) at_148 rfl rfl rfl ?_
  refine A.iconst (q := 151) (v := (0 : Int32)) at_150 rfl (by decide) ?_
  refine A.iaload (q := 152) (i := 0) (v := (.int v12)) at_151 rfl rfl (by decide) rfl ?_
  refine A.istore (q := 154) (l' := #[.val (.long sl), .second, .val (.int pp), .val (.int qq), .val (.int rr), .val (.int sh), .val (.int v1), .val (.int v3), .val (.ref b4), .val (.ref b11), .val (.int v12), .unset, .unset, .unset, .unset, .unset, .unset, .unset, .unset, .unset, .unset, .unset, .unset, .unset]) at_152 rfl rfl ?_
  refine A.aload (q := 156) at_154 rfl rfl rfl ?_
  refine A.iconst (q := 157) (v := (1 : Int32)) at_156 rfl (by decide) ?_
  refine A.iaload (q := 158) (i := 0) (v := (.int v13)) at_157 rfl rfl (by decide) rfl ?_
  refine A.istore (q := 160) (l' := #[.val (.long sl), .second, .val (.int pp), .val (.int qq), .val (.int rr), .val (.int sh), .val (.int v1), .val (.int v3), .val (.ref b4), .val (.ref b11), .val (.int v12), .val (.int v13), .unset, .unset, .unset, .unset, .unset, .unset, .unset, .unset, .unset, .unset, .unset, .unset]) at_158 rfl rfl ?_
  refine A.aload (q := 162) at_160 rfl rfl rfl ?_
  refine A.iconst (q := 163) (v := (2 : Int32)) at_162 rfl (by decide) ?_
  refine A.iaload (q := 164) (i := 0) (v := (.int v14)) at_163 rfl rfl (by decide) rfl ?_
  refine A.istore (q := 166) (l' := #[.val (.long sl), .second, .val (.int pp), .val (.int qq), .val (.int rr), .val (.int sh), .val (.int v1), .val (.int v3), .val (.ref b4), .val (.ref b11), .val (.int v12), .val (.int v13), .val (.int v14), .unset, .unset, .unset, .unset, .unset, .unset, .unset, .unset, .unset, .unset, .unset]) at_164 rfl rfl ?_
  have hn : v3 = 0 ∨ v3 = 1 ∨ v3 = 2 ∨ v3 = 3 := by subst e1 e2 e3 e5 e6 e7 e8 e9 e10 e12 e13 e14; exact own_and3 _
  rcases hn with rfl | rfl | rfl | rfl
  · refine A.aload (q := 168) at_166 rfl rfl rfl ?_
    refine A.iload (q := 170) at_168 rfl rfl ?_
    refine A.iaload (q := 171) (i := 1) (v := (.int v5)) at_170 rfl rfl (by decide) rfl ?_
    refine A.istore (q := 173) (l' := #[.val (.long sl), .second, .val (.int pp), .val (.int qq), .val (.int rr), .val (.int sh), .val (.int v1), .val (.int (0 : Int32)), .val (.ref b4), .val (.ref b11), .val (.int v12), .val (.int v13), .val (.int v14), .val (.int v5), .unset, .unset, .unset, .unset, .unset, .unset, .unset, .unset, .unset, .unset]) at_171 rfl rfl ?_
    refine A.aload (q := 175) at_173 rfl rfl rfl ?_
    refine A.iload (q := 177) at_175 rfl rfl ?_
    refine A.iconst (q := 178) (v := (1 : Int32)) at_177 rfl (by decide) ?_
    refine A.iadd (q := 179) (v := (1 : Int32)) at_178 rfl (by decide) ?_
    refine A.iaload (q := 180) (i := 1) (v := (.int v6)) at_179 rfl rfl (by decide) rfl ?_
    refine A.istore (q := 182) (l' := #[.val (.long sl), .second, .val (.int pp), .val (.int qq), .val (.int rr), .val (.int sh), .val (.int v1), .val (.int (0 : Int32)), .val (.ref b4), .val (.ref b11), .val (.int v12), .val (.int v13), .val (.int v14), .val (.int v5), .val (.int v6), .unset, .unset, .unset, .unset, .unset, .unset, .unset, .unset, .unset]) at_180 rfl rfl ?_
    refine A.aload (q := 184) at_182 rfl rfl rfl ?_
    refine A.iload (q := 186) at_184 rfl rfl ?_
    refine A.iconst (q := 187) (v := (2 : Int32)) at_186 rfl (by decide) ?_
    refine A.iadd (q := 188) (v := (2 : Int32)) at_187 rfl (by decide) ?_
    refine A.iaload (q := 189) (i := 1) (v := (.int v7)) at_188 rfl rfl (by decide) rfl ?_
    refine A.istore (q := 191) (l' := #[.val (.long sl), .second, .val (.int pp), .val (.int qq), .val (.int rr), .val (.int sh), .val (.int v1), .val (.int (0 : Int32)), .val (.ref b4), .val (.ref b11), .val (.int v12), .val (.int v13), .val (.int v14), .val (.int v5), .val (.int v6), .val (.int v7), .unset, .unset, .unset, .unset, .unset, .unset, .unset, .unset]) at_189 rfl rfl ?_
    have hn : v1 = 0 ∨ v1 = 1 ∨ v1 = 2 ∨ v1 = 3 := by subst e1 e2 e5 e6 e7 e8 e9 e10 e12 e13 e14; exact own_and3 _
    rcases hn with rfl | rfl | rfl | rfl
    · have J191_14 : ∀ (T : State), Here p l e room_1 s m ([(.long sl), (.int pp), (.int qq), (.int rr), (.int sh)] : List Value).toArray below meth c Z a0 tables_1 x.cls x.name code 24 (some .boolean) n0 T [(b11, .inr (.int, [(.int v12), (.int v13), (.int v14)])), (b4, .inr (.int, [(.int v5), (.int v6), (.int v7), (.int v8), (.int v9), (.int v10)]))] 2 9 → Go p e below (EndS below s n0 Z 16 128 (fun v _ => v = some (.int 1))) (T.setTop (mkF m 211 #[.val (.long sl), .second, .val (.int pp), .val (.int qq), .val (.int rr), .val (.int sh), .val (.int (0 : Int32)), .val (.int (0 : Int32)), .val (.ref b4), .val (.ref b11), .val (.int v12), .val (.int v13), .val (.int v14), .val (.int v5), .val (.int v6), .val (.int v7), .unset, .unset, .unset, .unset, .unset, .unset, .unset, .unset] [(.int (0 : Int32))])) := by
       intro T  A
       refine A.istore (q := 213) (l' := #[.val (.long sl), .second, .val (.int pp), .val (.int qq), .val (.int rr), .val (.int sh), .val (.int (0 : Int32)), .val (.int (0 : Int32)), .val (.ref b4), .val (.ref b11), .val (.int v12), .val (.int v13), .val (.int v14), .val (.int v5), .val (.int v6), .val (.int v7), .val (.int (0 : Int32)), .unset, .unset, .unset, .unset, .unset, .unset, .unset]) at_211 rfl rfl ?_
       have J213_15 : ∀ (T : State), Here p l e room_1 s m ([(.long sl), (.int pp), (.int qq), (.int rr), (.int sh)] : List Value).toArray below meth c Z a0 tables_1 x.cls x.name code 24 (some .boolean) n0 T [(b11, .inr (.int, [(.int v12), (.int v13), (.int v14)])), (b4, .inr (.int, [(.int v5), (.int v6), (.int v7), (.int v8), (.int v9), (.int v10)]))] 2 9 → Go p e below (EndS below s n0 Z 16 128 (fun v _ => v = some (.int 1))) (T.setTop (mkF m 234 #[.val (.long sl), .second, .val (.int pp), .val (.int qq), .val (.int rr), .val (.int sh), .val (.int (0 : Int32)), .val (.int (0 : Int32)), .val (.ref b4), .val (.ref b11), .val (.int v12), .val (.int v13), .val (.int v14), .val (.int v5), .val (.int v6), .val (.int v7), .val (.int (0 : Int32)), .unset, .unset, .unset, .unset, .unset, .unset, .unset] [(.int (0 : Int32))])) := by
        intro T  A
        refine A.istore (q := 236) (l' := #[.val (.long sl), .second, .val (.int pp), .val (.int qq), .val (.int rr), .val (.int sh), .val (.int (0 : Int32)), .val (.int (0 : Int32)), .val (.ref b4), .val (.ref b11), .val (.int v12), .val (.int v13), .val (.int v14), .val (.int v5), .val (.int v6), .val (.int v7), .val (.int (0 : Int32)), .val (.int (0 : Int32)), .unset, .unset, .unset, .unset, .unset, .unset]) at_234 rfl rfl ?_
        have J236_16 : ∀ (T : State), Here p l e room_1 s m ([(.long sl), (.int pp), (.int qq), (.int rr), (.int sh)] : List Value).toArray below meth c Z a0 tables_1 x.cls x.name code 24 (some .boolean) n0 T [(b11, .inr (.int, [(.int v12), (.int v13), (.int v14)])), (b4, .inr (.int, [(.int v5), (.int v6), (.int v7), (.int v8), (.int v9), (.int v10)]))] 2 9 → Go p e below (EndS below s n0 Z 16 128 (fun v _ => v = some (.int 1))) (T.setTop (mkF m 257 #[.val (.long sl), .second, .val (.int pp), .val (.int qq), .val (.int rr), .val (.int sh), .val (.int (0 : Int32)), .val (.int (0 : Int32)), .val (.ref b4), .val (.ref b11), .val (.int v12), .val (.int v13), .val (.int v14), .val (.int v5), .val (.int v6), .val (.int v7), .val (.int (0 : Int32)), .val (.int (0 : Int32)), .unset, .unset, .unset, .unset, .unset, .unset] [(.int (0 : Int32))])) := by
         intro T  A
         refine A.istore (q := 259) (l' := #[.val (.long sl), .second, .val (.int pp), .val (.int qq), .val (.int rr), .val (.int sh), .val (.int (0 : Int32)), .val (.int (0 : Int32)), .val (.ref b4), .val (.ref b11), .val (.int v12), .val (.int v13), .val (.int v14), .val (.int v5), .val (.int v6), .val (.int v7), .val (.int (0 : Int32)), .val (.int (0 : Int32)), .val (.int (0 : Int32)), .unset, .unset, .unset, .unset, .unset]) at_257 rfl rfl ?_
         have J259_17 : ∀ (T : State), Here p l e room_1 s m ([(.long sl), (.int pp), (.int qq), (.int rr), (.int sh)] : List Value).toArray below meth c Z a0 tables_1 x.cls x.name code 24 (some .boolean) n0 T [(b11, .inr (.int, [(.int v12), (.int v13), (.int v14)])), (b4, .inr (.int, [(.int v5), (.int v6), (.int v7), (.int v8), (.int v9), (.int v10)]))] 2 9 → Go p e below (EndS below s n0 Z 16 128 (fun v _ => v = some (.int 1))) (T.setTop (mkF m 279 #[.val (.long sl), .second, .val (.int pp), .val (.int qq), .val (.int rr), .val (.int sh), .val (.int (0 : Int32)), .val (.int (0 : Int32)), .val (.ref b4), .val (.ref b11), .val (.int v12), .val (.int v13), .val (.int v14), .val (.int v5), .val (.int v6), .val (.int v7), .val (.int (0 : Int32)), .val (.int (0 : Int32)), .val (.int (0 : Int32)), .unset, .unset, .unset, .unset, .unset] [(.int (1 : Int32))])) := by
          intro T  A
          refine A.istore (q := 281) (l' := #[.val (.long sl), .second, .val (.int pp), .val (.int qq), .val (.int rr), .val (.int sh), .val (.int (0 : Int32)), .val (.int (0 : Int32)), .val (.ref b4), .val (.ref b11), .val (.int v12), .val (.int v13), .val (.int v14), .val (.int v5), .val (.int v6), .val (.int v7), .val (.int (0 : Int32)), .val (.int (0 : Int32)), .val (.int (0 : Int32)), .val (.int (1 : Int32)), .unset, .unset, .unset, .unset]) at_279 rfl rfl ?_
          have J281_18 : ∀ (T : State), Here p l e room_1 s m ([(.long sl), (.int pp), (.int qq), (.int rr), (.int sh)] : List Value).toArray below meth c Z a0 tables_1 x.cls x.name code 24 (some .boolean) n0 T [(b11, .inr (.int, [(.int v12), (.int v13), (.int v14)])), (b4, .inr (.int, [(.int v5), (.int v6), (.int v7), (.int v8), (.int v9), (.int v10)]))] 2 9 → Go p e below (EndS below s n0 Z 16 128 (fun v _ => v = some (.int 1))) (T.setTop (mkF m 298 #[.val (.long sl), .second, .val (.int pp), .val (.int qq), .val (.int rr), .val (.int sh), .val (.int (0 : Int32)), .val (.int (0 : Int32)), .val (.ref b4), .val (.ref b11), .val (.int v12), .val (.int v13), .val (.int v14), .val (.int v5), .val (.int v6), .val (.int v7), .val (.int (0 : Int32)), .val (.int (0 : Int32)), .val (.int (0 : Int32)), .val (.int (1 : Int32)), .unset, .unset, .unset, .unset] [(.int v12)])) := by
           intro T  A
           refine A.istore (q := 300) (l' := #[.val (.long sl), .second, .val (.int pp), .val (.int qq), .val (.int rr), .val (.int sh), .val (.int (0 : Int32)), .val (.int (0 : Int32)), .val (.ref b4), .val (.ref b11), .val (.int v12), .val (.int v13), .val (.int v14), .val (.int v5), .val (.int v6), .val (.int v7), .val (.int (0 : Int32)), .val (.int (0 : Int32)), .val (.int (0 : Int32)), .val (.int (1 : Int32)), .val (.int v12), .unset, .unset, .unset]) at_298 rfl rfl ?_
           have J300_19 : ∀ (T : State), Here p l e room_1 s m ([(.long sl), (.int pp), (.int qq), (.int rr), (.int sh)] : List Value).toArray below meth c Z a0 tables_1 x.cls x.name code 24 (some .boolean) n0 T [(b11, .inr (.int, [(.int v12), (.int v13), (.int v14)])), (b4, .inr (.int, [(.int v5), (.int v6), (.int v7), (.int v8), (.int v9), (.int v10)]))] 2 9 → Go p e below (EndS below s n0 Z 16 128 (fun v _ => v = some (.int 1))) (T.setTop (mkF m 323 #[.val (.long sl), .second, .val (.int pp), .val (.int qq), .val (.int rr), .val (.int sh), .val (.int (0 : Int32)), .val (.int (0 : Int32)), .val (.ref b4), .val (.ref b11), .val (.int v12), .val (.int v13), .val (.int v14), .val (.int v5), .val (.int v6), .val (.int v7), .val (.int (0 : Int32)), .val (.int (0 : Int32)), .val (.int (0 : Int32)), .val (.int (1 : Int32)), .val (.int v12), .unset, .unset, .unset] [(.int v13)])) := by
            intro T  A
            refine A.istore (q := 325) (l' := #[.val (.long sl), .second, .val (.int pp), .val (.int qq), .val (.int rr), .val (.int sh), .val (.int (0 : Int32)), .val (.int (0 : Int32)), .val (.ref b4), .val (.ref b11), .val (.int v12), .val (.int v13), .val (.int v14), .val (.int v5), .val (.int v6), .val (.int v7), .val (.int (0 : Int32)), .val (.int (0 : Int32)), .val (.int (0 : Int32)), .val (.int (1 : Int32)), .val (.int v12), .val (.int v13), .unset, .unset]) at_323 rfl rfl ?_
            have J325_20 : ∀ (T : State), Here p l e room_1 s m ([(.long sl), (.int pp), (.int qq), (.int rr), (.int sh)] : List Value).toArray below meth c Z a0 tables_1 x.cls x.name code 24 (some .boolean) n0 T [(b11, .inr (.int, [(.int v12), (.int v13), (.int v14)])), (b4, .inr (.int, [(.int v5), (.int v6), (.int v7), (.int v8), (.int v9), (.int v10)]))] 2 9 → Go p e below (EndS below s n0 Z 16 128 (fun v _ => v = some (.int 1))) (T.setTop (mkF m 353 #[.val (.long sl), .second, .val (.int pp), .val (.int qq), .val (.int rr), .val (.int sh), .val (.int (0 : Int32)), .val (.int (0 : Int32)), .val (.ref b4), .val (.ref b11), .val (.int v12), .val (.int v13), .val (.int v14), .val (.int v5), .val (.int v6), .val (.int v7), .val (.int (0 : Int32)), .val (.int (0 : Int32)), .val (.int (0 : Int32)), .val (.int (1 : Int32)), .val (.int v12), .val (.int v13), .unset, .unset] [(.int v14)])) := by
             intro T  A
             refine A.istore (q := 355) (l' := #[.val (.long sl), .second, .val (.int pp), .val (.int qq), .val (.int rr), .val (.int sh), .val (.int (0 : Int32)), .val (.int (0 : Int32)), .val (.ref b4), .val (.ref b11), .val (.int v12), .val (.int v13), .val (.int v14), .val (.int v5), .val (.int v6), .val (.int v7), .val (.int (0 : Int32)), .val (.int (0 : Int32)), .val (.int (0 : Int32)), .val (.int (1 : Int32)), .val (.int v12), .val (.int v13), .val (.int v14), .unset]) at_353 rfl rfl ?_
             refine A.aload (q := 357) at_355 rfl rfl rfl ?_
             refine A.iload (q := 359) at_357 rfl rfl ?_
             refine A.iload (q := 361) at_359 rfl rfl ?_
             refine A.aload (q := 363) at_361 rfl rfl rfl ?_
             have A := A.front (i := 1) (L' := [(b4, .inr (.int, [(.int v5), (.int v6), (.int v7), (.int v8), (.int v9), (.int v10)])), (b11, .inr (.int, [(.int v12), (.int v13), (.int v14)]))]) rfl rfl
             refine A.callS (q := 366) (w1 := 12) (w2 := 13) (w3 := 14) (w4 := 15) (as := [(.ref b4), (.int (0 : Int32)), (.int (0 : Int32)), (.ref b11)]) (st := []) (W := 0) at_363 rfl rfl rfl rfl rfl (rmI_1 l Z a0 hw n0 b4 b11 v5 v6 v7 v8 v9 v10 v12 v13 v14 _) (by decide) ⟨_, _, pd_1, rfl⟩ rfl rfl rfl (by decide) (by decide) (by decide) (by decide) ?_
             rintro _ T _ ⟨rfl, rfl⟩ A
             show Go p e below _ (T.setTop (mkF m 366 #[.val (.long sl), .second, .val (.int pp), .val (.int qq), .val (.int rr), .val (.int sh), .val (.int (0 : Int32)), .val (.int (0 : Int32)), .val (.ref b4), .val (.ref b11), .val (.int v12), .val (.int v13), .val (.int v14), .val (.int v5), .val (.int v6), .val (.int v7), .val (.int (0 : Int32)), .val (.int (0 : Int32)), .val (.int (0 : Int32)), .val (.int (1 : Int32)), .val (.int v12), .val (.int v13), .val (.int v14), .unset] [(.int (1 : Int32))]))
             refine A.istore (q := 368) (l' := #[.val (.long sl), .second, .val (.int pp), .val (.int qq), .val (.int rr), .val (.int sh), .val (.int (0 : Int32)), .val (.int (0 : Int32)), .val (.ref b4), .val (.ref b11), .val (.int v12), .val (.int v13), .val (.int v14), .val (.int v5), .val (.int v6), .val (.int v7), .val (.int (0 : Int32)), .val (.int (0 : Int32)), .val (.int (0 : Int32)), .val (.int (1 : Int32)), .val (.int v12), .val (.int v13), .val (.int v14), .val (.int (1 : Int32))]) at_366 rfl rfl ?_
             refine A.iload (q := 370) at_368 rfl rfl ?_
             refine A.iload (q := 372) at_370 rfl rfl ?_
             refine A.icmpF (q := 375) at_372 rfl (by decide) ?_
             refine A.aload (q := 377) at_375 rfl rfl rfl ?_
             refine A.iconst (q := 378) (v := (0 : Int32)) at_377 rfl (by decide) ?_
             refine A.iaload (q := 379) (i := 1) (v := (.int v12)) at_378 rfl rfl (by decide) rfl ?_
             refine A.iload (q := 381) at_379 rfl rfl ?_
             refine A.icmpF (q := 384) at_381 rfl (teq rfl).2 ?_
             refine A.aload (q := 386) at_384 rfl rfl rfl ?_
             refine A.iconst (q := 387) (v := (1 : Int32)) at_386 rfl (by decide) ?_
             refine A.iaload (q := 388) (i := 1) (v := (.int v13)) at_387 rfl rfl (by decide) rfl ?_
             refine A.iload (q := 390) at_388 rfl rfl ?_
             refine A.icmpF (q := 393) at_390 rfl (teq rfl).2 ?_
             refine A.aload (q := 395) at_393 rfl rfl rfl ?_
             refine A.iconst (q := 396) (v := (2 : Int32)) at_395 rfl (by decide) ?_
             refine A.iaload (q := 397) (i := 1) (v := (.int v14)) at_396 rfl rfl (by decide) rfl ?_
             refine A.iload (q := 399) at_397 rfl rfl ?_
             refine A.icmpF (q := 402) at_399 rfl (teq rfl).2 ?_
             refine A.iconst (q := 403) (v := (1 : Int32)) at_402 rfl (by decide) ?_
             refine A.goto (r := 407) at_403 (by decide) ?_
             exact A.retZ (v := 1) at_407 (by decide) (by decide) (by decide) rfl
            refine A.iload (q := 327) at_325 rfl rfl ?_
            refine A.iconst (q := 328) (v := (2 : Int32)) at_327 rfl (by decide) ?_
            refine A.icmpT (r := 351) at_328 (by decide) (by decide) ?_
            refine A.iload (q := 353) at_351 rfl rfl ?_
            exact J325_20 T  A
           refine A.iload (q := 302) at_300 rfl rfl ?_
           refine A.iconst (q := 303) (v := (1 : Int32)) at_302 rfl (by decide) ?_
           refine A.icmpT (r := 321) at_303 (by decide) (by decide) ?_
           refine A.iload (q := 323) at_321 rfl rfl ?_
           exact J300_19 T  A
          refine A.iload (q := 283) at_281 rfl rfl ?_
          refine A.ifT (r := 296) at_283 (by decide) (by decide) ?_
          refine A.iload (q := 298) at_296 rfl rfl ?_
          exact J281_18 T  A
         refine A.iload (q := 261) at_259 rfl rfl ?_
         refine A.ifF (q := 264) at_261 rfl (by decide) ?_
         refine A.iload (q := 266) at_264 rfl rfl ?_
         refine A.ifF (q := 269) at_266 rfl (by decide) ?_
         refine A.iload (q := 271) at_269 rfl rfl ?_
         refine A.ifF (q := 274) at_271 rfl (by decide) ?_
         refine A.iconst (q := 275) (v := (1 : Int32)) at_274 rfl (by decide) ?_
         refine A.goto (r := 279) at_275 (by decide) ?_
         exact J259_17 T  A
        refine A.iload (q := 238) at_236 rfl rfl ?_
        refine A.iconst (q := 239) (v := (2 : Int32)) at_238 rfl (by decide) ?_
        refine A.icmpT (r := 256) at_239 (by decide) (by decide) ?_
        refine A.iconst (q := 257) (v := (0 : Int32)) at_256 rfl (by decide) ?_
        exact J236_16 T  A
       refine A.iload (q := 215) at_213 rfl rfl ?_
       refine A.iconst (q := 216) (v := (1 : Int32)) at_215 rfl (by decide) ?_
       refine A.icmpT (r := 233) at_216 (by decide) (by decide) ?_
       refine A.iconst (q := 234) (v := (0 : Int32)) at_233 rfl (by decide) ?_
       exact J213_15 T  A
      refine A.iload (q := 193) at_191 rfl rfl ?_
      refine A.ifT (r := 210) at_193 (by decide) (by decide) ?_
      refine A.iconst (q := 211) (v := (0 : Int32)) at_210 rfl (by decide) ?_
      exact J191_14 T  A
    · have J191_24 : ∀ (T : State) (j24 : Int32), j24 = (if ((FC v5 v12)) = (0 : Int32) then (0 : Int32) else (1 : Int32)) → Here p l e room_1 s m ([(.long sl), (.int pp), (.int qq), (.int rr), (.int sh)] : List Value).toArray below meth c Z a0 tables_1 x.cls x.name code 24 (some .boolean) n0 T [(b11, .inr (.int, [(.int v12), (.int v13), (.int v14)])), (b4, .inr (.int, [(.int v5), (.int v6), (.int v7), (.int v8), (.int v9), (.int v10)]))] 2 9 → Go p e below (EndS below s n0 Z 16 128 (fun v _ => v = some (.int 1))) (T.setTop (mkF m 211 #[.val (.long sl), .second, .val (.int pp), .val (.int qq), .val (.int rr), .val (.int sh), .val (.int (1 : Int32)), .val (.int (0 : Int32)), .val (.ref b4), .val (.ref b11), .val (.int v12), .val (.int v13), .val (.int v14), .val (.int v5), .val (.int v6), .val (.int v7), .unset, .unset, .unset, .unset, .unset, .unset, .unset, .unset] [(.int j24)])) := by
       intro T j24 ej24 A
       have z_j24 : nar .boolean j24 = j24 := by rw [ej24]; (repeat' split) <;> first | decide | assumption
       refine A.istore (q := 213) (l' := #[.val (.long sl), .second, .val (.int pp), .val (.int qq), .val (.int rr), .val (.int sh), .val (.int (1 : Int32)), .val (.int (0 : Int32)), .val (.ref b4), .val (.ref b11), .val (.int v12), .val (.int v13), .val (.int v14), .val (.int v5), .val (.int v6), .val (.int v7), .val (.int j24), .unset, .unset, .unset, .unset, .unset, .unset, .unset]) at_211 rfl rfl ?_
       have J213_25 : ∀ (T : State), Here p l e room_1 s m ([(.long sl), (.int pp), (.int qq), (.int rr), (.int sh)] : List Value).toArray below meth c Z a0 tables_1 x.cls x.name code 24 (some .boolean) n0 T [(b11, .inr (.int, [(.int v12), (.int v13), (.int v14)])), (b4, .inr (.int, [(.int v5), (.int v6), (.int v7), (.int v8), (.int v9), (.int v10)]))] 2 9 → Go p e below (EndS below s n0 Z 16 128 (fun v _ => v = some (.int 1))) (T.setTop (mkF m 234 #[.val (.long sl), .second, .val (.int pp), .val (.int qq), .val (.int rr), .val (.int sh), .val (.int (1 : Int32)), .val (.int (0 : Int32)), .val (.ref b4), .val (.ref b11), .val (.int v12), .val (.int v13), .val (.int v14), .val (.int v5), .val (.int v6), .val (.int v7), .val (.int j24), .unset, .unset, .unset, .unset, .unset, .unset, .unset] [(.int (0 : Int32))])) := by
        intro T  A
        refine A.istore (q := 236) (l' := #[.val (.long sl), .second, .val (.int pp), .val (.int qq), .val (.int rr), .val (.int sh), .val (.int (1 : Int32)), .val (.int (0 : Int32)), .val (.ref b4), .val (.ref b11), .val (.int v12), .val (.int v13), .val (.int v14), .val (.int v5), .val (.int v6), .val (.int v7), .val (.int j24), .val (.int (0 : Int32)), .unset, .unset, .unset, .unset, .unset, .unset]) at_234 rfl rfl ?_
        have J236_26 : ∀ (T : State), Here p l e room_1 s m ([(.long sl), (.int pp), (.int qq), (.int rr), (.int sh)] : List Value).toArray below meth c Z a0 tables_1 x.cls x.name code 24 (some .boolean) n0 T [(b11, .inr (.int, [(.int v12), (.int v13), (.int v14)])), (b4, .inr (.int, [(.int v5), (.int v6), (.int v7), (.int v8), (.int v9), (.int v10)]))] 2 9 → Go p e below (EndS below s n0 Z 16 128 (fun v _ => v = some (.int 1))) (T.setTop (mkF m 257 #[.val (.long sl), .second, .val (.int pp), .val (.int qq), .val (.int rr), .val (.int sh), .val (.int (1 : Int32)), .val (.int (0 : Int32)), .val (.ref b4), .val (.ref b11), .val (.int v12), .val (.int v13), .val (.int v14), .val (.int v5), .val (.int v6), .val (.int v7), .val (.int j24), .val (.int (0 : Int32)), .unset, .unset, .unset, .unset, .unset, .unset] [(.int (0 : Int32))])) := by
         intro T  A
         refine A.istore (q := 259) (l' := #[.val (.long sl), .second, .val (.int pp), .val (.int qq), .val (.int rr), .val (.int sh), .val (.int (1 : Int32)), .val (.int (0 : Int32)), .val (.ref b4), .val (.ref b11), .val (.int v12), .val (.int v13), .val (.int v14), .val (.int v5), .val (.int v6), .val (.int v7), .val (.int j24), .val (.int (0 : Int32)), .val (.int (0 : Int32)), .unset, .unset, .unset, .unset, .unset]) at_257 rfl rfl ?_
         have J259_29 : ∀ (T : State) (j29 : Int32), j29 = (if j24 = (0 : Int32) then (1 : Int32) else (0 : Int32)) → Here p l e room_1 s m ([(.long sl), (.int pp), (.int qq), (.int rr), (.int sh)] : List Value).toArray below meth c Z a0 tables_1 x.cls x.name code 24 (some .boolean) n0 T [(b11, .inr (.int, [(.int v12), (.int v13), (.int v14)])), (b4, .inr (.int, [(.int v5), (.int v6), (.int v7), (.int v8), (.int v9), (.int v10)]))] 2 9 → Go p e below (EndS below s n0 Z 16 128 (fun v _ => v = some (.int 1))) (T.setTop (mkF m 279 #[.val (.long sl), .second, .val (.int pp), .val (.int qq), .val (.int rr), .val (.int sh), .val (.int (1 : Int32)), .val (.int (0 : Int32)), .val (.ref b4), .val (.ref b11), .val (.int v12), .val (.int v13), .val (.int v14), .val (.int v5), .val (.int v6), .val (.int v7), .val (.int j24), .val (.int (0 : Int32)), .val (.int (0 : Int32)), .unset, .unset, .unset, .unset, .unset] [(.int j29)])) := by
          intro T j29 ej29 A
          have z_j29 : nar .boolean j29 = j29 := by rw [ej29]; (repeat' split) <;> first | decide | assumption
          refine A.istore (q := 281) (l' := #[.val (.long sl), .second, .val (.int pp), .val (.int qq), .val (.int rr), .val (.int sh), .val (.int (1 : Int32)), .val (.int (0 : Int32)), .val (.ref b4), .val (.ref b11), .val (.int v12), .val (.int v13), .val (.int v14), .val (.int v5), .val (.int v6), .val (.int v7), .val (.int j24), .val (.int (0 : Int32)), .val (.int (0 : Int32)), .val (.int j29), .unset, .unset, .unset, .unset]) at_279 rfl rfl ?_
          have J281_32 : ∀ (T : State) (j32 : Int32), j32 = ((FG v5 v12)) → Here p l e room_1 s m ([(.long sl), (.int pp), (.int qq), (.int rr), (.int sh)] : List Value).toArray below meth c Z a0 tables_1 x.cls x.name code 24 (some .boolean) n0 T [(b11, .inr (.int, [(.int v12), (.int v13), (.int v14)])), (b4, .inr (.int, [(.int v5), (.int v6), (.int v7), (.int v8), (.int v9), (.int v10)]))] 2 9 → Go p e below (EndS below s n0 Z 16 128 (fun v _ => v = some (.int 1))) (T.setTop (mkF m 298 #[.val (.long sl), .second, .val (.int pp), .val (.int qq), .val (.int rr), .val (.int sh), .val (.int (1 : Int32)), .val (.int (0 : Int32)), .val (.ref b4), .val (.ref b11), .val (.int v12), .val (.int v13), .val (.int v14), .val (.int v5), .val (.int v6), .val (.int v7), .val (.int j24), .val (.int (0 : Int32)), .val (.int (0 : Int32)), .val (.int j29), .unset, .unset, .unset, .unset] [(.int j32)])) := by
           intro T j32 ej32 A
           refine A.istore (q := 300) (l' := #[.val (.long sl), .second, .val (.int pp), .val (.int qq), .val (.int rr), .val (.int sh), .val (.int (1 : Int32)), .val (.int (0 : Int32)), .val (.ref b4), .val (.ref b11), .val (.int v12), .val (.int v13), .val (.int v14), .val (.int v5), .val (.int v6), .val (.int v7), .val (.int j24), .val (.int (0 : Int32)), .val (.int (0 : Int32)), .val (.int j29), .val (.int j32), .unset, .unset, .unset]) at_298 rfl rfl ?_
           have J300_33 : ∀ (T : State), Here p l e room_1 s m ([(.long sl), (.int pp), (.int qq), (.int rr), (.int sh)] : List Value).toArray below meth c Z a0 tables_1 x.cls x.name code 24 (some .boolean) n0 T [(b11, .inr (.int, [(.int v12), (.int v13), (.int v14)])), (b4, .inr (.int, [(.int v5), (.int v6), (.int v7), (.int v8), (.int v9), (.int v10)]))] 2 9 → Go p e below (EndS below s n0 Z 16 128 (fun v _ => v = some (.int 1))) (T.setTop (mkF m 323 #[.val (.long sl), .second, .val (.int pp), .val (.int qq), .val (.int rr), .val (.int sh), .val (.int (1 : Int32)), .val (.int (0 : Int32)), .val (.ref b4), .val (.ref b11), .val (.int v12), .val (.int v13), .val (.int v14), .val (.int v5), .val (.int v6), .val (.int v7), .val (.int j24), .val (.int (0 : Int32)), .val (.int (0 : Int32)), .val (.int j29), .val (.int j32), .unset, .unset, .unset] [(.int v13)])) := by
            intro T  A
            refine A.istore (q := 325) (l' := #[.val (.long sl), .second, .val (.int pp), .val (.int qq), .val (.int rr), .val (.int sh), .val (.int (1 : Int32)), .val (.int (0 : Int32)), .val (.ref b4), .val (.ref b11), .val (.int v12), .val (.int v13), .val (.int v14), .val (.int v5), .val (.int v6), .val (.int v7), .val (.int j24), .val (.int (0 : Int32)), .val (.int (0 : Int32)), .val (.int j29), .val (.int j32), .val (.int v13), .unset, .unset]) at_323 rfl rfl ?_
            have J325_34 : ∀ (T : State), Here p l e room_1 s m ([(.long sl), (.int pp), (.int qq), (.int rr), (.int sh)] : List Value).toArray below meth c Z a0 tables_1 x.cls x.name code 24 (some .boolean) n0 T [(b11, .inr (.int, [(.int v12), (.int v13), (.int v14)])), (b4, .inr (.int, [(.int v5), (.int v6), (.int v7), (.int v8), (.int v9), (.int v10)]))] 2 9 → Go p e below (EndS below s n0 Z 16 128 (fun v _ => v = some (.int 1))) (T.setTop (mkF m 353 #[.val (.long sl), .second, .val (.int pp), .val (.int qq), .val (.int rr), .val (.int sh), .val (.int (1 : Int32)), .val (.int (0 : Int32)), .val (.ref b4), .val (.ref b11), .val (.int v12), .val (.int v13), .val (.int v14), .val (.int v5), .val (.int v6), .val (.int v7), .val (.int j24), .val (.int (0 : Int32)), .val (.int (0 : Int32)), .val (.int j29), .val (.int j32), .val (.int v13), .unset, .unset] [(.int v14)])) := by
             intro T  A
             refine A.istore (q := 355) (l' := #[.val (.long sl), .second, .val (.int pp), .val (.int qq), .val (.int rr), .val (.int sh), .val (.int (1 : Int32)), .val (.int (0 : Int32)), .val (.ref b4), .val (.ref b11), .val (.int v12), .val (.int v13), .val (.int v14), .val (.int v5), .val (.int v6), .val (.int v7), .val (.int j24), .val (.int (0 : Int32)), .val (.int (0 : Int32)), .val (.int j29), .val (.int j32), .val (.int v13), .val (.int v14), .unset]) at_353 rfl rfl ?_
             refine A.aload (q := 357) at_355 rfl rfl rfl ?_
             refine A.iload (q := 359) at_357 rfl rfl ?_
             refine A.iload (q := 361) at_359 rfl rfl ?_
             refine A.aload (q := 363) at_361 rfl rfl rfl ?_
             have A := A.front (i := 1) (L' := [(b4, .inr (.int, [(.int v5), (.int v6), (.int v7), (.int v8), (.int v9), (.int v10)])), (b11, .inr (.int, [(.int v12), (.int v13), (.int v14)]))]) rfl rfl
             refine A.callS (q := 366) (w1 := 12) (w2 := 13) (w3 := 14) (w4 := 15) (as := [(.ref b4), (.int (0 : Int32)), (.int (1 : Int32)), (.ref b11)]) (st := []) (W := 0) at_363 rfl rfl rfl rfl rfl (rmI_2 l Z a0 hw n0 b4 b11 v5 v6 v7 v8 v9 v10 v12 v13 v14 _) (by decide) ⟨_, _, pd_1, rfl⟩ rfl rfl rfl (by decide) (by decide) (by decide) (by decide) ?_
             rintro _ T _ ⟨rfl, rfl⟩ A
             show Go p e below _ (T.setTop (mkF m 366 #[.val (.long sl), .second, .val (.int pp), .val (.int qq), .val (.int rr), .val (.int sh), .val (.int (1 : Int32)), .val (.int (0 : Int32)), .val (.ref b4), .val (.ref b11), .val (.int v12), .val (.int v13), .val (.int v14), .val (.int v5), .val (.int v6), .val (.int v7), .val (.int j24), .val (.int (0 : Int32)), .val (.int (0 : Int32)), .val (.int j29), .val (.int j32), .val (.int v13), .val (.int v14), .unset] [(.int (FI_2 v5 v12))]))
             obtain ⟨v36, e36⟩ : ∃ v : Int32, (FI_2 v5 v12) = v := ⟨_, rfl⟩
             rw [e36]
             refine A.istore (q := 368) (l' := #[.val (.long sl), .second, .val (.int pp), .val (.int qq), .val (.int rr), .val (.int sh), .val (.int (1 : Int32)), .val (.int (0 : Int32)), .val (.ref b4), .val (.ref b11), .val (.int v12), .val (.int v13), .val (.int v14), .val (.int v5), .val (.int v6), .val (.int v7), .val (.int j24), .val (.int (0 : Int32)), .val (.int (0 : Int32)), .val (.int j29), .val (.int j32), .val (.int v13), .val (.int v14), .val (.int v36)]) at_366 rfl rfl ?_
             refine A.iload (q := 370) at_368 rfl rfl ?_
             refine A.iload (q := 372) at_370 rfl rfl ?_
             refine A.icmpF (q := 375) at_372 rfl (teq (by subst e2 e5 e6 e7 e8 e9 e10 e12 e13 e14 ej24 ej29 ej32 e36; exact own_w1_0 _ 0 0 _ 0 0 : v36 = j29)).2 ?_
             refine A.aload (q := 377) at_375 rfl rfl rfl ?_
             refine A.iconst (q := 378) (v := (0 : Int32)) at_377 rfl (by decide) ?_
             refine A.iaload (q := 379) (i := 1) (v := (.int (if (v5 = (-1 : Int32)) ∨ (¬ (v5 = (-1 : Int32)) ∧ ¬ (v12 = (-1 : Int32)) ∧ v12 = v5) ∨ (¬ (v5 = (-1 : Int32)) ∧ v12 = (-1 : Int32)) then ((if v5 = (-1 : Int32) then v12 else (if v12 = (-1 : Int32) then v5 else v12))) else v12))) at_378 rfl rfl (by decide) rfl ?_
             refine A.iload (q := 381) at_379 rfl rfl ?_
             refine A.icmpF (q := 384) at_381 rfl (teq (by subst e2 e5 e6 e7 e8 e9 e10 e12 e13 e14 ej24 ej29 ej32 e36; exact own_w1_1 _ 0 0 _ 0 0 : (if (v5 = (-1 : Int32)) ∨ (¬ (v5 = (-1 : Int32)) ∧ ¬ (v12 = (-1 : Int32)) ∧ v12 = v5) ∨ (¬ (v5 = (-1 : Int32)) ∧ v12 = (-1 : Int32)) then ((if v5 = (-1 : Int32) then v12 else (if v12 = (-1 : Int32) then v5 else v12))) else v12) = j32)).2 ?_
             refine A.aload (q := 386) at_384 rfl rfl rfl ?_
             refine A.iconst (q := 387) (v := (1 : Int32)) at_386 rfl (by decide) ?_
             refine A.iaload (q := 388) (i := 1) (v := (.int v13)) at_387 rfl rfl (by decide) rfl ?_
             refine A.iload (q := 390) at_388 rfl rfl ?_
             refine A.icmpF (q := 393) at_390 rfl (teq rfl).2 ?_
             refine A.aload (q := 395) at_393 rfl rfl rfl ?_
             refine A.iconst (q := 396) (v := (2 : Int32)) at_395 rfl (by decide) ?_
             refine A.iaload (q := 397) (i := 1) (v := (.int v14)) at_396 rfl rfl (by decide) rfl ?_
             refine A.iload (q := 399) at_397 rfl rfl ?_
             refine A.icmpF (q := 402) at_399 rfl (teq rfl).2 ?_
             refine A.iconst (q := 403) (v := (1 : Int32)) at_402 rfl (by decide) ?_
             refine A.goto (r := 407) at_403 (by decide) ?_
             exact A.retZ (v := 1) at_407 (by decide) (by decide) (by decide) rfl
            refine A.iload (q := 327) at_325 rfl rfl ?_
            refine A.iconst (q := 328) (v := (2 : Int32)) at_327 rfl (by decide) ?_
            refine A.icmpT (r := 351) at_328 (by decide) (by decide) ?_
            refine A.iload (q := 353) at_351 rfl rfl ?_
            exact J325_34 T  A
           refine A.iload (q := 302) at_300 rfl rfl ?_
           refine A.iconst (q := 303) (v := (1 : Int32)) at_302 rfl (by decide) ?_
           refine A.icmpT (r := 321) at_303 (by decide) (by decide) ?_
           refine A.iload (q := 323) at_321 rfl rfl ?_
           exact J300_33 T  A
          refine A.iload (q := 283) at_281 rfl rfl ?_
          refine A.ifF (q := 286) at_283 rfl (by decide) ?_
          refine A.iload (q := 288) at_286 rfl rfl ?_
          refine A.iload (q := 290) at_288 rfl rfl ?_
          refine A.callS (q := 293) (w1 := 9) (w2 := 10) (w3 := 3) (w4 := 11) (as := [(.int v5), (.int v12)]) (st := []) (W := 0) at_290 rfl rfl rfl rfl rfl (rmG l Z a0 hw n0 v5 v12 _) (by decide) ⟨_, _, pd_3, rfl⟩ rfl rfl rfl (by decide) (by decide) (by decide) (by decide) ?_
          rintro _ T _ ⟨rfl, rfl⟩ A
          show Go p e below _ (T.setTop (mkF m 293 #[.val (.long sl), .second, .val (.int pp), .val (.int qq), .val (.int rr), .val (.int sh), .val (.int (1 : Int32)), .val (.int (0 : Int32)), .val (.ref b4), .val (.ref b11), .val (.int v12), .val (.int v13), .val (.int v14), .val (.int v5), .val (.int v6), .val (.int v7), .val (.int j24), .val (.int (0 : Int32)), .val (.int (0 : Int32)), .val (.int j29), .unset, .unset, .unset, .unset] [(.int (FG v5 v12))]))
          obtain ⟨v31, e31⟩ : ∃ v : Int32, (FG v5 v12) = v := ⟨_, rfl⟩
          rw [e31]
          refine A.goto (r := 298) at_293 (by decide) ?_
          exact J281_32 T _ (by simp only [e31]) A
         refine A.iload (q := 261) at_259 rfl rfl ?_
         refine A.if_ne (q := 264) (r := 278) at_261 rfl (by decide) (fun h28 => ?_) (fun h28 => ?_)
         · refine A.iconst (q := 279) (v := (0 : Int32)) at_278 rfl (by decide) ?_
           exact J259_29 T _ (by simp only [if_neg h28]) A
         · refine A.iload (q := 266) at_264 rfl rfl ?_
           refine A.ifF (q := 269) at_266 rfl (by decide) ?_
           refine A.iload (q := 271) at_269 rfl rfl ?_
           refine A.ifF (q := 274) at_271 rfl (by decide) ?_
           refine A.iconst (q := 275) (v := (1 : Int32)) at_274 rfl (by decide) ?_
           refine A.goto (r := 279) at_275 (by decide) ?_
           exact J259_29 T _ (by simp only [if_pos h28]) A
        refine A.iload (q := 238) at_236 rfl rfl ?_
        refine A.iconst (q := 239) (v := (2 : Int32)) at_238 rfl (by decide) ?_
        refine A.icmpT (r := 256) at_239 (by decide) (by decide) ?_
        refine A.iconst (q := 257) (v := (0 : Int32)) at_256 rfl (by decide) ?_
        exact J236_26 T  A
       refine A.iload (q := 215) at_213 rfl rfl ?_
       refine A.iconst (q := 216) (v := (1 : Int32)) at_215 rfl (by decide) ?_
       refine A.icmpT (r := 233) at_216 (by decide) (by decide) ?_
       refine A.iconst (q := 234) (v := (0 : Int32)) at_233 rfl (by decide) ?_
       exact J213_25 T  A
      refine A.iload (q := 193) at_191 rfl rfl ?_
      refine A.ifF (q := 196) at_193 rfl (by decide) ?_
      refine A.iload (q := 198) at_196 rfl rfl ?_
      refine A.iload (q := 200) at_198 rfl rfl ?_
      refine A.callS (q := 203) (w1 := 6) (w2 := 7) (w3 := 3) (w4 := 8) (as := [(.int v5), (.int v12)]) (st := []) (W := 0) at_200 rfl rfl rfl rfl rfl (rmC l Z a0 hw n0 v5 v12 _) (by decide) ⟨_, _, pd_2, rfl⟩ rfl rfl rfl (by decide) (by decide) (by decide) (by decide) ?_
      rintro _ T _ ⟨rfl, rfl⟩ A
      show Go p e below _ (T.setTop (mkF m 203 #[.val (.long sl), .second, .val (.int pp), .val (.int qq), .val (.int rr), .val (.int sh), .val (.int (1 : Int32)), .val (.int (0 : Int32)), .val (.ref b4), .val (.ref b11), .val (.int v12), .val (.int v13), .val (.int v14), .val (.int v5), .val (.int v6), .val (.int v7), .unset, .unset, .unset, .unset, .unset, .unset, .unset, .unset] [(.int (FC v5 v12))]))
      obtain ⟨v22, e22⟩ : ∃ v : Int32, (FC v5 v12) = v := ⟨_, rfl⟩
      rw [e22]
      refine A.if_eq (q := 206) (r := 210) at_203 rfl (by decide) (fun h23 => ?_) (fun h23 => ?_)
      · refine A.iconst (q := 211) (v := (0 : Int32)) at_210 rfl (by decide) ?_
        exact J191_24 T _ (by simp only [e22, if_pos h23]) A
      · refine A.iconst (q := 207) (v := (1 : Int32)) at_206 rfl (by decide) ?_
        refine A.goto (r := 211) at_207 (by decide) ?_
        exact J191_24 T _ (by simp only [e22, if_neg h23]) A
    · have J191_39 : ∀ (T : State) (j39 : Int32), j39 = (if ((FC v5 v12)) = (0 : Int32) then (0 : Int32) else (1 : Int32)) → Here p l e room_1 s m ([(.long sl), (.int pp), (.int qq), (.int rr), (.int sh)] : List Value).toArray below meth c Z a0 tables_1 x.cls x.name code 24 (some .boolean) n0 T [(b11, .inr (.int, [(.int v12), (.int v13), (.int v14)])), (b4, .inr (.int, [(.int v5), (.int v6), (.int v7), (.int v8), (.int v9), (.int v10)]))] 2 9 → Go p e below (EndS below s n0 Z 16 128 (fun v _ => v = some (.int 1))) (T.setTop (mkF m 211 #[.val (.long sl), .second, .val (.int pp), .val (.int qq), .val (.int rr), .val (.int sh), .val (.int (2 : Int32)), .val (.int (0 : Int32)), .val (.ref b4), .val (.ref b11), .val (.int v12), .val (.int v13), .val (.int v14), .val (.int v5), .val (.int v6), .val (.int v7), .unset, .unset, .unset, .unset, .unset, .unset, .unset, .unset] [(.int j39)])) := by
       intro T j39 ej39 A
       have z_j39 : nar .boolean j39 = j39 := by rw [ej39]; (repeat' split) <;> first | decide | assumption
       refine A.istore (q := 213) (l' := #[.val (.long sl), .second, .val (.int pp), .val (.int qq), .val (.int rr), .val (.int sh), .val (.int (2 : Int32)), .val (.int (0 : Int32)), .val (.ref b4), .val (.ref b11), .val (.int v12), .val (.int v13), .val (.int v14), .val (.int v5), .val (.int v6), .val (.int v7), .val (.int j39), .unset, .unset, .unset, .unset, .unset, .unset, .unset]) at_211 rfl rfl ?_
       have J213_43 : ∀ (T : State) (j43 : Int32), j43 = (if ((FC v6 v13)) = (0 : Int32) then (0 : Int32) else (1 : Int32)) → Here p l e room_1 s m ([(.long sl), (.int pp), (.int qq), (.int rr), (.int sh)] : List Value).toArray below meth c Z a0 tables_1 x.cls x.name code 24 (some .boolean) n0 T [(b11, .inr (.int, [(.int v12), (.int v13), (.int v14)])), (b4, .inr (.int, [(.int v5), (.int v6), (.int v7), (.int v8), (.int v9), (.int v10)]))] 2 9 → Go p e below (EndS below s n0 Z 16 128 (fun v _ => v = some (.int 1))) (T.setTop (mkF m 234 #[.val (.long sl), .second, .val (.int pp), .val (.int qq), .val (.int rr), .val (.int sh), .val (.int (2 : Int32)), .val (.int (0 : Int32)), .val (.ref b4), .val (.ref b11), .val (.int v12), .val (.int v13), .val (.int v14), .val (.int v5), .val (.int v6), .val (.int v7), .val (.int j39), .unset, .unset, .unset, .unset, .unset, .unset, .unset] [(.int j43)])) := by
        intro T j43 ej43 A
        have z_j43 : nar .boolean j43 = j43 := by rw [ej43]; (repeat' split) <;> first | decide | assumption
        refine A.istore (q := 236) (l' := #[.val (.long sl), .second, .val (.int pp), .val (.int qq), .val (.int rr), .val (.int sh), .val (.int (2 : Int32)), .val (.int (0 : Int32)), .val (.ref b4), .val (.ref b11), .val (.int v12), .val (.int v13), .val (.int v14), .val (.int v5), .val (.int v6), .val (.int v7), .val (.int j39), .val (.int j43), .unset, .unset, .unset, .unset, .unset, .unset]) at_234 rfl rfl ?_
        have J236_44 : ∀ (T : State), Here p l e room_1 s m ([(.long sl), (.int pp), (.int qq), (.int rr), (.int sh)] : List Value).toArray below meth c Z a0 tables_1 x.cls x.name code 24 (some .boolean) n0 T [(b11, .inr (.int, [(.int v12), (.int v13), (.int v14)])), (b4, .inr (.int, [(.int v5), (.int v6), (.int v7), (.int v8), (.int v9), (.int v10)]))] 2 9 → Go p e below (EndS below s n0 Z 16 128 (fun v _ => v = some (.int 1))) (T.setTop (mkF m 257 #[.val (.long sl), .second, .val (.int pp), .val (.int qq), .val (.int rr), .val (.int sh), .val (.int (2 : Int32)), .val (.int (0 : Int32)), .val (.ref b4), .val (.ref b11), .val (.int v12), .val (.int v13), .val (.int v14), .val (.int v5), .val (.int v6), .val (.int v7), .val (.int j39), .val (.int j43), .unset, .unset, .unset, .unset, .unset, .unset] [(.int (0 : Int32))])) := by
         intro T  A
         refine A.istore (q := 259) (l' := #[.val (.long sl), .second, .val (.int pp), .val (.int qq), .val (.int rr), .val (.int sh), .val (.int (2 : Int32)), .val (.int (0 : Int32)), .val (.ref b4), .val (.ref b11), .val (.int v12), .val (.int v13), .val (.int v14), .val (.int v5), .val (.int v6), .val (.int v7), .val (.int j39), .val (.int j43), .val (.int (0 : Int32)), .unset, .unset, .unset, .unset, .unset]) at_257 rfl rfl ?_
         have J259_48 : ∀ (T : State) (j48 : Int32), j48 = (if j39 = (0 : Int32) then (if j43 = (0 : Int32) then (1 : Int32) else (0 : Int32)) else (0 : Int32)) → Here p l e room_1 s m ([(.long sl), (.int pp), (.int qq), (.int rr), (.int sh)] : List Value).toArray below meth c Z a0 tables_1 x.cls x.name code 24 (some .boolean) n0 T [(b11, .inr (.int, [(.int v12), (.int v13), (.int v14)])), (b4, .inr (.int, [(.int v5), (.int v6), (.int v7), (.int v8), (.int v9), (.int v10)]))] 2 9 → Go p e below (EndS below s n0 Z 16 128 (fun v _ => v = some (.int 1))) (T.setTop (mkF m 279 #[.val (.long sl), .second, .val (.int pp), .val (.int qq), .val (.int rr), .val (.int sh), .val (.int (2 : Int32)), .val (.int (0 : Int32)), .val (.ref b4), .val (.ref b11), .val (.int v12), .val (.int v13), .val (.int v14), .val (.int v5), .val (.int v6), .val (.int v7), .val (.int j39), .val (.int j43), .val (.int (0 : Int32)), .unset, .unset, .unset, .unset, .unset] [(.int j48)])) := by
          intro T j48 ej48 A
          have z_j48 : nar .boolean j48 = j48 := by rw [ej48]; (repeat' split) <;> first | decide | assumption
          refine A.istore (q := 281) (l' := #[.val (.long sl), .second, .val (.int pp), .val (.int qq), .val (.int rr), .val (.int sh), .val (.int (2 : Int32)), .val (.int (0 : Int32)), .val (.ref b4), .val (.ref b11), .val (.int v12), .val (.int v13), .val (.int v14), .val (.int v5), .val (.int v6), .val (.int v7), .val (.int j39), .val (.int j43), .val (.int (0 : Int32)), .val (.int j48), .unset, .unset, .unset, .unset]) at_279 rfl rfl ?_
          have J281_51 : ∀ (T : State) (j51 : Int32), j51 = ((FG v5 v12)) → Here p l e room_1 s m ([(.long sl), (.int pp), (.int qq), (.int rr), (.int sh)] : List Value).toArray below meth c Z a0 tables_1 x.cls x.name code 24 (some .boolean) n0 T [(b11, .inr (.int, [(.int v12), (.int v13), (.int v14)])), (b4, .inr (.int, [(.int v5), (.int v6), (.int v7), (.int v8), (.int v9), (.int v10)]))] 2 9 → Go p e below (EndS below s n0 Z 16 128 (fun v _ => v = some (.int 1))) (T.setTop (mkF m 298 #[.val (.long sl), .second, .val (.int pp), .val (.int qq), .val (.int rr), .val (.int sh), .val (.int (2 : Int32)), .val (.int (0 : Int32)), .val (.ref b4), .val (.ref b11), .val (.int v12), .val (.int v13), .val (.int v14), .val (.int v5), .val (.int v6), .val (.int v7), .val (.int j39), .val (.int j43), .val (.int (0 : Int32)), .val (.int j48), .unset, .unset, .unset, .unset] [(.int j51)])) := by
           intro T j51 ej51 A
           refine A.istore (q := 300) (l' := #[.val (.long sl), .second, .val (.int pp), .val (.int qq), .val (.int rr), .val (.int sh), .val (.int (2 : Int32)), .val (.int (0 : Int32)), .val (.ref b4), .val (.ref b11), .val (.int v12), .val (.int v13), .val (.int v14), .val (.int v5), .val (.int v6), .val (.int v7), .val (.int j39), .val (.int j43), .val (.int (0 : Int32)), .val (.int j48), .val (.int j51), .unset, .unset, .unset]) at_298 rfl rfl ?_
           have J300_55 : ∀ (T : State) (j55 : Int32), j55 = (if j39 = (0 : Int32) then ((FG v6 v13)) else v13) → Here p l e room_1 s m ([(.long sl), (.int pp), (.int qq), (.int rr), (.int sh)] : List Value).toArray below meth c Z a0 tables_1 x.cls x.name code 24 (some .boolean) n0 T [(b11, .inr (.int, [(.int v12), (.int v13), (.int v14)])), (b4, .inr (.int, [(.int v5), (.int v6), (.int v7), (.int v8), (.int v9), (.int v10)]))] 2 9 → Go p e below (EndS below s n0 Z 16 128 (fun v _ => v = some (.int 1))) (T.setTop (mkF m 323 #[.val (.long sl), .second, .val (.int pp), .val (.int qq), .val (.int rr), .val (.int sh), .val (.int (2 : Int32)), .val (.int (0 : Int32)), .val (.ref b4), .val (.ref b11), .val (.int v12), .val (.int v13), .val (.int v14), .val (.int v5), .val (.int v6), .val (.int v7), .val (.int j39), .val (.int j43), .val (.int (0 : Int32)), .val (.int j48), .val (.int j51), .unset, .unset, .unset] [(.int j55)])) := by
            intro T j55 ej55 A
            refine A.istore (q := 325) (l' := #[.val (.long sl), .second, .val (.int pp), .val (.int qq), .val (.int rr), .val (.int sh), .val (.int (2 : Int32)), .val (.int (0 : Int32)), .val (.ref b4), .val (.ref b11), .val (.int v12), .val (.int v13), .val (.int v14), .val (.int v5), .val (.int v6), .val (.int v7), .val (.int j39), .val (.int j43), .val (.int (0 : Int32)), .val (.int j48), .val (.int j51), .val (.int j55), .unset, .unset]) at_323 rfl rfl ?_
            have J325_56 : ∀ (T : State), Here p l e room_1 s m ([(.long sl), (.int pp), (.int qq), (.int rr), (.int sh)] : List Value).toArray below meth c Z a0 tables_1 x.cls x.name code 24 (some .boolean) n0 T [(b11, .inr (.int, [(.int v12), (.int v13), (.int v14)])), (b4, .inr (.int, [(.int v5), (.int v6), (.int v7), (.int v8), (.int v9), (.int v10)]))] 2 9 → Go p e below (EndS below s n0 Z 16 128 (fun v _ => v = some (.int 1))) (T.setTop (mkF m 353 #[.val (.long sl), .second, .val (.int pp), .val (.int qq), .val (.int rr), .val (.int sh), .val (.int (2 : Int32)), .val (.int (0 : Int32)), .val (.ref b4), .val (.ref b11), .val (.int v12), .val (.int v13), .val (.int v14), .val (.int v5), .val (.int v6), .val (.int v7), .val (.int j39), .val (.int j43), .val (.int (0 : Int32)), .val (.int j48), .val (.int j51), .val (.int j55), .unset, .unset] [(.int v14)])) := by
             intro T  A
             refine A.istore (q := 355) (l' := #[.val (.long sl), .second, .val (.int pp), .val (.int qq), .val (.int rr), .val (.int sh), .val (.int (2 : Int32)), .val (.int (0 : Int32)), .val (.ref b4), .val (.ref b11), .val (.int v12), .val (.int v13), .val (.int v14), .val (.int v5), .val (.int v6), .val (.int v7), .val (.int j39), .val (.int j43), .val (.int (0 : Int32)), .val (.int j48), .val (.int j51), .val (.int j55), .val (.int v14), .unset]) at_353 rfl rfl ?_
             refine A.aload (q := 357) at_355 rfl rfl rfl ?_
             refine A.iload (q := 359) at_357 rfl rfl ?_
             refine A.iload (q := 361) at_359 rfl rfl ?_
             refine A.aload (q := 363) at_361 rfl rfl rfl ?_
             have A := A.front (i := 1) (L' := [(b4, .inr (.int, [(.int v5), (.int v6), (.int v7), (.int v8), (.int v9), (.int v10)])), (b11, .inr (.int, [(.int v12), (.int v13), (.int v14)]))]) rfl rfl
             refine A.callS (q := 366) (w1 := 12) (w2 := 13) (w3 := 14) (w4 := 15) (as := [(.ref b4), (.int (0 : Int32)), (.int (2 : Int32)), (.ref b11)]) (st := []) (W := 0) at_363 rfl rfl rfl rfl rfl (rmI_3 l Z a0 hw n0 b4 b11 v5 v6 v7 v8 v9 v10 v12 v13 v14 _) (by decide) ⟨_, _, pd_1, rfl⟩ rfl rfl rfl (by decide) (by decide) (by decide) (by decide) ?_
             rintro _ T _ ⟨rfl, rfl⟩ A
             show Go p e below _ (T.setTop (mkF m 366 #[.val (.long sl), .second, .val (.int pp), .val (.int qq), .val (.int rr), .val (.int sh), .val (.int (2 : Int32)), .val (.int (0 : Int32)), .val (.ref b4), .val (.ref b11), .val (.int v12), .val (.int v13), .val (.int v14), .val (.int v5), .val (.int v6), .val (.int v7), .val (.int j39), .val (.int j43), .val (.int (0 : Int32)), .val (.int j48), .val (.int j51), .val (.int j55), .val (.int v14), .unset] [(.int (FI_3 v5 v6 v12 v13))]))
             obtain ⟨v58, e58⟩ : ∃ v : Int32, (FI_3 v5 v6 v12 v13) = v := ⟨_, rfl⟩
             rw [e58]
             refine A.istore (q := 368) (l' := #[.val (.long sl), .second, .val (.int pp), .val (.int qq), .val (.int rr), .val (.int sh), .val (.int (2 : Int32)), .val (.int (0 : Int32)), .val (.ref b4), .val (.ref b11), .val (.int v12), .val (.int v13), .val (.int v14), .val (.int v5), .val (.int v6), .val (.int v7), .val (.int j39), .val (.int j43), .val (.int (0 : Int32)), .val (.int j48), .val (.int j51), .val (.int j55), .val (.int v14), .val (.int v58)]) at_366 rfl rfl ?_
             refine A.iload (q := 370) at_368 rfl rfl ?_
             refine A.iload (q := 372) at_370 rfl rfl ?_
             refine A.icmpF (q := 375) at_372 rfl (teq (by subst e2 e5 e6 e7 e8 e9 e10 e12 e13 e14 ej39 ej43 ej48 ej51 ej55 e58; exact own_w2_0 _ _ 0 _ _ 0 : v58 = j48)).2 ?_
             refine A.aload (q := 377) at_375 rfl rfl rfl ?_
             refine A.iconst (q := 378) (v := (0 : Int32)) at_377 rfl (by decide) ?_
             refine A.iaload (q := 379) (i := 1) (v := (.int (if (v5 = (-1 : Int32)) ∨ (¬ (v5 = (-1 : Int32)) ∧ ¬ (v12 = (-1 : Int32)) ∧ v12 = v5) ∨ (¬ (v5 = (-1 : Int32)) ∧ v12 = (-1 : Int32)) then ((if v5 = (-1 : Int32) then v12 else (if v12 = (-1 : Int32) then v5 else v12))) else v12))) at_378 rfl rfl (by decide) rfl ?_
             refine A.iload (q := 381) at_379 rfl rfl ?_
             refine A.icmpF (q := 384) at_381 rfl (teq (by subst e2 e5 e6 e7 e8 e9 e10 e12 e13 e14 ej39 ej43 ej48 ej51 ej55 e58; exact own_w2_1 _ 0 0 _ 0 0 : (if (v5 = (-1 : Int32)) ∨ (¬ (v5 = (-1 : Int32)) ∧ ¬ (v12 = (-1 : Int32)) ∧ v12 = v5) ∨ (¬ (v5 = (-1 : Int32)) ∧ v12 = (-1 : Int32)) then ((if v5 = (-1 : Int32) then v12 else (if v12 = (-1 : Int32) then v5 else v12))) else v12) = j51)).2 ?_
             refine A.aload (q := 386) at_384 rfl rfl rfl ?_
             refine A.iconst (q := 387) (v := (1 : Int32)) at_386 rfl (by decide) ?_
             refine A.iaload (q := 388) (i := 1) (v := (.int (if (v5 = (-1 : Int32)) ∨ (¬ (v5 = (-1 : Int32)) ∧ ¬ (v12 = (-1 : Int32)) ∧ v12 = v5) ∨ (¬ (v5 = (-1 : Int32)) ∧ v12 = (-1 : Int32)) then (if (v6 = (-1 : Int32)) ∨ (¬ (v6 = (-1 : Int32)) ∧ ¬ (v13 = (-1 : Int32)) ∧ v13 = v6) ∨ (¬ (v6 = (-1 : Int32)) ∧ v13 = (-1 : Int32)) then ((if v6 = (-1 : Int32) then v13 else (if v13 = (-1 : Int32) then v6 else v13))) else v13) else v13))) at_387 rfl rfl (by decide) rfl ?_
             refine A.iload (q := 390) at_388 rfl rfl ?_
             refine A.icmpF (q := 393) at_390 rfl (teq (by subst e2 e5 e6 e7 e8 e9 e10 e12 e13 e14 ej39 ej43 ej48 ej51 ej55 e58; exact own_w2_2 _ _ 0 _ _ 0 : (if (v5 = (-1 : Int32)) ∨ (¬ (v5 = (-1 : Int32)) ∧ ¬ (v12 = (-1 : Int32)) ∧ v12 = v5) ∨ (¬ (v5 = (-1 : Int32)) ∧ v12 = (-1 : Int32)) then (if (v6 = (-1 : Int32)) ∨ (¬ (v6 = (-1 : Int32)) ∧ ¬ (v13 = (-1 : Int32)) ∧ v13 = v6) ∨ (¬ (v6 = (-1 : Int32)) ∧ v13 = (-1 : Int32)) then ((if v6 = (-1 : Int32) then v13 else (if v13 = (-1 : Int32) then v6 else v13))) else v13) else v13) = j55)).2 ?_
             refine A.aload (q := 395) at_393 rfl rfl rfl ?_
             refine A.iconst (q := 396) (v := (2 : Int32)) at_395 rfl (by decide) ?_
             refine A.iaload (q := 397) (i := 1) (v := (.int v14)) at_396 rfl rfl (by decide) rfl ?_
             refine A.iload (q := 399) at_397 rfl rfl ?_
             refine A.icmpF (q := 402) at_399 rfl (teq rfl).2 ?_
             refine A.iconst (q := 403) (v := (1 : Int32)) at_402 rfl (by decide) ?_
             refine A.goto (r := 407) at_403 (by decide) ?_
             exact A.retZ (v := 1) at_407 (by decide) (by decide) (by decide) rfl
            refine A.iload (q := 327) at_325 rfl rfl ?_
            refine A.iconst (q := 328) (v := (2 : Int32)) at_327 rfl (by decide) ?_
            refine A.icmpT (r := 351) at_328 (by decide) (by decide) ?_
            refine A.iload (q := 353) at_351 rfl rfl ?_
            exact J325_56 T  A
           refine A.iload (q := 302) at_300 rfl rfl ?_
           refine A.iconst (q := 303) (v := (1 : Int32)) at_302 rfl (by decide) ?_
           refine A.icmpF (q := 306) at_303 rfl (by decide) ?_
           refine A.iload (q := 308) at_306 rfl rfl ?_
           refine A.if_ne (q := 311) (r := 321) at_308 rfl (by decide) (fun h53 => ?_) (fun h53 => ?_)
           · refine A.iload (q := 323) at_321 rfl rfl ?_
             exact J300_55 T _ (by simp only [if_neg h53]) A
           · refine A.iload (q := 313) at_311 rfl rfl ?_
             refine A.iload (q := 315) at_313 rfl rfl ?_
             refine A.callS (q := 318) (w1 := 9) (w2 := 10) (w3 := 3) (w4 := 11) (as := [(.int v6), (.int v13)]) (st := []) (W := 0) at_315 rfl rfl rfl rfl rfl (rmG l Z a0 hw n0 v6 v13 _) (by decide) ⟨_, _, pd_3, rfl⟩ rfl rfl rfl (by decide) (by decide) (by decide) (by decide) ?_
             rintro _ T _ ⟨rfl, rfl⟩ A
             show Go p e below _ (T.setTop (mkF m 318 #[.val (.long sl), .second, .val (.int pp), .val (.int qq), .val (.int rr), .val (.int sh), .val (.int (2 : Int32)), .val (.int (0 : Int32)), .val (.ref b4), .val (.ref b11), .val (.int v12), .val (.int v13), .val (.int v14), .val (.int v5), .val (.int v6), .val (.int v7), .val (.int j39), .val (.int j43), .val (.int (0 : Int32)), .val (.int j48), .val (.int j51), .unset, .unset, .unset] [(.int (FG v6 v13))]))
             obtain ⟨v54, e54⟩ : ∃ v : Int32, (FG v6 v13) = v := ⟨_, rfl⟩
             rw [e54]
             refine A.goto (r := 323) at_318 (by decide) ?_
             exact J300_55 T _ (by simp only [e54, if_pos h53]) A
          refine A.iload (q := 283) at_281 rfl rfl ?_
          refine A.ifF (q := 286) at_283 rfl (by decide) ?_
          refine A.iload (q := 288) at_286 rfl rfl ?_
          refine A.iload (q := 290) at_288 rfl rfl ?_
          refine A.callS (q := 293) (w1 := 9) (w2 := 10) (w3 := 3) (w4 := 11) (as := [(.int v5), (.int v12)]) (st := []) (W := 0) at_290 rfl rfl rfl rfl rfl (rmG l Z a0 hw n0 v5 v12 _) (by decide) ⟨_, _, pd_3, rfl⟩ rfl rfl rfl (by decide) (by decide) (by decide) (by decide) ?_
          rintro _ T _ ⟨rfl, rfl⟩ A
          show Go p e below _ (T.setTop (mkF m 293 #[.val (.long sl), .second, .val (.int pp), .val (.int qq), .val (.int rr), .val (.int sh), .val (.int (2 : Int32)), .val (.int (0 : Int32)), .val (.ref b4), .val (.ref b11), .val (.int v12), .val (.int v13), .val (.int v14), .val (.int v5), .val (.int v6), .val (.int v7), .val (.int j39), .val (.int j43), .val (.int (0 : Int32)), .val (.int j48), .unset, .unset, .unset, .unset] [(.int (FG v5 v12))]))
          obtain ⟨v50, e50⟩ : ∃ v : Int32, (FG v5 v12) = v := ⟨_, rfl⟩
          rw [e50]
          refine A.goto (r := 298) at_293 (by decide) ?_
          exact J281_51 T _ (by simp only [e50]) A
         refine A.iload (q := 261) at_259 rfl rfl ?_
         refine A.if_ne (q := 264) (r := 278) at_261 rfl (by decide) (fun h46 => ?_) (fun h46 => ?_)
         · refine A.iconst (q := 279) (v := (0 : Int32)) at_278 rfl (by decide) ?_
           exact J259_48 T _ (by simp only [if_neg h46]) A
         · refine A.iload (q := 266) at_264 rfl rfl ?_
           refine A.if_ne (q := 269) (r := 278) at_266 rfl (by decide) (fun h47 => ?_) (fun h47 => ?_)
           · refine A.iconst (q := 279) (v := (0 : Int32)) at_278 rfl (by decide) ?_
             exact J259_48 T _ (by simp only [if_neg h47, if_pos h46]) A
           · refine A.iload (q := 271) at_269 rfl rfl ?_
             refine A.ifF (q := 274) at_271 rfl (by decide) ?_
             refine A.iconst (q := 275) (v := (1 : Int32)) at_274 rfl (by decide) ?_
             refine A.goto (r := 279) at_275 (by decide) ?_
             exact J259_48 T _ (by simp only [if_pos h46, if_pos h47]) A
        refine A.iload (q := 238) at_236 rfl rfl ?_
        refine A.iconst (q := 239) (v := (2 : Int32)) at_238 rfl (by decide) ?_
        refine A.icmpT (r := 256) at_239 (by decide) (by decide) ?_
        refine A.iconst (q := 257) (v := (0 : Int32)) at_256 rfl (by decide) ?_
        exact J236_44 T  A
       refine A.iload (q := 215) at_213 rfl rfl ?_
       refine A.iconst (q := 216) (v := (1 : Int32)) at_215 rfl (by decide) ?_
       refine A.icmpF (q := 219) at_216 rfl (by decide) ?_
       refine A.iload (q := 221) at_219 rfl rfl ?_
       refine A.iload (q := 223) at_221 rfl rfl ?_
       refine A.callS (q := 226) (w1 := 6) (w2 := 7) (w3 := 3) (w4 := 8) (as := [(.int v6), (.int v13)]) (st := []) (W := 0) at_223 rfl rfl rfl rfl rfl (rmC l Z a0 hw n0 v6 v13 _) (by decide) ⟨_, _, pd_2, rfl⟩ rfl rfl rfl (by decide) (by decide) (by decide) (by decide) ?_
       rintro _ T _ ⟨rfl, rfl⟩ A
       show Go p e below _ (T.setTop (mkF m 226 #[.val (.long sl), .second, .val (.int pp), .val (.int qq), .val (.int rr), .val (.int sh), .val (.int (2 : Int32)), .val (.int (0 : Int32)), .val (.ref b4), .val (.ref b11), .val (.int v12), .val (.int v13), .val (.int v14), .val (.int v5), .val (.int v6), .val (.int v7), .val (.int j39), .unset, .unset, .unset, .unset, .unset, .unset, .unset] [(.int (FC v6 v13))]))
       obtain ⟨v41, e41⟩ : ∃ v : Int32, (FC v6 v13) = v := ⟨_, rfl⟩
       rw [e41]
       refine A.if_eq (q := 229) (r := 233) at_226 rfl (by decide) (fun h42 => ?_) (fun h42 => ?_)
       · refine A.iconst (q := 234) (v := (0 : Int32)) at_233 rfl (by decide) ?_
         exact J213_43 T _ (by simp only [e41, if_pos h42]) A
       · refine A.iconst (q := 230) (v := (1 : Int32)) at_229 rfl (by decide) ?_
         refine A.goto (r := 234) at_230 (by decide) ?_
         exact J213_43 T _ (by simp only [e41, if_neg h42]) A
      refine A.iload (q := 193) at_191 rfl rfl ?_
      refine A.ifF (q := 196) at_193 rfl (by decide) ?_
      refine A.iload (q := 198) at_196 rfl rfl ?_
      refine A.iload (q := 200) at_198 rfl rfl ?_
      refine A.callS (q := 203) (w1 := 6) (w2 := 7) (w3 := 3) (w4 := 8) (as := [(.int v5), (.int v12)]) (st := []) (W := 0) at_200 rfl rfl rfl rfl rfl (rmC l Z a0 hw n0 v5 v12 _) (by decide) ⟨_, _, pd_2, rfl⟩ rfl rfl rfl (by decide) (by decide) (by decide) (by decide) ?_
      rintro _ T _ ⟨rfl, rfl⟩ A
      show Go p e below _ (T.setTop (mkF m 203 #[.val (.long sl), .second, .val (.int pp), .val (.int qq), .val (.int rr), .val (.int sh), .val (.int (2 : Int32)), .val (.int (0 : Int32)), .val (.ref b4), .val (.ref b11), .val (.int v12), .val (.int v13), .val (.int v14), .val (.int v5), .val (.int v6), .val (.int v7), .unset, .unset, .unset, .unset, .unset, .unset, .unset, .unset] [(.int (FC v5 v12))]))
      obtain ⟨v37, e37⟩ : ∃ v : Int32, (FC v5 v12) = v := ⟨_, rfl⟩
      rw [e37]
      refine A.if_eq (q := 206) (r := 210) at_203 rfl (by decide) (fun h38 => ?_) (fun h38 => ?_)
      · refine A.iconst (q := 211) (v := (0 : Int32)) at_210 rfl (by decide) ?_
        exact J191_39 T _ (by simp only [e37, if_pos h38]) A
      · refine A.iconst (q := 207) (v := (1 : Int32)) at_206 rfl (by decide) ?_
        refine A.goto (r := 211) at_207 (by decide) ?_
        exact J191_39 T _ (by simp only [e37, if_neg h38]) A
    · have J191_61 : ∀ (T : State) (j61 : Int32), j61 = (if ((FC v5 v12)) = (0 : Int32) then (0 : Int32) else (1 : Int32)) → Here p l e room_1 s m ([(.long sl), (.int pp), (.int qq), (.int rr), (.int sh)] : List Value).toArray below meth c Z a0 tables_1 x.cls x.name code 24 (some .boolean) n0 T [(b11, .inr (.int, [(.int v12), (.int v13), (.int v14)])), (b4, .inr (.int, [(.int v5), (.int v6), (.int v7), (.int v8), (.int v9), (.int v10)]))] 2 9 → Go p e below (EndS below s n0 Z 16 128 (fun v _ => v = some (.int 1))) (T.setTop (mkF m 211 #[.val (.long sl), .second, .val (.int pp), .val (.int qq), .val (.int rr), .val (.int sh), .val (.int (3 : Int32)), .val (.int (0 : Int32)), .val (.ref b4), .val (.ref b11), .val (.int v12), .val (.int v13), .val (.int v14), .val (.int v5), .val (.int v6), .val (.int v7), .unset, .unset, .unset, .unset, .unset, .unset, .unset, .unset] [(.int j61)])) := by
       intro T j61 ej61 A
       have z_j61 : nar .boolean j61 = j61 := by rw [ej61]; (repeat' split) <;> first | decide | assumption
       refine A.istore (q := 213) (l' := #[.val (.long sl), .second, .val (.int pp), .val (.int qq), .val (.int rr), .val (.int sh), .val (.int (3 : Int32)), .val (.int (0 : Int32)), .val (.ref b4), .val (.ref b11), .val (.int v12), .val (.int v13), .val (.int v14), .val (.int v5), .val (.int v6), .val (.int v7), .val (.int j61), .unset, .unset, .unset, .unset, .unset, .unset, .unset]) at_211 rfl rfl ?_
       have J213_65 : ∀ (T : State) (j65 : Int32), j65 = (if ((FC v6 v13)) = (0 : Int32) then (0 : Int32) else (1 : Int32)) → Here p l e room_1 s m ([(.long sl), (.int pp), (.int qq), (.int rr), (.int sh)] : List Value).toArray below meth c Z a0 tables_1 x.cls x.name code 24 (some .boolean) n0 T [(b11, .inr (.int, [(.int v12), (.int v13), (.int v14)])), (b4, .inr (.int, [(.int v5), (.int v6), (.int v7), (.int v8), (.int v9), (.int v10)]))] 2 9 → Go p e below (EndS below s n0 Z 16 128 (fun v _ => v = some (.int 1))) (T.setTop (mkF m 234 #[.val (.long sl), .second, .val (.int pp), .val (.int qq), .val (.int rr), .val (.int sh), .val (.int (3 : Int32)), .val (.int (0 : Int32)), .val (.ref b4), .val (.ref b11), .val (.int v12), .val (.int v13), .val (.int v14), .val (.int v5), .val (.int v6), .val (.int v7), .val (.int j61), .unset, .unset, .unset, .unset, .unset, .unset, .unset] [(.int j65)])) := by
        intro T j65 ej65 A
        have z_j65 : nar .boolean j65 = j65 := by rw [ej65]; (repeat' split) <;> first | decide | assumption
        refine A.istore (q := 236) (l' := #[.val (.long sl), .second, .val (.int pp), .val (.int qq), .val (.int rr), .val (.int sh), .val (.int (3 : Int32)), .val (.int (0 : Int32)), .val (.ref b4), .val (.ref b11), .val (.int v12), .val (.int v13), .val (.int v14), .val (.int v5), .val (.int v6), .val (.int v7), .val (.int j61), .val (.int j65), .unset, .unset, .unset, .unset, .unset, .unset]) at_234 rfl rfl ?_
        have J236_69 : ∀ (T : State) (j69 : Int32), j69 = (if ((FC v7 v14)) = (0 : Int32) then (0 : Int32) else (1 : Int32)) → Here p l e room_1 s m ([(.long sl), (.int pp), (.int qq), (.int rr), (.int sh)] : List Value).toArray below meth c Z a0 tables_1 x.cls x.name code 24 (some .boolean) n0 T [(b11, .inr (.int, [(.int v12), (.int v13), (.int v14)])), (b4, .inr (.int, [(.int v5), (.int v6), (.int v7), (.int v8), (.int v9), (.int v10)]))] 2 9 → Go p e below (EndS below s n0 Z 16 128 (fun v _ => v = some (.int 1))) (T.setTop (mkF m 257 #[.val (.long sl), .second, .val (.int pp), .val (.int qq), .val (.int rr), .val (.int sh), .val (.int (3 : Int32)), .val (.int (0 : Int32)), .val (.ref b4), .val (.ref b11), .val (.int v12), .val (.int v13), .val (.int v14), .val (.int v5), .val (.int v6), .val (.int v7), .val (.int j61), .val (.int j65), .unset, .unset, .unset, .unset, .unset, .unset] [(.int j69)])) := by
         intro T j69 ej69 A
         have z_j69 : nar .boolean j69 = j69 := by rw [ej69]; (repeat' split) <;> first | decide | assumption
         refine A.istore (q := 259) (l' := #[.val (.long sl), .second, .val (.int pp), .val (.int qq), .val (.int rr), .val (.int sh), .val (.int (3 : Int32)), .val (.int (0 : Int32)), .val (.ref b4), .val (.ref b11), .val (.int v12), .val (.int v13), .val (.int v14), .val (.int v5), .val (.int v6), .val (.int v7), .val (.int j61), .val (.int j65), .val (.int j69), .unset, .unset, .unset, .unset, .unset]) at_257 rfl rfl ?_
         have J259_74 : ∀ (T : State) (j74 : Int32), j74 = (if j61 = (0 : Int32) then (if j65 = (0 : Int32) then (if j69 = (0 : Int32) then (1 : Int32) else (0 : Int32)) else (0 : Int32)) else (0 : Int32)) → Here p l e room_1 s m ([(.long sl), (.int pp), (.int qq), (.int rr), (.int sh)] : List Value).toArray below meth c Z a0 tables_1 x.cls x.name code 24 (some .boolean) n0 T [(b11, .inr (.int, [(.int v12), (.int v13), (.int v14)])), (b4, .inr (.int, [(.int v5), (.int v6), (.int v7), (.int v8), (.int v9), (.int v10)]))] 2 9 → Go p e below (EndS below s n0 Z 16 128 (fun v _ => v = some (.int 1))) (T.setTop (mkF m 279 #[.val (.long sl), .second, .val (.int pp), .val (.int qq), .val (.int rr), .val (.int sh), .val (.int (3 : Int32)), .val (.int (0 : Int32)), .val (.ref b4), .val (.ref b11), .val (.int v12), .val (.int v13), .val (.int v14), .val (.int v5), .val (.int v6), .val (.int v7), .val (.int j61), .val (.int j65), .val (.int j69), .unset, .unset, .unset, .unset, .unset] [(.int j74)])) := by
          intro T j74 ej74 A
          have z_j74 : nar .boolean j74 = j74 := by rw [ej74]; (repeat' split) <;> first | decide | assumption
          refine A.istore (q := 281) (l' := #[.val (.long sl), .second, .val (.int pp), .val (.int qq), .val (.int rr), .val (.int sh), .val (.int (3 : Int32)), .val (.int (0 : Int32)), .val (.ref b4), .val (.ref b11), .val (.int v12), .val (.int v13), .val (.int v14), .val (.int v5), .val (.int v6), .val (.int v7), .val (.int j61), .val (.int j65), .val (.int j69), .val (.int j74), .unset, .unset, .unset, .unset]) at_279 rfl rfl ?_
          have J281_77 : ∀ (T : State) (j77 : Int32), j77 = ((FG v5 v12)) → Here p l e room_1 s m ([(.long sl), (.int pp), (.int qq), (.int rr), (.int sh)] : List Value).toArray below meth c Z a0 tables_1 x.cls x.name code 24 (some .boolean) n0 T [(b11, .inr (.int, [(.int v12), (.int v13), (.int v14)])), (b4, .inr (.int, [(.int v5), (.int v6), (.int v7), (.int v8), (.int v9), (.int v10)]))] 2 9 → Go p e below (EndS below s n0 Z 16 128 (fun v _ => v = some (.int 1))) (T.setTop (mkF m 298 #[.val (.long sl), .second, .val (.int pp), .val (.int qq), .val (.int rr), .val (.int sh), .val (.int (3 : Int32)), .val (.int (0 : Int32)), .val (.ref b4), .val (.ref b11), .val (.int v12), .val (.int v13), .val (.int v14), .val (.int v5), .val (.int v6), .val (.int v7), .val (.int j61), .val (.int j65), .val (.int j69), .val (.int j74), .unset, .unset, .unset, .unset] [(.int j77)])) := by
           intro T j77 ej77 A
           refine A.istore (q := 300) (l' := #[.val (.long sl), .second, .val (.int pp), .val (.int qq), .val (.int rr), .val (.int sh), .val (.int (3 : Int32)), .val (.int (0 : Int32)), .val (.ref b4), .val (.ref b11), .val (.int v12), .val (.int v13), .val (.int v14), .val (.int v5), .val (.int v6), .val (.int v7), .val (.int j61), .val (.int j65), .val (.int j69), .val (.int j74), .val (.int j77), .unset, .unset, .unset]) at_298 rfl rfl ?_
           have J300_81 : ∀ (T : State) (j81 : Int32), j81 = (if j61 = (0 : Int32) then ((FG v6 v13)) else v13) → Here p l e room_1 s m ([(.long sl), (.int pp), (.int qq), (.int rr), (.int sh)] : List Value).toArray below meth c Z a0 tables_1 x.cls x.name code 24 (some .boolean) n0 T [(b11, .inr (.int, [(.int v12), (.int v13), (.int v14)])), (b4, .inr (.int, [(.int v5), (.int v6), (.int v7), (.int v8), (.int v9), (.int v10)]))] 2 9 → Go p e below (EndS below s n0 Z 16 128 (fun v _ => v = some (.int 1))) (T.setTop (mkF m 323 #[.val (.long sl), .second, .val (.int pp), .val (.int qq), .val (.int rr), .val (.int sh), .val (.int (3 : Int32)), .val (.int (0 : Int32)), .val (.ref b4), .val (.ref b11), .val (.int v12), .val (.int v13), .val (.int v14), .val (.int v5), .val (.int v6), .val (.int v7), .val (.int j61), .val (.int j65), .val (.int j69), .val (.int j74), .val (.int j77), .unset, .unset, .unset] [(.int j81)])) := by
            intro T j81 ej81 A
            refine A.istore (q := 325) (l' := #[.val (.long sl), .second, .val (.int pp), .val (.int qq), .val (.int rr), .val (.int sh), .val (.int (3 : Int32)), .val (.int (0 : Int32)), .val (.ref b4), .val (.ref b11), .val (.int v12), .val (.int v13), .val (.int v14), .val (.int v5), .val (.int v6), .val (.int v7), .val (.int j61), .val (.int j65), .val (.int j69), .val (.int j74), .val (.int j77), .val (.int j81), .unset, .unset]) at_323 rfl rfl ?_
            have J325_86 : ∀ (T : State) (j86 : Int32), j86 = (if j61 = (0 : Int32) then (if j65 = (0 : Int32) then ((FG v7 v14)) else v14) else v14) → Here p l e room_1 s m ([(.long sl), (.int pp), (.int qq), (.int rr), (.int sh)] : List Value).toArray below meth c Z a0 tables_1 x.cls x.name code 24 (some .boolean) n0 T [(b11, .inr (.int, [(.int v12), (.int v13), (.int v14)])), (b4, .inr (.int, [(.int v5), (.int v6), (.int v7), (.int v8), (.int v9), (.int v10)]))] 2 9 → Go p e below (EndS below s n0 Z 16 128 (fun v _ => v = some (.int 1))) (T.setTop (mkF m 353 #[.val (.long sl), .second, .val (.int pp), .val (.int qq), .val (.int rr), .val (.int sh), .val (.int (3 : Int32)), .val (.int (0 : Int32)), .val (.ref b4), .val (.ref b11), .val (.int v12), .val (.int v13), .val (.int v14), .val (.int v5), .val (.int v6), .val (.int v7), .val (.int j61), .val (.int j65), .val (.int j69), .val (.int j74), .val (.int j77), .val (.int j81), .unset, .unset] [(.int j86)])) := by
             intro T j86 ej86 A
             refine A.istore (q := 355) (l' := #[.val (.long sl), .second, .val (.int pp), .val (.int qq), .val (.int rr), .val (.int sh), .val (.int (3 : Int32)), .val (.int (0 : Int32)), .val (.ref b4), .val (.ref b11), .val (.int v12), .val (.int v13), .val (.int v14), .val (.int v5), .val (.int v6), .val (.int v7), .val (.int j61), .val (.int j65), .val (.int j69), .val (.int j74), .val (.int j77), .val (.int j81), .val (.int j86), .unset]) at_353 rfl rfl ?_
             refine A.aload (q := 357) at_355 rfl rfl rfl ?_
             refine A.iload (q := 359) at_357 rfl rfl ?_
             refine A.iload (q := 361) at_359 rfl rfl ?_
             refine A.aload (q := 363) at_361 rfl rfl rfl ?_
             have A := A.front (i := 1) (L' := [(b4, .inr (.int, [(.int v5), (.int v6), (.int v7), (.int v8), (.int v9), (.int v10)])), (b11, .inr (.int, [(.int v12), (.int v13), (.int v14)]))]) rfl rfl
             refine A.callS (q := 366) (w1 := 12) (w2 := 13) (w3 := 14) (w4 := 15) (as := [(.ref b4), (.int (0 : Int32)), (.int (3 : Int32)), (.ref b11)]) (st := []) (W := 0) at_363 rfl rfl rfl rfl rfl (rmI_4 l Z a0 hw n0 b4 b11 v5 v6 v7 v8 v9 v10 v12 v13 v14 _) (by decide) ⟨_, _, pd_1, rfl⟩ rfl rfl rfl (by decide) (by decide) (by decide) (by decide) ?_
             rintro _ T _ ⟨rfl, rfl⟩ A
             show Go p e below _ (T.setTop (mkF m 366 #[.val (.long sl), .second, .val (.int pp), .val (.int qq), .val (.int rr), .val (.int sh), .val (.int (3 : Int32)), .val (.int (0 : Int32)), .val (.ref b4), .val (.ref b11), .val (.int v12), .val (.int v13), .val (.int v14), .val (.int v5), .val (.int v6), .val (.int v7), .val (.int j61), .val (.int j65), .val (.int j69), .val (.int j74), .val (.int j77), .val (.int j81), .val (.int j86), .unset] [(.int (FI_4 v5 v6 v7 v12 v13 v14))]))
             obtain ⟨v88, e88⟩ : ∃ v : Int32, (FI_4 v5 v6 v7 v12 v13 v14) = v := ⟨_, rfl⟩
             rw [e88]
             refine A.istore (q := 368) (l' := #[.val (.long sl), .second, .val (.int pp), .val (.int qq), .val (.int rr), .val (.int sh), .val (.int (3 : Int32)), .val (.int (0 : Int32)), .val (.ref b4), .val (.ref b11), .val (.int v12), .val (.int v13), .val (.int v14), .val (.int v5), .val (.int v6), .val (.int v7), .val (.int j61), .val (.int j65), .val (.int j69), .val (.int j74), .val (.int j77), .val (.int j81), .val (.int j86), .val (.int v88)]) at_366 rfl rfl ?_
             refine A.iload (q := 370) at_368 rfl rfl ?_
             refine A.iload (q := 372) at_370 rfl rfl ?_
             refine A.icmpF (q := 375) at_372 rfl (teq (by subst e2 e5 e6 e7 e8 e9 e10 e12 e13 e14 ej61 ej65 ej69 ej74 ej77 ej81 ej86 e88; exact own_w3_0 _ _ _ _ _ _ : v88 = j74)).2 ?_
             refine A.aload (q := 377) at_375 rfl rfl rfl ?_
             refine A.iconst (q := 378) (v := (0 : Int32)) at_377 rfl (by decide) ?_
             refine A.iaload (q := 379) (i := 1) (v := (.int (if (v5 = (-1 : Int32)) ∨ (¬ (v5 = (-1 : Int32)) ∧ ¬ (v12 = (-1 : Int32)) ∧ v12 = v5) ∨ (¬ (v5 = (-1 : Int32)) ∧ v12 = (-1 : Int32)) then ((if v5 = (-1 : Int32) then v12 else (if v12 = (-1 : Int32) then v5 else v12))) else v12))) at_378 rfl rfl (by decide) rfl ?_
             refine A.iload (q := 381) at_379 rfl rfl ?_
             refine A.icmpF (q := 384) at_381 rfl (teq (by subst e2 e5 e6 e7 e8 e9 e10 e12 e13 e14 ej61 ej65 ej69 ej74 ej77 ej81 ej86 e88; exact own_w3_1 _ 0 0 _ 0 0 : (if (v5 = (-1 : Int32)) ∨ (¬ (v5 = (-1 : Int32)) ∧ ¬ (v12 = (-1 : Int32)) ∧ v12 = v5) ∨ (¬ (v5 = (-1 : Int32)) ∧ v12 = (-1 : Int32)) then ((if v5 = (-1 : Int32) then v12 else (if v12 = (-1 : Int32) then v5 else v12))) else v12) = j77)).2 ?_
             refine A.aload (q := 386) at_384 rfl rfl rfl ?_
             refine A.iconst (q := 387) (v := (1 : Int32)) at_386 rfl (by decide) ?_
             refine A.iaload (q := 388) (i := 1) (v := (.int (if (v5 = (-1 : Int32)) ∨ (¬ (v5 = (-1 : Int32)) ∧ ¬ (v12 = (-1 : Int32)) ∧ v12 = v5) ∨ (¬ (v5 = (-1 : Int32)) ∧ v12 = (-1 : Int32)) then (if (v6 = (-1 : Int32)) ∨ (¬ (v6 = (-1 : Int32)) ∧ ¬ (v13 = (-1 : Int32)) ∧ v13 = v6) ∨ (¬ (v6 = (-1 : Int32)) ∧ v13 = (-1 : Int32)) then ((if v6 = (-1 : Int32) then v13 else (if v13 = (-1 : Int32) then v6 else v13))) else v13) else v13))) at_387 rfl rfl (by decide) rfl ?_
             refine A.iload (q := 390) at_388 rfl rfl ?_
             refine A.icmpF (q := 393) at_390 rfl (teq (by subst e2 e5 e6 e7 e8 e9 e10 e12 e13 e14 ej61 ej65 ej69 ej74 ej77 ej81 ej86 e88; exact own_w3_2 _ _ 0 _ _ 0 : (if (v5 = (-1 : Int32)) ∨ (¬ (v5 = (-1 : Int32)) ∧ ¬ (v12 = (-1 : Int32)) ∧ v12 = v5) ∨ (¬ (v5 = (-1 : Int32)) ∧ v12 = (-1 : Int32)) then (if (v6 = (-1 : Int32)) ∨ (¬ (v6 = (-1 : Int32)) ∧ ¬ (v13 = (-1 : Int32)) ∧ v13 = v6) ∨ (¬ (v6 = (-1 : Int32)) ∧ v13 = (-1 : Int32)) then ((if v6 = (-1 : Int32) then v13 else (if v13 = (-1 : Int32) then v6 else v13))) else v13) else v13) = j81)).2 ?_
             refine A.aload (q := 395) at_393 rfl rfl rfl ?_
             refine A.iconst (q := 396) (v := (2 : Int32)) at_395 rfl (by decide) ?_
             refine A.iaload (q := 397) (i := 1) (v := (.int (if (v5 = (-1 : Int32)) ∨ (¬ (v5 = (-1 : Int32)) ∧ ¬ (v12 = (-1 : Int32)) ∧ v12 = v5) ∨ (¬ (v5 = (-1 : Int32)) ∧ v12 = (-1 : Int32)) then (if (v6 = (-1 : Int32)) ∨ (¬ (v6 = (-1 : Int32)) ∧ ¬ (v13 = (-1 : Int32)) ∧ v13 = v6) ∨ (¬ (v6 = (-1 : Int32)) ∧ v13 = (-1 : Int32)) then (if (v7 = (-1 : Int32)) ∨ (¬ (v7 = (-1 : Int32)) ∧ ¬ (v14 = (-1 : Int32)) ∧ v14 = v7) ∨ (¬ (v7 = (-1 : Int32)) ∧ v14 = (-1 : Int32)) then ((if v7 = (-1 : Int32) then v14 else (if v14 = (-1 : Int32) then v7 else v14))) else v14) else v14) else v14))) at_396 rfl rfl (by decide) rfl ?_
             refine A.iload (q := 399) at_397 rfl rfl ?_
             refine A.icmpF (q := 402) at_399 rfl (teq (by subst e2 e5 e6 e7 e8 e9 e10 e12 e13 e14 ej61 ej65 ej69 ej74 ej77 ej81 ej86 e88; exact own_w3_3 _ _ _ _ _ _ : (if (v5 = (-1 : Int32)) ∨ (¬ (v5 = (-1 : Int32)) ∧ ¬ (v12 = (-1 : Int32)) ∧ v12 = v5) ∨ (¬ (v5 = (-1 : Int32)) ∧ v12 = (-1 : Int32)) then (if (v6 = (-1 : Int32)) ∨ (¬ (v6 = (-1 : Int32)) ∧ ¬ (v13 = (-1 : Int32)) ∧ v13 = v6) ∨ (¬ (v6 = (-1 : Int32)) ∧ v13 = (-1 : Int32)) then (if (v7 = (-1 : Int32)) ∨ (¬ (v7 = (-1 : Int32)) ∧ ¬ (v14 = (-1 : Int32)) ∧ v14 = v7) ∨ (¬ (v7 = (-1 : Int32)) ∧ v14 = (-1 : Int32)) then ((if v7 = (-1 : Int32) then v14 else (if v14 = (-1 : Int32) then v7 else v14))) else v14) else v14) else v14) = j86)).2 ?_
             refine A.iconst (q := 403) (v := (1 : Int32)) at_402 rfl (by decide) ?_
             refine A.goto (r := 407) at_403 (by decide) ?_
             exact A.retZ (v := 1) at_407 (by decide) (by decide) (by decide) rfl
            refine A.iload (q := 327) at_325 rfl rfl ?_
            refine A.iconst (q := 328) (v := (2 : Int32)) at_327 rfl (by decide) ?_
            refine A.icmpF (q := 331) at_328 rfl (by decide) ?_
            refine A.iload (q := 333) at_331 rfl rfl ?_
            refine A.if_ne (q := 336) (r := 351) at_333 rfl (by decide) (fun h83 => ?_) (fun h83 => ?_)
            · refine A.iload (q := 353) at_351 rfl rfl ?_
              exact J325_86 T _ (by simp only [if_neg h83]) A
            · refine A.iload (q := 338) at_336 rfl rfl ?_
              refine A.if_ne (q := 341) (r := 351) at_338 rfl (by decide) (fun h84 => ?_) (fun h84 => ?_)
              · refine A.iload (q := 353) at_351 rfl rfl ?_
                exact J325_86 T _ (by simp only [if_neg h84, if_pos h83]) A
              · refine A.iload (q := 343) at_341 rfl rfl ?_
                refine A.iload (q := 345) at_343 rfl rfl ?_
                refine A.callS (q := 348) (w1 := 9) (w2 := 10) (w3 := 3) (w4 := 11) (as := [(.int v7), (.int v14)]) (st := []) (W := 0) at_345 rfl rfl rfl rfl rfl (rmG l Z a0 hw n0 v7 v14 _) (by decide) ⟨_, _, pd_3, rfl⟩ rfl rfl rfl (by decide) (by decide) (by decide) (by decide) ?_
                rintro _ T _ ⟨rfl, rfl⟩ A
                show Go p e below _ (T.setTop (mkF m 348 #[.val (.long sl), .second, .val (.int pp), .val (.int qq), .val (.int rr), .val (.int sh), .val (.int (3 : Int32)), .val (.int (0 : Int32)), .val (.ref b4), .val (.ref b11), .val (.int v12), .val (.int v13), .val (.int v14), .val (.int v5), .val (.int v6), .val (.int v7), .val (.int j61), .val (.int j65), .val (.int j69), .val (.int j74), .val (.int j77), .val (.int j81), .unset, .unset] [(.int (FG v7 v14))]))
                obtain ⟨v85, e85⟩ : ∃ v : Int32, (FG v7 v14) = v := ⟨_, rfl⟩
                rw [e85]
                refine A.goto (r := 353) at_348 (by decide) ?_
                exact J325_86 T _ (by simp only [e85, if_pos h83, if_pos h84]) A
           refine A.iload (q := 302) at_300 rfl rfl ?_
           refine A.iconst (q := 303) (v := (1 : Int32)) at_302 rfl (by decide) ?_
           refine A.icmpF (q := 306) at_303 rfl (by decide) ?_
           refine A.iload (q := 308) at_306 rfl rfl ?_
           refine A.if_ne (q := 311) (r := 321) at_308 rfl (by decide) (fun h79 => ?_) (fun h79 => ?_)
           · refine A.iload (q := 323) at_321 rfl rfl ?_
             exact J300_81 T _ (by simp only [if_neg h79]) A
           · refine A.iload (q := 313) at_311 rfl rfl ?_
             refine A.iload (q := 315) at_313 rfl rfl ?_
             refine A.callS (q := 318) (w1 := 9) (w2 := 10) (w3 := 3) (w4 := 11) (as := [(.int v6), (.int v13)]) (st := []) (W := 0) at_315 rfl rfl rfl rfl rfl (rmG l Z a0 hw n0 v6 v13 _) (by decide) ⟨_, _, pd_3, rfl⟩ rfl rfl rfl (by decide) (by decide) (by decide) (by decide) ?_
             rintro _ T _ ⟨rfl, rfl⟩ A
             show Go p e below _ (T.setTop (mkF m 318 #[.val (.long sl), .second, .val (.int pp), .val (.int qq), .val (.int rr), .val (.int sh), .val (.int (3 : Int32)), .val (.int (0 : Int32)), .val (.ref b4), .val (.ref b11), .val (.int v12), .val (.int v13), .val (.int v14), .val (.int v5), .val (.int v6), .val (.int v7), .val (.int j61), .val (.int j65), .val (.int j69), .val (.int j74), .val (.int j77), .unset, .unset, .unset] [(.int (FG v6 v13))]))
             obtain ⟨v80, e80⟩ : ∃ v : Int32, (FG v6 v13) = v := ⟨_, rfl⟩
             rw [e80]
             refine A.goto (r := 323) at_318 (by decide) ?_
             exact J300_81 T _ (by simp only [e80, if_pos h79]) A
          refine A.iload (q := 283) at_281 rfl rfl ?_
          refine A.ifF (q := 286) at_283 rfl (by decide) ?_
          refine A.iload (q := 288) at_286 rfl rfl ?_
          refine A.iload (q := 290) at_288 rfl rfl ?_
          refine A.callS (q := 293) (w1 := 9) (w2 := 10) (w3 := 3) (w4 := 11) (as := [(.int v5), (.int v12)]) (st := []) (W := 0) at_290 rfl rfl rfl rfl rfl (rmG l Z a0 hw n0 v5 v12 _) (by decide) ⟨_, _, pd_3, rfl⟩ rfl rfl rfl (by decide) (by decide) (by decide) (by decide) ?_
          rintro _ T _ ⟨rfl, rfl⟩ A
          show Go p e below _ (T.setTop (mkF m 293 #[.val (.long sl), .second, .val (.int pp), .val (.int qq), .val (.int rr), .val (.int sh), .val (.int (3 : Int32)), .val (.int (0 : Int32)), .val (.ref b4), .val (.ref b11), .val (.int v12), .val (.int v13), .val (.int v14), .val (.int v5), .val (.int v6), .val (.int v7), .val (.int j61), .val (.int j65), .val (.int j69), .val (.int j74), .unset, .unset, .unset, .unset] [(.int (FG v5 v12))]))
          obtain ⟨v76, e76⟩ : ∃ v : Int32, (FG v5 v12) = v := ⟨_, rfl⟩
          rw [e76]
          refine A.goto (r := 298) at_293 (by decide) ?_
          exact J281_77 T _ (by simp only [e76]) A
         refine A.iload (q := 261) at_259 rfl rfl ?_
         refine A.if_ne (q := 264) (r := 278) at_261 rfl (by decide) (fun h71 => ?_) (fun h71 => ?_)
         · refine A.iconst (q := 279) (v := (0 : Int32)) at_278 rfl (by decide) ?_
           exact J259_74 T _ (by simp only [if_neg h71]) A
         · refine A.iload (q := 266) at_264 rfl rfl ?_
           refine A.if_ne (q := 269) (r := 278) at_266 rfl (by decide) (fun h72 => ?_) (fun h72 => ?_)
           · refine A.iconst (q := 279) (v := (0 : Int32)) at_278 rfl (by decide) ?_
             exact J259_74 T _ (by simp only [if_neg h72, if_pos h71]) A
           · refine A.iload (q := 271) at_269 rfl rfl ?_
             refine A.if_ne (q := 274) (r := 278) at_271 rfl (by decide) (fun h73 => ?_) (fun h73 => ?_)
             · refine A.iconst (q := 279) (v := (0 : Int32)) at_278 rfl (by decide) ?_
               exact J259_74 T _ (by simp only [if_neg h73, if_pos h71, if_pos h72]) A
             · refine A.iconst (q := 275) (v := (1 : Int32)) at_274 rfl (by decide) ?_
               refine A.goto (r := 279) at_275 (by decide) ?_
               exact J259_74 T _ (by simp only [if_pos h71, if_pos h72, if_pos h73]) A
        refine A.iload (q := 238) at_236 rfl rfl ?_
        refine A.iconst (q := 239) (v := (2 : Int32)) at_238 rfl (by decide) ?_
        refine A.icmpF (q := 242) at_239 rfl (by decide) ?_
        refine A.iload (q := 244) at_242 rfl rfl ?_
        refine A.iload (q := 246) at_244 rfl rfl ?_
        refine A.callS (q := 249) (w1 := 6) (w2 := 7) (w3 := 3) (w4 := 8) (as := [(.int v7), (.int v14)]) (st := []) (W := 0) at_246 rfl rfl rfl rfl rfl (rmC l Z a0 hw n0 v7 v14 _) (by decide) ⟨_, _, pd_2, rfl⟩ rfl rfl rfl (by decide) (by decide) (by decide) (by decide) ?_
        rintro _ T _ ⟨rfl, rfl⟩ A
        show Go p e below _ (T.setTop (mkF m 249 #[.val (.long sl), .second, .val (.int pp), .val (.int qq), .val (.int rr), .val (.int sh), .val (.int (3 : Int32)), .val (.int (0 : Int32)), .val (.ref b4), .val (.ref b11), .val (.int v12), .val (.int v13), .val (.int v14), .val (.int v5), .val (.int v6), .val (.int v7), .val (.int j61), .val (.int j65), .unset, .unset, .unset, .unset, .unset, .unset] [(.int (FC v7 v14))]))
        obtain ⟨v67, e67⟩ : ∃ v : Int32, (FC v7 v14) = v := ⟨_, rfl⟩
        rw [e67]
        refine A.if_eq (q := 252) (r := 256) at_249 rfl (by decide) (fun h68 => ?_) (fun h68 => ?_)
        · refine A.iconst (q := 257) (v := (0 : Int32)) at_256 rfl (by decide) ?_
          exact J236_69 T _ (by simp only [e67, if_pos h68]) A
        · refine A.iconst (q := 253) (v := (1 : Int32)) at_252 rfl (by decide) ?_
          refine A.goto (r := 257) at_253 (by decide) ?_
          exact J236_69 T _ (by simp only [e67, if_neg h68]) A
       refine A.iload (q := 215) at_213 rfl rfl ?_
       refine A.iconst (q := 216) (v := (1 : Int32)) at_215 rfl (by decide) ?_
       refine A.icmpF (q := 219) at_216 rfl (by decide) ?_
       refine A.iload (q := 221) at_219 rfl rfl ?_
       refine A.iload (q := 223) at_221 rfl rfl ?_
       refine A.callS (q := 226) (w1 := 6) (w2 := 7) (w3 := 3) (w4 := 8) (as := [(.int v6), (.int v13)]) (st := []) (W := 0) at_223 rfl rfl rfl rfl rfl (rmC l Z a0 hw n0 v6 v13 _) (by decide) ⟨_, _, pd_2, rfl⟩ rfl rfl rfl (by decide) (by decide) (by decide) (by decide) ?_
       rintro _ T _ ⟨rfl, rfl⟩ A
       show Go p e below _ (T.setTop (mkF m 226 #[.val (.long sl), .second, .val (.int pp), .val (.int qq), .val (.int rr), .val (.int sh), .val (.int (3 : Int32)), .val (.int (0 : Int32)), .val (.ref b4), .val (.ref b11), .val (.int v12), .val (.int v13), .val (.int v14), .val (.int v5), .val (.int v6), .val (.int v7), .val (.int j61), .unset, .unset, .unset, .unset, .unset, .unset, .unset] [(.int (FC v6 v13))]))
       obtain ⟨v63, e63⟩ : ∃ v : Int32, (FC v6 v13) = v := ⟨_, rfl⟩
       rw [e63]
       refine A.if_eq (q := 229) (r := 233) at_226 rfl (by decide) (fun h64 => ?_) (fun h64 => ?_)
       · refine A.iconst (q := 234) (v := (0 : Int32)) at_233 rfl (by decide) ?_
         exact J213_65 T _ (by simp only [e63, if_pos h64]) A
       · refine A.iconst (q := 230) (v := (1 : Int32)) at_229 rfl (by decide) ?_
         refine A.goto (r := 234) at_230 (by decide) ?_
         exact J213_65 T _ (by simp only [e63, if_neg h64]) A
      refine A.iload (q := 193) at_191 rfl rfl ?_
      refine A.ifF (q := 196) at_193 rfl (by decide) ?_
      refine A.iload (q := 198) at_196 rfl rfl ?_
      refine A.iload (q := 200) at_198 rfl rfl ?_
      refine A.callS (q := 203) (w1 := 6) (w2 := 7) (w3 := 3) (w4 := 8) (as := [(.int v5), (.int v12)]) (st := []) (W := 0) at_200 rfl rfl rfl rfl rfl (rmC l Z a0 hw n0 v5 v12 _) (by decide) ⟨_, _, pd_2, rfl⟩ rfl rfl rfl (by decide) (by decide) (by decide) (by decide) ?_
      rintro _ T _ ⟨rfl, rfl⟩ A
      show Go p e below _ (T.setTop (mkF m 203 #[.val (.long sl), .second, .val (.int pp), .val (.int qq), .val (.int rr), .val (.int sh), .val (.int (3 : Int32)), .val (.int (0 : Int32)), .val (.ref b4), .val (.ref b11), .val (.int v12), .val (.int v13), .val (.int v14), .val (.int v5), .val (.int v6), .val (.int v7), .unset, .unset, .unset, .unset, .unset, .unset, .unset, .unset] [(.int (FC v5 v12))]))
      obtain ⟨v59, e59⟩ : ∃ v : Int32, (FC v5 v12) = v := ⟨_, rfl⟩
      rw [e59]
      refine A.if_eq (q := 206) (r := 210) at_203 rfl (by decide) (fun h60 => ?_) (fun h60 => ?_)
      · refine A.iconst (q := 211) (v := (0 : Int32)) at_210 rfl (by decide) ?_
        exact J191_61 T _ (by simp only [e59, if_pos h60]) A
      · refine A.iconst (q := 207) (v := (1 : Int32)) at_206 rfl (by decide) ?_
        refine A.goto (r := 211) at_207 (by decide) ?_
        exact J191_61 T _ (by simp only [e59, if_neg h60]) A
  · refine A.aload (q := 168) at_166 rfl rfl rfl ?_
    refine A.iload (q := 170) at_168 rfl rfl ?_
    refine A.iaload (q := 171) (i := 1) (v := (.int v6)) at_170 rfl rfl (by decide) rfl ?_
    refine A.istore (q := 173) (l' := #[.val (.long sl), .second, .val (.int pp), .val (.int qq), .val (.int rr), .val (.int sh), .val (.int v1), .val (.int (1 : Int32)), .val (.ref b4), .val (.ref b11), .val (.int v12), .val (.int v13), .val (.int v14), .val (.int v6), .unset, .unset, .unset, .unset, .unset, .unset, .unset, .unset, .unset, .unset]) at_171 rfl rfl ?_
    refine A.aload (q := 175) at_173 rfl rfl rfl ?_
    refine A.iload (q := 177) at_175 rfl rfl ?_
    refine A.iconst (q := 178) (v := (1 : Int32)) at_177 rfl (by decide) ?_
    refine A.iadd (q := 179) (v := (2 : Int32)) at_178 rfl (by decide) ?_
    refine A.iaload (q := 180) (i := 1) (v := (.int v7)) at_179 rfl rfl (by decide) rfl ?_
    refine A.istore (q := 182) (l' := #[.val (.long sl), .second, .val (.int pp), .val (.int qq), .val (.int rr), .val (.int sh), .val (.int v1), .val (.int (1 : Int32)), .val (.ref b4), .val (.ref b11), .val (.int v12), .val (.int v13), .val (.int v14), .val (.int v6), .val (.int v7), .unset, .unset, .unset, .unset, .unset, .unset, .unset, .unset, .unset]) at_180 rfl rfl ?_
    refine A.aload (q := 184) at_182 rfl rfl rfl ?_
    refine A.iload (q := 186) at_184 rfl rfl ?_
    refine A.iconst (q := 187) (v := (2 : Int32)) at_186 rfl (by decide) ?_
    refine A.iadd (q := 188) (v := (3 : Int32)) at_187 rfl (by decide) ?_
    refine A.iaload (q := 189) (i := 1) (v := (.int v8)) at_188 rfl rfl (by decide) rfl ?_
    refine A.istore (q := 191) (l' := #[.val (.long sl), .second, .val (.int pp), .val (.int qq), .val (.int rr), .val (.int sh), .val (.int v1), .val (.int (1 : Int32)), .val (.ref b4), .val (.ref b11), .val (.int v12), .val (.int v13), .val (.int v14), .val (.int v6), .val (.int v7), .val (.int v8), .unset, .unset, .unset, .unset, .unset, .unset, .unset, .unset]) at_189 rfl rfl ?_
    have hn : v1 = 0 ∨ v1 = 1 ∨ v1 = 2 ∨ v1 = 3 := by subst e1 e2 e5 e6 e7 e8 e9 e10 e12 e13 e14; exact own_and3 _
    rcases hn with rfl | rfl | rfl | rfl
    · have J191_88 : ∀ (T : State), Here p l e room_1 s m ([(.long sl), (.int pp), (.int qq), (.int rr), (.int sh)] : List Value).toArray below meth c Z a0 tables_1 x.cls x.name code 24 (some .boolean) n0 T [(b11, .inr (.int, [(.int v12), (.int v13), (.int v14)])), (b4, .inr (.int, [(.int v5), (.int v6), (.int v7), (.int v8), (.int v9), (.int v10)]))] 2 9 → Go p e below (EndS below s n0 Z 16 128 (fun v _ => v = some (.int 1))) (T.setTop (mkF m 211 #[.val (.long sl), .second, .val (.int pp), .val (.int qq), .val (.int rr), .val (.int sh), .val (.int (0 : Int32)), .val (.int (1 : Int32)), .val (.ref b4), .val (.ref b11), .val (.int v12), .val (.int v13), .val (.int v14), .val (.int v6), .val (.int v7), .val (.int v8), .unset, .unset, .unset, .unset, .unset, .unset, .unset, .unset] [(.int (0 : Int32))])) := by
       intro T  A
       refine A.istore (q := 213) (l' := #[.val (.long sl), .second, .val (.int pp), .val (.int qq), .val (.int rr), .val (.int sh), .val (.int (0 : Int32)), .val (.int (1 : Int32)), .val (.ref b4), .val (.ref b11), .val (.int v12), .val (.int v13), .val (.int v14), .val (.int v6), .val (.int v7), .val (.int v8), .val (.int (0 : Int32)), .unset, .unset, .unset, .unset, .unset, .unset, .unset]) at_211 rfl rfl ?_
       have J213_89 : ∀ (T : State), Here p l e room_1 s m ([(.long sl), (.int pp), (.int qq), (.int rr), (.int sh)] : List Value).toArray below meth c Z a0 tables_1 x.cls x.name code 24 (some .boolean) n0 T [(b11, .inr (.int, [(.int v12), (.int v13), (.int v14)])), (b4, .inr (.int, [(.int v5), (.int v6), (.int v7), (.int v8), (.int v9), (.int v10)]))] 2 9 → Go p e below (EndS below s n0 Z 16 128 (fun v _ => v = some (.int 1))) (T.setTop (mkF m 234 #[.val (.long sl), .second, .val (.int pp), .val (.int qq), .val (.int rr), .val (.int sh), .val (.int (0 : Int32)), .val (.int (1 : Int32)), .val (.ref b4), .val (.ref b11), .val (.int v12), .val (.int v13), .val (.int v14), .val (.int v6), .val (.int v7), .val (.int v8), .val (.int (0 : Int32)), .unset, .unset, .unset, .unset, .unset, .unset, .unset] [(.int (0 : Int32))])) := by
        intro T  A
        refine A.istore (q := 236) (l' := #[.val (.long sl), .second, .val (.int pp), .val (.int qq), .val (.int rr), .val (.int sh), .val (.int (0 : Int32)), .val (.int (1 : Int32)), .val (.ref b4), .val (.ref b11), .val (.int v12), .val (.int v13), .val (.int v14), .val (.int v6), .val (.int v7), .val (.int v8), .val (.int (0 : Int32)), .val (.int (0 : Int32)), .unset, .unset, .unset, .unset, .unset, .unset]) at_234 rfl rfl ?_
        have J236_90 : ∀ (T : State), Here p l e room_1 s m ([(.long sl), (.int pp), (.int qq), (.int rr), (.int sh)] : List Value).toArray below meth c Z a0 tables_1 x.cls x.name code 24 (some .boolean) n0 T [(b11, .inr (.int, [(.int v12), (.int v13), (.int v14)])), (b4, .inr (.int, [(.int v5), (.int v6), (.int v7), (.int v8), (.int v9), (.int v10)]))] 2 9 → Go p e below (EndS below s n0 Z 16 128 (fun v _ => v = some (.int 1))) (T.setTop (mkF m 257 #[.val (.long sl), .second, .val (.int pp), .val (.int qq), .val (.int rr), .val (.int sh), .val (.int (0 : Int32)), .val (.int (1 : Int32)), .val (.ref b4), .val (.ref b11), .val (.int v12), .val (.int v13), .val (.int v14), .val (.int v6), .val (.int v7), .val (.int v8), .val (.int (0 : Int32)), .val (.int (0 : Int32)), .unset, .unset, .unset, .unset, .unset, .unset] [(.int (0 : Int32))])) := by
         intro T  A
         refine A.istore (q := 259) (l' := #[.val (.long sl), .second, .val (.int pp), .val (.int qq), .val (.int rr), .val (.int sh), .val (.int (0 : Int32)), .val (.int (1 : Int32)), .val (.ref b4), .val (.ref b11), .val (.int v12), .val (.int v13), .val (.int v14), .val (.int v6), .val (.int v7), .val (.int v8), .val (.int (0 : Int32)), .val (.int (0 : Int32)), .val (.int (0 : Int32)), .unset, .unset, .unset, .unset, .unset]) at_257 rfl rfl ?_
         have J259_91 : ∀ (T : State), Here p l e room_1 s m ([(.long sl), (.int pp), (.int qq), (.int rr), (.int sh)] : List Value).toArray below meth c Z a0 tables_1 x.cls x.name code 24 (some .boolean) n0 T [(b11, .inr (.int, [(.int v12), (.int v13), (.int v14)])), (b4, .inr (.int, [(.int v5), (.int v6), (.int v7), (.int v8), (.int v9), (.int v10)]))] 2 9 → Go p e below (EndS below s n0 Z 16 128 (fun v _ => v = some (.int 1))) (T.setTop (mkF m 279 #[.val (.long sl), .second, .val (.int pp), .val (.int qq), .val (.int rr), .val (.int sh), .val (.int (0 : Int32)), .val (.int (1 : Int32)), .val (.ref b4), .val (.ref b11), .val (.int v12), .val (.int v13), .val (.int v14), .val (.int v6), .val (.int v7), .val (.int v8), .val (.int (0 : Int32)), .val (.int (0 : Int32)), .val (.int (0 : Int32)), .unset, .unset, .unset, .unset, .unset] [(.int (1 : Int32))])) := by
          intro T  A
          refine A.istore (q := 281) (l' := #[.val (.long sl), .second, .val (.int pp), .val (.int qq), .val (.int rr), .val (.int sh), .val (.int (0 : Int32)), .val (.int (1 : Int32)), .val (.ref b4), .val (.ref b11), .val (.int v12), .val (.int v13), .val (.int v14), .val (.int v6), .val (.int v7), .val (.int v8), .val (.int (0 : Int32)), .val (.int (0 : Int32)), .val (.int (0 : Int32)), .val (.int (1 : Int32)), .unset, .unset, .unset, .unset]) at_279 rfl rfl ?_
          have J281_92 : ∀ (T : State), Here p l e room_1 s m ([(.long sl), (.int pp), (.int qq), (.int rr), (.int sh)] : List Value).toArray below meth c Z a0 tables_1 x.cls x.name code 24 (some .boolean) n0 T [(b11, .inr (.int, [(.int v12), (.int v13), (.int v14)])), (b4, .inr (.int, [(.int v5), (.int v6), (.int v7), (.int v8), (.int v9), (.int v10)]))] 2 9 → Go p e below (EndS below s n0 Z 16 128 (fun v _ => v = some (.int 1))) (T.setTop (mkF m 298 #[.val (.long sl), .second, .val (.int pp), .val (.int qq), .val (.int rr), .val (.int sh), .val (.int (0 : Int32)), .val (.int (1 : Int32)), .val (.ref b4), .val (.ref b11), .val (.int v12), .val (.int v13), .val (.int v14), .val (.int v6), .val (.int v7), .val (.int v8), .val (.int (0 : Int32)), .val (.int (0 : Int32)), .val (.int (0 : Int32)), .val (.int (1 : Int32)), .unset, .unset, .unset, .unset] [(.int v12)])) := by
           intro T  A
           refine A.istore (q := 300) (l' := #[.val (.long sl), .second, .val (.int pp), .val (.int qq), .val (.int rr), .val (.int sh), .val (.int (0 : Int32)), .val (.int (1 : Int32)), .val (.ref b4), .val (.ref b11), .val (.int v12), .val (.int v13), .val (.int v14), .val (.int v6), .val (.int v7), .val (.int v8), .val (.int (0 : Int32)), .val (.int (0 : Int32)), .val (.int (0 : Int32)), .val (.int (1 : Int32)), .val (.int v12), .unset, .unset, .unset]) at_298 rfl rfl ?_
           have J300_93 : ∀ (T : State), Here p l e room_1 s m ([(.long sl), (.int pp), (.int qq), (.int rr), (.int sh)] : List Value).toArray below meth c Z a0 tables_1 x.cls x.name code 24 (some .boolean) n0 T [(b11, .inr (.int, [(.int v12), (.int v13), (.int v14)])), (b4, .inr (.int, [(.int v5), (.int v6), (.int v7), (.int v8), (.int v9), (.int v10)]))] 2 9 → Go p e below (EndS below s n0 Z 16 128 (fun v _ => v = some (.int 1))) (T.setTop (mkF m 323 #[.val (.long sl), .second, .val (.int pp), .val (.int qq), .val (.int rr), .val (.int sh), .val (.int (0 : Int32)), .val (.int (1 : Int32)), .val (.ref b4), .val (.ref b11), .val (.int v12), .val (.int v13), .val (.int v14), .val (.int v6), .val (.int v7), .val (.int v8), .val (.int (0 : Int32)), .val (.int (0 : Int32)), .val (.int (0 : Int32)), .val (.int (1 : Int32)), .val (.int v12), .unset, .unset, .unset] [(.int v13)])) := by
            intro T  A
            refine A.istore (q := 325) (l' := #[.val (.long sl), .second, .val (.int pp), .val (.int qq), .val (.int rr), .val (.int sh), .val (.int (0 : Int32)), .val (.int (1 : Int32)), .val (.ref b4), .val (.ref b11), .val (.int v12), .val (.int v13), .val (.int v14), .val (.int v6), .val (.int v7), .val (.int v8), .val (.int (0 : Int32)), .val (.int (0 : Int32)), .val (.int (0 : Int32)), .val (.int (1 : Int32)), .val (.int v12), .val (.int v13), .unset, .unset]) at_323 rfl rfl ?_
            have J325_94 : ∀ (T : State), Here p l e room_1 s m ([(.long sl), (.int pp), (.int qq), (.int rr), (.int sh)] : List Value).toArray below meth c Z a0 tables_1 x.cls x.name code 24 (some .boolean) n0 T [(b11, .inr (.int, [(.int v12), (.int v13), (.int v14)])), (b4, .inr (.int, [(.int v5), (.int v6), (.int v7), (.int v8), (.int v9), (.int v10)]))] 2 9 → Go p e below (EndS below s n0 Z 16 128 (fun v _ => v = some (.int 1))) (T.setTop (mkF m 353 #[.val (.long sl), .second, .val (.int pp), .val (.int qq), .val (.int rr), .val (.int sh), .val (.int (0 : Int32)), .val (.int (1 : Int32)), .val (.ref b4), .val (.ref b11), .val (.int v12), .val (.int v13), .val (.int v14), .val (.int v6), .val (.int v7), .val (.int v8), .val (.int (0 : Int32)), .val (.int (0 : Int32)), .val (.int (0 : Int32)), .val (.int (1 : Int32)), .val (.int v12), .val (.int v13), .unset, .unset] [(.int v14)])) := by
             intro T  A
             refine A.istore (q := 355) (l' := #[.val (.long sl), .second, .val (.int pp), .val (.int qq), .val (.int rr), .val (.int sh), .val (.int (0 : Int32)), .val (.int (1 : Int32)), .val (.ref b4), .val (.ref b11), .val (.int v12), .val (.int v13), .val (.int v14), .val (.int v6), .val (.int v7), .val (.int v8), .val (.int (0 : Int32)), .val (.int (0 : Int32)), .val (.int (0 : Int32)), .val (.int (1 : Int32)), .val (.int v12), .val (.int v13), .val (.int v14), .unset]) at_353 rfl rfl ?_
             refine A.aload (q := 357) at_355 rfl rfl rfl ?_
             refine A.iload (q := 359) at_357 rfl rfl ?_
             refine A.iload (q := 361) at_359 rfl rfl ?_
             refine A.aload (q := 363) at_361 rfl rfl rfl ?_
             have A := A.front (i := 1) (L' := [(b4, .inr (.int, [(.int v5), (.int v6), (.int v7), (.int v8), (.int v9), (.int v10)])), (b11, .inr (.int, [(.int v12), (.int v13), (.int v14)]))]) rfl rfl
             refine A.callS (q := 366) (w1 := 12) (w2 := 13) (w3 := 14) (w4 := 15) (as := [(.ref b4), (.int (1 : Int32)), (.int (0 : Int32)), (.ref b11)]) (st := []) (W := 0) at_363 rfl rfl rfl rfl rfl (rmI_5 l Z a0 hw n0 b4 b11 v5 v6 v7 v8 v9 v10 v12 v13 v14 _) (by decide) ⟨_, _, pd_1, rfl⟩ rfl rfl rfl (by decide) (by decide) (by decide) (by decide) ?_
             rintro _ T _ ⟨rfl, rfl⟩ A
             show Go p e below _ (T.setTop (mkF m 366 #[.val (.long sl), .second, .val (.int pp), .val (.int qq), .val (.int rr), .val (.int sh), .val (.int (0 : Int32)), .val (.int (1 : Int32)), .val (.ref b4), .val (.ref b11), .val (.int v12), .val (.int v13), .val (.int v14), .val (.int v6), .val (.int v7), .val (.int v8), .val (.int (0 : Int32)), .val (.int (0 : Int32)), .val (.int (0 : Int32)), .val (.int (1 : Int32)), .val (.int v12), .val (.int v13), .val (.int v14), .unset] [(.int (1 : Int32))]))
             refine A.istore (q := 368) (l' := #[.val (.long sl), .second, .val (.int pp), .val (.int qq), .val (.int rr), .val (.int sh), .val (.int (0 : Int32)), .val (.int (1 : Int32)), .val (.ref b4), .val (.ref b11), .val (.int v12), .val (.int v13), .val (.int v14), .val (.int v6), .val (.int v7), .val (.int v8), .val (.int (0 : Int32)), .val (.int (0 : Int32)), .val (.int (0 : Int32)), .val (.int (1 : Int32)), .val (.int v12), .val (.int v13), .val (.int v14), .val (.int (1 : Int32))]) at_366 rfl rfl ?_
             refine A.iload (q := 370) at_368 rfl rfl ?_
             refine A.iload (q := 372) at_370 rfl rfl ?_
             refine A.icmpF (q := 375) at_372 rfl (by decide) ?_
             refine A.aload (q := 377) at_375 rfl rfl rfl ?_
             refine A.iconst (q := 378) (v := (0 : Int32)) at_377 rfl (by decide) ?_
             refine A.iaload (q := 379) (i := 1) (v := (.int v12)) at_378 rfl rfl (by decide) rfl ?_
             refine A.iload (q := 381) at_379 rfl rfl ?_
             refine A.icmpF (q := 384) at_381 rfl (teq rfl).2 ?_
             refine A.aload (q := 386) at_384 rfl rfl rfl ?_
             refine A.iconst (q := 387) (v := (1 : Int32)) at_386 rfl (by decide) ?_
             refine A.iaload (q := 388) (i := 1) (v := (.int v13)) at_387 rfl rfl (by decide) rfl ?_
             refine A.iload (q := 390) at_388 rfl rfl ?_
             refine A.icmpF (q := 393) at_390 rfl (teq rfl).2 ?_
             refine A.aload (q := 395) at_393 rfl rfl rfl ?_
             refine A.iconst (q := 396) (v := (2 : Int32)) at_395 rfl (by decide) ?_
             refine A.iaload (q := 397) (i := 1) (v := (.int v14)) at_396 rfl rfl (by decide) rfl ?_
             refine A.iload (q := 399) at_397 rfl rfl ?_
             refine A.icmpF (q := 402) at_399 rfl (teq rfl).2 ?_
             refine A.iconst (q := 403) (v := (1 : Int32)) at_402 rfl (by decide) ?_
             refine A.goto (r := 407) at_403 (by decide) ?_
             exact A.retZ (v := 1) at_407 (by decide) (by decide) (by decide) rfl
            refine A.iload (q := 327) at_325 rfl rfl ?_
            refine A.iconst (q := 328) (v := (2 : Int32)) at_327 rfl (by decide) ?_
            refine A.icmpT (r := 351) at_328 (by decide) (by decide) ?_
            refine A.iload (q := 353) at_351 rfl rfl ?_
            exact J325_94 T  A
           refine A.iload (q := 302) at_300 rfl rfl ?_
           refine A.iconst (q := 303) (v := (1 : Int32)) at_302 rfl (by decide) ?_
           refine A.icmpT (r := 321) at_303 (by decide) (by decide) ?_
           refine A.iload (q := 323) at_321 rfl rfl ?_
           exact J300_93 T  A
          refine A.iload (q := 283) at_281 rfl rfl ?_
          refine A.ifT (r := 296) at_283 (by decide) (by decide) ?_
          refine A.iload (q := 298) at_296 rfl rfl ?_
          exact J281_92 T  A
         refine A.iload (q := 261) at_259 rfl rfl ?_
         refine A.ifF (q := 264) at_261 rfl (by decide) ?_
         refine A.iload (q := 266) at_264 rfl rfl ?_
         refine A.ifF (q := 269) at_266 rfl (by decide) ?_
         refine A.iload (q := 271) at_269 rfl rfl ?_
         refine A.ifF (q := 274) at_271 rfl (by decide) ?_
         refine A.iconst (q := 275) (v := (1 : Int32)) at_274 rfl (by decide) ?_
         refine A.goto (r := 279) at_275 (by decide) ?_
         exact J259_91 T  A
        refine A.iload (q := 238) at_236 rfl rfl ?_
        refine A.iconst (q := 239) (v := (2 : Int32)) at_238 rfl (by decide) ?_
        refine A.icmpT (r := 256) at_239 (by decide) (by decide) ?_
        refine A.iconst (q := 257) (v := (0 : Int32)) at_256 rfl (by decide) ?_
        exact J236_90 T  A
       refine A.iload (q := 215) at_213 rfl rfl ?_
       refine A.iconst (q := 216) (v := (1 : Int32)) at_215 rfl (by decide) ?_
       refine A.icmpT (r := 233) at_216 (by decide) (by decide) ?_
       refine A.iconst (q := 234) (v := (0 : Int32)) at_233 rfl (by decide) ?_
       exact J213_89 T  A
      refine A.iload (q := 193) at_191 rfl rfl ?_
      refine A.ifT (r := 210) at_193 (by decide) (by decide) ?_
      refine A.iconst (q := 211) (v := (0 : Int32)) at_210 rfl (by decide) ?_
      exact J191_88 T  A
    · have J191_98 : ∀ (T : State) (j98 : Int32), j98 = (if ((FC v6 v12)) = (0 : Int32) then (0 : Int32) else (1 : Int32)) → Here p l e room_1 s m ([(.long sl), (.int pp), (.int qq), (.int rr), (.int sh)] : List Value).toArray below meth c Z a0 tables_1 x.cls x.name code 24 (some .boolean) n0 T [(b11, .inr (.int, [(.int v12), (.int v13), (.int v14)])), (b4, .inr (.int, [(.int v5), (.int v6), (.int v7), (.int v8), (.int v9), (.int v10)]))] 2 9 → Go p e below (EndS below s n0 Z 16 128 (fun v _ => v = some (.int 1))) (T.setTop (mkF m 211 #[.val (.long sl), .second, .val (.int pp), .val (.int qq), .val (.int rr), .val (.int sh), .val (.int (1 : Int32)), .val (.int (1 : Int32)), .val (.ref b4), .val (.ref b11), .val (.int v12), .val (.int v13), .val (.int v14), .val (.int v6), .val (.int v7), .val (.int v8), .unset, .unset, .unset, .unset, .unset, .unset, .unset, .unset] [(.int j98)])) := by
       intro T j98 ej98 A
       have z_j98 : nar .boolean j98 = j98 := by rw [ej98]; (repeat' split) <;> first | decide | assumption
       refine A.istore (q := 213) (l' := #[.val (.long sl), .second, .val (.int pp), .val (.int qq), .val (.int rr), .val (.int sh), .val (.int (1 : Int32)), .val (.int (1 : Int32)), .val (.ref b4), .val (.ref b11), .val (.int v12), .val (.int v13), .val (.int v14), .val (.int v6), .val (.int v7), .val (.int v8), .val (.int j98), .unset, .unset, .unset, .unset, .unset, .unset, .unset]) at_211 rfl rfl ?_
       have J213_99 : ∀ (T : State), Here p l e room_1 s m ([(.long sl), (.int pp), (.int qq), (.int rr), (.int sh)] : List Value).toArray below meth c Z a0 tables_1 x.cls x.name code 24 (some .boolean) n0 T [(b11, .inr (.int, [(.int v12), (.int v13), (.int v14)])), (b4, .inr (.int, [(.int v5), (.int v6), (.int v7), (.int v8), (.int v9), (.int v10)]))] 2 9 → Go p e below (EndS below s n0 Z 16 128 (fun v _ => v = some (.int 1))) (T.setTop (mkF m 234 #[.val (.long sl), .second, .val (.int pp), .val (.int qq), .val (.int rr), .val (.int sh), .val (.int (1 : Int32)), .val (.int (1 : Int32)), .val (.ref b4), .val (.ref b11), .val (.int v12), .val (.int v13), .val (.int v14), .val (.int v6), .val (.int v7), .val (.int v8), .val (.int j98), .unset, .unset, .unset, .unset, .unset, .unset, .unset] [(.int (0 : Int32))])) := by
        intro T  A
        refine A.istore (q := 236) (l' := #[.val (.long sl), .second, .val (.int pp), .val (.int qq), .val (.int rr), .val (.int sh), .val (.int (1 : Int32)), .val (.int (1 : Int32)), .val (.ref b4), .val (.ref b11), .val (.int v12), .val (.int v13), .val (.int v14), .val (.int v6), .val (.int v7), .val (.int v8), .val (.int j98), .val (.int (0 : Int32)), .unset, .unset, .unset, .unset, .unset, .unset]) at_234 rfl rfl ?_
        have J236_100 : ∀ (T : State), Here p l e room_1 s m ([(.long sl), (.int pp), (.int qq), (.int rr), (.int sh)] : List Value).toArray below meth c Z a0 tables_1 x.cls x.name code 24 (some .boolean) n0 T [(b11, .inr (.int, [(.int v12), (.int v13), (.int v14)])), (b4, .inr (.int, [(.int v5), (.int v6), (.int v7), (.int v8), (.int v9), (.int v10)]))] 2 9 → Go p e below (EndS below s n0 Z 16 128 (fun v _ => v = some (.int 1))) (T.setTop (mkF m 257 #[.val (.long sl), .second, .val (.int pp), .val (.int qq), .val (.int rr), .val (.int sh), .val (.int (1 : Int32)), .val (.int (1 : Int32)), .val (.ref b4), .val (.ref b11), .val (.int v12), .val (.int v13), .val (.int v14), .val (.int v6), .val (.int v7), .val (.int v8), .val (.int j98), .val (.int (0 : Int32)), .unset, .unset, .unset, .unset, .unset, .unset] [(.int (0 : Int32))])) := by
         intro T  A
         refine A.istore (q := 259) (l' := #[.val (.long sl), .second, .val (.int pp), .val (.int qq), .val (.int rr), .val (.int sh), .val (.int (1 : Int32)), .val (.int (1 : Int32)), .val (.ref b4), .val (.ref b11), .val (.int v12), .val (.int v13), .val (.int v14), .val (.int v6), .val (.int v7), .val (.int v8), .val (.int j98), .val (.int (0 : Int32)), .val (.int (0 : Int32)), .unset, .unset, .unset, .unset, .unset]) at_257 rfl rfl ?_
         have J259_103 : ∀ (T : State) (j103 : Int32), j103 = (if j98 = (0 : Int32) then (1 : Int32) else (0 : Int32)) → Here p l e room_1 s m ([(.long sl), (.int pp), (.int qq), (.int rr), (.int sh)] : List Value).toArray below meth c Z a0 tables_1 x.cls x.name code 24 (some .boolean) n0 T [(b11, .inr (.int, [(.int v12), (.int v13), (.int v14)])), (b4, .inr (.int, [(.int v5), (.int v6), (.int v7), (.int v8), (.int v9), (.int v10)]))] 2 9 → Go p e below (EndS below s n0 Z 16 128 (fun v _ => v = some (.int 1))) (T.setTop (mkF m 279 #[.val (.long sl), .second, .val (.int pp), .val (.int qq), .val (.int rr), .val (.int sh), .val (.int (1 : Int32)), .val (.int (1 : Int32)), .val (.ref b4), .val (.ref b11), .val (.int v12), .val (.int v13), .val (.int v14), .val (.int v6), .val (.int v7), .val (.int v8), .val (.int j98), .val (.int (0 : Int32)), .val (.int (0 : Int32)), .unset, .unset, .unset, .unset, .unset] [(.int j103)])) := by
          intro T j103 ej103 A
          have z_j103 : nar .boolean j103 = j103 := by rw [ej103]; (repeat' split) <;> first | decide | assumption
          refine A.istore (q := 281) (l' := #[.val (.long sl), .second, .val (.int pp), .val (.int qq), .val (.int rr), .val (.int sh), .val (.int (1 : Int32)), .val (.int (1 : Int32)), .val (.ref b4), .val (.ref b11), .val (.int v12), .val (.int v13), .val (.int v14), .val (.int v6), .val (.int v7), .val (.int v8), .val (.int j98), .val (.int (0 : Int32)), .val (.int (0 : Int32)), .val (.int j103), .unset, .unset, .unset, .unset]) at_279 rfl rfl ?_
          have J281_106 : ∀ (T : State) (j106 : Int32), j106 = ((FG v6 v12)) → Here p l e room_1 s m ([(.long sl), (.int pp), (.int qq), (.int rr), (.int sh)] : List Value).toArray below meth c Z a0 tables_1 x.cls x.name code 24 (some .boolean) n0 T [(b11, .inr (.int, [(.int v12), (.int v13), (.int v14)])), (b4, .inr (.int, [(.int v5), (.int v6), (.int v7), (.int v8), (.int v9), (.int v10)]))] 2 9 → Go p e below (EndS below s n0 Z 16 128 (fun v _ => v = some (.int 1))) (T.setTop (mkF m 298 #[.val (.long sl), .second, .val (.int pp), .val (.int qq), .val (.int rr), .val (.int sh), .val (.int (1 : Int32)), .val (.int (1 : Int32)), .val (.ref b4), .val (.ref b11), .val (.int v12), .val (.int v13), .val (.int v14), .val (.int v6), .val (.int v7), .val (.int v8), .val (.int j98), .val (.int (0 : Int32)), .val (.int (0 : Int32)), .val (.int j103), .unset, .unset, .unset, .unset] [(.int j106)])) := by
           intro T j106 ej106 A
           refine A.istore (q := 300) (l' := #[.val (.long sl), .second, .val (.int pp), .val (.int qq), .val (.int rr), .val (.int sh), .val (.int (1 : Int32)), .val (.int (1 : Int32)), .val (.ref b4), .val (.ref b11), .val (.int v12), .val (.int v13), .val (.int v14), .val (.int v6), .val (.int v7), .val (.int v8), .val (.int j98), .val (.int (0 : Int32)), .val (.int (0 : Int32)), .val (.int j103), .val (.int j106), .unset, .unset, .unset]) at_298 rfl rfl ?_
           have J300_107 : ∀ (T : State), Here p l e room_1 s m ([(.long sl), (.int pp), (.int qq), (.int rr), (.int sh)] : List Value).toArray below meth c Z a0 tables_1 x.cls x.name code 24 (some .boolean) n0 T [(b11, .inr (.int, [(.int v12), (.int v13), (.int v14)])), (b4, .inr (.int, [(.int v5), (.int v6), (.int v7), (.int v8), (.int v9), (.int v10)]))] 2 9 → Go p e below (EndS below s n0 Z 16 128 (fun v _ => v = some (.int 1))) (T.setTop (mkF m 323 #[.val (.long sl), .second, .val (.int pp), .val (.int qq), .val (.int rr), .val (.int sh), .val (.int (1 : Int32)), .val (.int (1 : Int32)), .val (.ref b4), .val (.ref b11), .val (.int v12), .val (.int v13), .val (.int v14), .val (.int v6), .val (.int v7), .val (.int v8), .val (.int j98), .val (.int (0 : Int32)), .val (.int (0 : Int32)), .val (.int j103), .val (.int j106), .unset, .unset, .unset] [(.int v13)])) := by
            intro T  A
            refine A.istore (q := 325) (l' := #[.val (.long sl), .second, .val (.int pp), .val (.int qq), .val (.int rr), .val (.int sh), .val (.int (1 : Int32)), .val (.int (1 : Int32)), .val (.ref b4), .val (.ref b11), .val (.int v12), .val (.int v13), .val (.int v14), .val (.int v6), .val (.int v7), .val (.int v8), .val (.int j98), .val (.int (0 : Int32)), .val (.int (0 : Int32)), .val (.int j103), .val (.int j106), .val (.int v13), .unset, .unset]) at_323 rfl rfl ?_
            have J325_108 : ∀ (T : State), Here p l e room_1 s m ([(.long sl), (.int pp), (.int qq), (.int rr), (.int sh)] : List Value).toArray below meth c Z a0 tables_1 x.cls x.name code 24 (some .boolean) n0 T [(b11, .inr (.int, [(.int v12), (.int v13), (.int v14)])), (b4, .inr (.int, [(.int v5), (.int v6), (.int v7), (.int v8), (.int v9), (.int v10)]))] 2 9 → Go p e below (EndS below s n0 Z 16 128 (fun v _ => v = some (.int 1))) (T.setTop (mkF m 353 #[.val (.long sl), .second, .val (.int pp), .val (.int qq), .val (.int rr), .val (.int sh), .val (.int (1 : Int32)), .val (.int (1 : Int32)), .val (.ref b4), .val (.ref b11), .val (.int v12), .val (.int v13), .val (.int v14), .val (.int v6), .val (.int v7), .val (.int v8), .val (.int j98), .val (.int (0 : Int32)), .val (.int (0 : Int32)), .val (.int j103), .val (.int j106), .val (.int v13), .unset, .unset] [(.int v14)])) := by
             intro T  A
             refine A.istore (q := 355) (l' := #[.val (.long sl), .second, .val (.int pp), .val (.int qq), .val (.int rr), .val (.int sh), .val (.int (1 : Int32)), .val (.int (1 : Int32)), .val (.ref b4), .val (.ref b11), .val (.int v12), .val (.int v13), .val (.int v14), .val (.int v6), .val (.int v7), .val (.int v8), .val (.int j98), .val (.int (0 : Int32)), .val (.int (0 : Int32)), .val (.int j103), .val (.int j106), .val (.int v13), .val (.int v14), .unset]) at_353 rfl rfl ?_
             refine A.aload (q := 357) at_355 rfl rfl rfl ?_
             refine A.iload (q := 359) at_357 rfl rfl ?_
             refine A.iload (q := 361) at_359 rfl rfl ?_
             refine A.aload (q := 363) at_361 rfl rfl rfl ?_
             have A := A.front (i := 1) (L' := [(b4, .inr (.int, [(.int v5), (.int v6), (.int v7), (.int v8), (.int v9), (.int v10)])), (b11, .inr (.int, [(.int v12), (.int v13), (.int v14)]))]) rfl rfl
             refine A.callS (q := 366) (w1 := 12) (w2 := 13) (w3 := 14) (w4 := 15) (as := [(.ref b4), (.int (1 : Int32)), (.int (1 : Int32)), (.ref b11)]) (st := []) (W := 0) at_363 rfl rfl rfl rfl rfl (rmI_6 l Z a0 hw n0 b4 b11 v5 v6 v7 v8 v9 v10 v12 v13 v14 _) (by decide) ⟨_, _, pd_1, rfl⟩ rfl rfl rfl (by decide) (by decide) (by decide) (by decide) ?_
             rintro _ T _ ⟨rfl, rfl⟩ A
             show Go p e below _ (T.setTop (mkF m 366 #[.val (.long sl), .second, .val (.int pp), .val (.int qq), .val (.int rr), .val (.int sh), .val (.int (1 : Int32)), .val (.int (1 : Int32)), .val (.ref b4), .val (.ref b11), .val (.int v12), .val (.int v13), .val (.int v14), .val (.int v6), .val (.int v7), .val (.int v8), .val (.int j98), .val (.int (0 : Int32)), .val (.int (0 : Int32)), .val (.int j103), .val (.int j106), .val (.int v13), .val (.int v14), .unset] [(.int (FI_6 v6 v12))]))
             obtain ⟨v110, e110⟩ : ∃ v : Int32, (FI_6 v6 v12) = v := ⟨_, rfl⟩
             rw [e110]
             refine A.istore (q := 368) (l' := #[.val (.long sl), .second, .val (.int pp), .val (.int qq), .val (.int rr), .val (.int sh), .val (.int (1 : Int32)), .val (.int (1 : Int32)), .val (.ref b4), .val (.ref b11), .val (.int v12), .val (.int v13), .val (.int v14), .val (.int v6), .val (.int v7), .val (.int v8), .val (.int j98), .val (.int (0 : Int32)), .val (.int (0 : Int32)), .val (.int j103), .val (.int j106), .val (.int v13), .val (.int v14), .val (.int v110)]) at_366 rfl rfl ?_
             refine A.iload (q := 370) at_368 rfl rfl ?_
             refine A.iload (q := 372) at_370 rfl rfl ?_
             refine A.icmpF (q := 375) at_372 rfl (teq (by subst e2 e5 e6 e7 e8 e9 e10 e12 e13 e14 ej98 ej103 ej106 e110; exact own_w1_0 _ 0 0 _ 0 0 : v110 = j103)).2 ?_
             refine A.aload (q := 377) at_375 rfl rfl rfl ?_
             refine A.iconst (q := 378) (v := (0 : Int32)) at_377 rfl (by decide) ?_
             refine A.iaload (q := 379) (i := 1) (v := (.int (if (v6 = (-1 : Int32)) ∨ (¬ (v6 = (-1 : Int32)) ∧ ¬ (v12 = (-1 : Int32)) ∧ v12 = v6) ∨ (¬ (v6 = (-1 : Int32)) ∧ v12 = (-1 : Int32)) then ((if v6 = (-1 : Int32) then v12 else (if v12 = (-1 : Int32) then v6 else v12))) else v12))) at_378 rfl rfl (by decide) rfl ?_
             refine A.iload (q := 381) at_379 rfl rfl ?_
             refine A.icmpF (q := 384) at_381 rfl (teq (by subst e2 e5 e6 e7 e8 e9 e10 e12 e13 e14 ej98 ej103 ej106 e110; exact own_w1_1 _ 0 0 _ 0 0 : (if (v6 = (-1 : Int32)) ∨ (¬ (v6 = (-1 : Int32)) ∧ ¬ (v12 = (-1 : Int32)) ∧ v12 = v6) ∨ (¬ (v6 = (-1 : Int32)) ∧ v12 = (-1 : Int32)) then ((if v6 = (-1 : Int32) then v12 else (if v12 = (-1 : Int32) then v6 else v12))) else v12) = j106)).2 ?_
             refine A.aload (q := 386) at_384 rfl rfl rfl ?_
             refine A.iconst (q := 387) (v := (1 : Int32)) at_386 rfl (by decide) ?_
             refine A.iaload (q := 388) (i := 1) (v := (.int v13)) at_387 rfl rfl (by decide) rfl ?_
             refine A.iload (q := 390) at_388 rfl rfl ?_
             refine A.icmpF (q := 393) at_390 rfl (teq rfl).2 ?_
             refine A.aload (q := 395) at_393 rfl rfl rfl ?_
             refine A.iconst (q := 396) (v := (2 : Int32)) at_395 rfl (by decide) ?_
             refine A.iaload (q := 397) (i := 1) (v := (.int v14)) at_396 rfl rfl (by decide) rfl ?_
             refine A.iload (q := 399) at_397 rfl rfl ?_
             refine A.icmpF (q := 402) at_399 rfl (teq rfl).2 ?_
             refine A.iconst (q := 403) (v := (1 : Int32)) at_402 rfl (by decide) ?_
             refine A.goto (r := 407) at_403 (by decide) ?_
             exact A.retZ (v := 1) at_407 (by decide) (by decide) (by decide) rfl
            refine A.iload (q := 327) at_325 rfl rfl ?_
            refine A.iconst (q := 328) (v := (2 : Int32)) at_327 rfl (by decide) ?_
            refine A.icmpT (r := 351) at_328 (by decide) (by decide) ?_
            refine A.iload (q := 353) at_351 rfl rfl ?_
            exact J325_108 T  A
           refine A.iload (q := 302) at_300 rfl rfl ?_
           refine A.iconst (q := 303) (v := (1 : Int32)) at_302 rfl (by decide) ?_
           refine A.icmpT (r := 321) at_303 (by decide) (by decide) ?_
           refine A.iload (q := 323) at_321 rfl rfl ?_
           exact J300_107 T  A
          refine A.iload (q := 283) at_281 rfl rfl ?_
          refine A.ifF (q := 286) at_283 rfl (by decide) ?_
          refine A.iload (q := 288) at_286 rfl rfl ?_
          refine A.iload (q := 290) at_288 rfl rfl ?_
          refine A.callS (q := 293) (w1 := 9) (w2 := 10) (w3 := 3) (w4 := 11) (as := [(.int v6), (.int v12)]) (st := []) (W := 0) at_290 rfl rfl rfl rfl rfl (rmG l Z a0 hw n0 v6 v12 _) (by decide) ⟨_, _, pd_3, rfl⟩ rfl rfl rfl (by decide) (by decide) (by decide) (by decide) ?_
          rintro _ T _ ⟨rfl, rfl⟩ A
          show Go p e below _ (T.setTop (mkF m 293 #[.val (.long sl), .second, .val (.int pp), .val (.int qq), .val (.int rr), .val (.int sh), .val (.int (1 : Int32)), .val (.int (1 : Int32)), .val (.ref b4), .val (.ref b11), .val (.int v12), .val (.int v13), .val (.int v14), .val (.int v6), .val (.int v7), .val (.int v8), .val (.int j98), .val (.int (0 : Int32)), .val (.int (0 : Int32)), .val (.int j103), .unset, .unset, .unset, .unset] [(.int (FG v6 v12))]))
          obtain ⟨v105, e105⟩ : ∃ v : Int32, (FG v6 v12) = v := ⟨_, rfl⟩
          rw [e105]
          refine A.goto (r := 298) at_293 (by decide) ?_
          exact J281_106 T _ (by simp only [e105]) A
         refine A.iload (q := 261) at_259 rfl rfl ?_
         refine A.if_ne (q := 264) (r := 278) at_261 rfl (by decide) (fun h102 => ?_) (fun h102 => ?_)
         · refine A.iconst (q := 279) (v := (0 : Int32)) at_278 rfl (by decide) ?_
           exact J259_103 T _ (by simp only [if_neg h102]) A
         · refine A.iload (q := 266) at_264 rfl rfl ?_
           refine A.ifF (q := 269) at_266 rfl (by decide) ?_
           refine A.iload (q := 271) at_269 rfl rfl ?_
           refine A.ifF (q := 274) at_271 rfl (by decide) ?_
           refine A.iconst (q := 275) (v := (1 : Int32)) at_274 rfl (by decide) ?_
           refine A.goto (r := 279) at_275 (by decide) ?_
           exact J259_103 T _ (by simp only [if_pos h102]) A
        refine A.iload (q := 238) at_236 rfl rfl ?_
        refine A.iconst (q := 239) (v := (2 : Int32)) at_238 rfl (by decide) ?_
        refine A.icmpT (r := 256) at_239 (by decide) (by decide) ?_
        refine A.iconst (q := 257) (v := (0 : Int32)) at_256 rfl (by decide) ?_
        exact J236_100 T  A
       refine A.iload (q := 215) at_213 rfl rfl ?_
       refine A.iconst (q := 216) (v := (1 : Int32)) at_215 rfl (by decide) ?_
       refine A.icmpT (r := 233) at_216 (by decide) (by decide) ?_
       refine A.iconst (q := 234) (v := (0 : Int32)) at_233 rfl (by decide) ?_
       exact J213_99 T  A
      refine A.iload (q := 193) at_191 rfl rfl ?_
      refine A.ifF (q := 196) at_193 rfl (by decide) ?_
      refine A.iload (q := 198) at_196 rfl rfl ?_
      refine A.iload (q := 200) at_198 rfl rfl ?_
      refine A.callS (q := 203) (w1 := 6) (w2 := 7) (w3 := 3) (w4 := 8) (as := [(.int v6), (.int v12)]) (st := []) (W := 0) at_200 rfl rfl rfl rfl rfl (rmC l Z a0 hw n0 v6 v12 _) (by decide) ⟨_, _, pd_2, rfl⟩ rfl rfl rfl (by decide) (by decide) (by decide) (by decide) ?_
      rintro _ T _ ⟨rfl, rfl⟩ A
      show Go p e below _ (T.setTop (mkF m 203 #[.val (.long sl), .second, .val (.int pp), .val (.int qq), .val (.int rr), .val (.int sh), .val (.int (1 : Int32)), .val (.int (1 : Int32)), .val (.ref b4), .val (.ref b11), .val (.int v12), .val (.int v13), .val (.int v14), .val (.int v6), .val (.int v7), .val (.int v8), .unset, .unset, .unset, .unset, .unset, .unset, .unset, .unset] [(.int (FC v6 v12))]))
      obtain ⟨v96, e96⟩ : ∃ v : Int32, (FC v6 v12) = v := ⟨_, rfl⟩
      rw [e96]
      refine A.if_eq (q := 206) (r := 210) at_203 rfl (by decide) (fun h97 => ?_) (fun h97 => ?_)
      · refine A.iconst (q := 211) (v := (0 : Int32)) at_210 rfl (by decide) ?_
        exact J191_98 T _ (by simp only [e96, if_pos h97]) A
      · refine A.iconst (q := 207) (v := (1 : Int32)) at_206 rfl (by decide) ?_
        refine A.goto (r := 211) at_207 (by decide) ?_
        exact J191_98 T _ (by simp only [e96, if_neg h97]) A
    · have J191_113 : ∀ (T : State) (j113 : Int32), j113 = (if ((FC v6 v12)) = (0 : Int32) then (0 : Int32) else (1 : Int32)) → Here p l e room_1 s m ([(.long sl), (.int pp), (.int qq), (.int rr), (.int sh)] : List Value).toArray below meth c Z a0 tables_1 x.cls x.name code 24 (some .boolean) n0 T [(b11, .inr (.int, [(.int v12), (.int v13), (.int v14)])), (b4, .inr (.int, [(.int v5), (.int v6), (.int v7), (.int v8), (.int v9), (.int v10)]))] 2 9 → Go p e below (EndS below s n0 Z 16 128 (fun v _ => v = some (.int 1))) (T.setTop (mkF m 211 #[.val (.long sl), .second, .val (.int pp), .val (.int qq), .val (.int rr), .val (.int sh), .val (.int (2 : Int32)), .val (.int (1 : Int32)), .val (.ref b4), .val (.ref b11), .val (.int v12), .val (.int v13), .val (.int v14), .val (.int v6), .val (.int v7), .val (.int v8), .unset, .unset, .unset, .unset, .unset, .unset, .unset, .unset] [(.int j113)])) := by
       intro T j113 ej113 A
       have z_j113 : nar .boolean j113 = j113 := by rw [ej113]; (repeat' split) <;> first | decide | assumption
       refine A.istore (q := 213) (l' := #[.val (.long sl), .second, .val (.int pp), .val (.int qq), .val (.int rr), .val (.int sh), .val (.int (2 : Int32)), .val (.int (1 : Int32)), .val (.ref b4), .val (.ref b11), .val (.int v12), .val (.int v13), .val (.int v14), .val (.int v6), .val (.int v7), .val (.int v8), .val (.int j113), .unset, .unset, .unset, .unset, .unset, .unset, .unset]) at_211 rfl rfl ?_
       have J213_117 : ∀ (T : State) (j117 : Int32), j117 = (if ((FC v7 v13)) = (0 : Int32) then (0 : Int32) else (1 : Int32)) → Here p l e room_1 s m ([(.long sl), (.int pp), (.int qq), (.int rr), (.int sh)] : List Value).toArray below meth c Z a0 tables_1 x.cls x.name code 24 (some .boolean) n0 T [(b11, .inr (.int, [(.int v12), (.int v13), (.int v14)])), (b4, .inr (.int, [(.int v5), (.int v6), (.int v7), (.int v8), (.int v9), (.int v10)]))] 2 9 → Go p e below (EndS below s n0 Z 16 128 (fun v _ => v = some (.int 1))) (T.setTop (mkF m 234 #[.val (.long sl), .second, .val (.int pp), .val (.int qq), .val (.int rr), .val (.int sh), .val (.int (2 : Int32)), .val (.int (1 : Int32)), .val (.ref b4), .val (.ref b11), .val (.int v12), .val (.int v13), .val (.int v14), .val (.int v6), .val (.int v7), .val (.int v8), .val (.int j113), .unset, .unset, .unset, .unset, .unset, .unset, .unset] [(.int j117)])) := by
        intro T j117 ej117 A
        have z_j117 : nar .boolean j117 = j117 := by rw [ej117]; (repeat' split) <;> first | decide | assumption
        refine A.istore (q := 236) (l' := #[.val (.long sl), .second, .val (.int pp), .val (.int qq), .val (.int rr), .val (.int sh), .val (.int (2 : Int32)), .val (.int (1 : Int32)), .val (.ref b4), .val (.ref b11), .val (.int v12), .val (.int v13), .val (.int v14), .val (.int v6), .val (.int v7), .val (.int v8), .val (.int j113), .val (.int j117), .unset, .unset, .unset, .unset, .unset, .unset]) at_234 rfl rfl ?_
        have J236_118 : ∀ (T : State), Here p l e room_1 s m ([(.long sl), (.int pp), (.int qq), (.int rr), (.int sh)] : List Value).toArray below meth c Z a0 tables_1 x.cls x.name code 24 (some .boolean) n0 T [(b11, .inr (.int, [(.int v12), (.int v13), (.int v14)])), (b4, .inr (.int, [(.int v5), (.int v6), (.int v7), (.int v8), (.int v9), (.int v10)]))] 2 9 → Go p e below (EndS below s n0 Z 16 128 (fun v _ => v = some (.int 1))) (T.setTop (mkF m 257 #[.val (.long sl), .second, .val (.int pp), .val (.int qq), .val (.int rr), .val (.int sh), .val (.int (2 : Int32)), .val (.int (1 : Int32)), .val (.ref b4), .val (.ref b11), .val (.int v12), .val (.int v13), .val (.int v14), .val (.int v6), .val (.int v7), .val (.int v8), .val (.int j113), .val (.int j117), .unset, .unset, .unset, .unset, .unset, .unset] [(.int (0 : Int32))])) := by
         intro T  A
         refine A.istore (q := 259) (l' := #[.val (.long sl), .second, .val (.int pp), .val (.int qq), .val (.int rr), .val (.int sh), .val (.int (2 : Int32)), .val (.int (1 : Int32)), .val (.ref b4), .val (.ref b11), .val (.int v12), .val (.int v13), .val (.int v14), .val (.int v6), .val (.int v7), .val (.int v8), .val (.int j113), .val (.int j117), .val (.int (0 : Int32)), .unset, .unset, .unset, .unset, .unset]) at_257 rfl rfl ?_
         have J259_122 : ∀ (T : State) (j122 : Int32), j122 = (if j113 = (0 : Int32) then (if j117 = (0 : Int32) then (1 : Int32) else (0 : Int32)) else (0 : Int32)) → Here p l e room_1 s m ([(.long sl), (.int pp), (.int qq), (.int rr), (.int sh)] : List Value).toArray below meth c Z a0 tables_1 x.cls x.name code 24 (some .boolean) n0 T [(b11, .inr (.int, [(.int v12), (.int v13), (.int v14)])), (b4, .inr (.int, [(.int v5), (.int v6), (.int v7), (.int v8), (.int v9), (.int v10)]))] 2 9 → Go p e below (EndS below s n0 Z 16 128 (fun v _ => v = some (.int 1))) (T.setTop (mkF m 279 #[.val (.long sl), .second, .val (.int pp), .val (.int qq), .val (.int rr), .val (.int sh), .val (.int (2 : Int32)), .val (.int (1 : Int32)), .val (.ref b4), .val (.ref b11), .val (.int v12), .val (.int v13), .val (.int v14), .val (.int v6), .val (.int v7), .val (.int v8), .val (.int j113), .val (.int j117), .val (.int (0 : Int32)), .unset, .unset, .unset, .unset, .unset] [(.int j122)])) := by
          intro T j122 ej122 A
          have z_j122 : nar .boolean j122 = j122 := by rw [ej122]; (repeat' split) <;> first | decide | assumption
          refine A.istore (q := 281) (l' := #[.val (.long sl), .second, .val (.int pp), .val (.int qq), .val (.int rr), .val (.int sh), .val (.int (2 : Int32)), .val (.int (1 : Int32)), .val (.ref b4), .val (.ref b11), .val (.int v12), .val (.int v13), .val (.int v14), .val (.int v6), .val (.int v7), .val (.int v8), .val (.int j113), .val (.int j117), .val (.int (0 : Int32)), .val (.int j122), .unset, .unset, .unset, .unset]) at_279 rfl rfl ?_
          have J281_125 : ∀ (T : State) (j125 : Int32), j125 = ((FG v6 v12)) → Here p l e room_1 s m ([(.long sl), (.int pp), (.int qq), (.int rr), (.int sh)] : List Value).toArray below meth c Z a0 tables_1 x.cls x.name code 24 (some .boolean) n0 T [(b11, .inr (.int, [(.int v12), (.int v13), (.int v14)])), (b4, .inr (.int, [(.int v5), (.int v6), (.int v7), (.int v8), (.int v9), (.int v10)]))] 2 9 → Go p e below (EndS below s n0 Z 16 128 (fun v _ => v = some (.int 1))) (T.setTop (mkF m 298 #[.val (.long sl), .second, .val (.int pp), .val (.int qq), .val (.int rr), .val (.int sh), .val (.int (2 : Int32)), .val (.int (1 : Int32)), .val (.ref b4), .val (.ref b11), .val (.int v12), .val (.int v13), .val (.int v14), .val (.int v6), .val (.int v7), .val (.int v8), .val (.int j113), .val (.int j117), .val (.int (0 : Int32)), .val (.int j122), .unset, .unset, .unset, .unset] [(.int j125)])) := by
           intro T j125 ej125 A
           refine A.istore (q := 300) (l' := #[.val (.long sl), .second, .val (.int pp), .val (.int qq), .val (.int rr), .val (.int sh), .val (.int (2 : Int32)), .val (.int (1 : Int32)), .val (.ref b4), .val (.ref b11), .val (.int v12), .val (.int v13), .val (.int v14), .val (.int v6), .val (.int v7), .val (.int v8), .val (.int j113), .val (.int j117), .val (.int (0 : Int32)), .val (.int j122), .val (.int j125), .unset, .unset, .unset]) at_298 rfl rfl ?_
           have J300_129 : ∀ (T : State) (j129 : Int32), j129 = (if j113 = (0 : Int32) then ((FG v7 v13)) else v13) → Here p l e room_1 s m ([(.long sl), (.int pp), (.int qq), (.int rr), (.int sh)] : List Value).toArray below meth c Z a0 tables_1 x.cls x.name code 24 (some .boolean) n0 T [(b11, .inr (.int, [(.int v12), (.int v13), (.int v14)])), (b4, .inr (.int, [(.int v5), (.int v6), (.int v7), (.int v8), (.int v9), (.int v10)]))] 2 9 → Go p e below (EndS below s n0 Z 16 128 (fun v _ => v = some (.int 1))) (T.setTop (mkF m 323 #[.val (.long sl), .second, .val (.int pp), .val (.int qq), .val (.int rr), .val (.int sh), .val (.int (2 : Int32)), .val (.int (1 : Int32)), .val (.ref b4), .val (.ref b11), .val (.int v12), .val (.int v13), .val (.int v14), .val (.int v6), .val (.int v7), .val (.int v8), .val (.int j113), .val (.int j117), .val (.int (0 : Int32)), .val (.int j122), .val (.int j125), .unset, .unset, .unset] [(.int j129)])) := by
            intro T j129 ej129 A
            refine A.istore (q := 325) (l' := #[.val (.long sl), .second, .val (.int pp), .val (.int qq), .val (.int rr), .val (.int sh), .val (.int (2 : Int32)), .val (.int (1 : Int32)), .val (.ref b4), .val (.ref b11), .val (.int v12), .val (.int v13), .val (.int v14), .val (.int v6), .val (.int v7), .val (.int v8), .val (.int j113), .val (.int j117), .val (.int (0 : Int32)), .val (.int j122), .val (.int j125), .val (.int j129), .unset, .unset]) at_323 rfl rfl ?_
            have J325_130 : ∀ (T : State), Here p l e room_1 s m ([(.long sl), (.int pp), (.int qq), (.int rr), (.int sh)] : List Value).toArray below meth c Z a0 tables_1 x.cls x.name code 24 (some .boolean) n0 T [(b11, .inr (.int, [(.int v12), (.int v13), (.int v14)])), (b4, .inr (.int, [(.int v5), (.int v6), (.int v7), (.int v8), (.int v9), (.int v10)]))] 2 9 → Go p e below (EndS below s n0 Z 16 128 (fun v _ => v = some (.int 1))) (T.setTop (mkF m 353 #[.val (.long sl), .second, .val (.int pp), .val (.int qq), .val (.int rr), .val (.int sh), .val (.int (2 : Int32)), .val (.int (1 : Int32)), .val (.ref b4), .val (.ref b11), .val (.int v12), .val (.int v13), .val (.int v14), .val (.int v6), .val (.int v7), .val (.int v8), .val (.int j113), .val (.int j117), .val (.int (0 : Int32)), .val (.int j122), .val (.int j125), .val (.int j129), .unset, .unset] [(.int v14)])) := by
             intro T  A
             refine A.istore (q := 355) (l' := #[.val (.long sl), .second, .val (.int pp), .val (.int qq), .val (.int rr), .val (.int sh), .val (.int (2 : Int32)), .val (.int (1 : Int32)), .val (.ref b4), .val (.ref b11), .val (.int v12), .val (.int v13), .val (.int v14), .val (.int v6), .val (.int v7), .val (.int v8), .val (.int j113), .val (.int j117), .val (.int (0 : Int32)), .val (.int j122), .val (.int j125), .val (.int j129), .val (.int v14), .unset]) at_353 rfl rfl ?_
             refine A.aload (q := 357) at_355 rfl rfl rfl ?_
             refine A.iload (q := 359) at_357 rfl rfl ?_
             refine A.iload (q := 361) at_359 rfl rfl ?_
             refine A.aload (q := 363) at_361 rfl rfl rfl ?_
             have A := A.front (i := 1) (L' := [(b4, .inr (.int, [(.int v5), (.int v6), (.int v7), (.int v8), (.int v9), (.int v10)])), (b11, .inr (.int, [(.int v12), (.int v13), (.int v14)]))]) rfl rfl
             refine A.callS (q := 366) (w1 := 12) (w2 := 13) (w3 := 14) (w4 := 15) (as := [(.ref b4), (.int (1 : Int32)), (.int (2 : Int32)), (.ref b11)]) (st := []) (W := 0) at_363 rfl rfl rfl rfl rfl (rmI_7 l Z a0 hw n0 b4 b11 v5 v6 v7 v8 v9 v10 v12 v13 v14 _) (by decide) ⟨_, _, pd_1, rfl⟩ rfl rfl rfl (by decide) (by decide) (by decide) (by decide) ?_
             rintro _ T _ ⟨rfl, rfl⟩ A
             show Go p e below _ (T.setTop (mkF m 366 #[.val (.long sl), .second, .val (.int pp), .val (.int qq), .val (.int rr), .val (.int sh), .val (.int (2 : Int32)), .val (.int (1 : Int32)), .val (.ref b4), .val (.ref b11), .val (.int v12), .val (.int v13), .val (.int v14), .val (.int v6), .val (.int v7), .val (.int v8), .val (.int j113), .val (.int j117), .val (.int (0 : Int32)), .val (.int j122), .val (.int j125), .val (.int j129), .val (.int v14), .unset] [(.int (FI_7 v6 v7 v12 v13))]))
             obtain ⟨v132, e132⟩ : ∃ v : Int32, (FI_7 v6 v7 v12 v13) = v := ⟨_, rfl⟩
             rw [e132]
             refine A.istore (q := 368) (l' := #[.val (.long sl), .second, .val (.int pp), .val (.int qq), .val (.int rr), .val (.int sh), .val (.int (2 : Int32)), .val (.int (1 : Int32)), .val (.ref b4), .val (.ref b11), .val (.int v12), .val (.int v13), .val (.int v14), .val (.int v6), .val (.int v7), .val (.int v8), .val (.int j113), .val (.int j117), .val (.int (0 : Int32)), .val (.int j122), .val (.int j125), .val (.int j129), .val (.int v14), .val (.int v132)]) at_366 rfl rfl ?_
             refine A.iload (q := 370) at_368 rfl rfl ?_
             refine A.iload (q := 372) at_370 rfl rfl ?_
             refine A.icmpF (q := 375) at_372 rfl (teq (by subst e2 e5 e6 e7 e8 e9 e10 e12 e13 e14 ej113 ej117 ej122 ej125 ej129 e132; exact own_w2_0 _ _ 0 _ _ 0 : v132 = j122)).2 ?_
             refine A.aload (q := 377) at_375 rfl rfl rfl ?_
             refine A.iconst (q := 378) (v := (0 : Int32)) at_377 rfl (by decide) ?_
             refine A.iaload (q := 379) (i := 1) (v := (.int (if (v6 = (-1 : Int32)) ∨ (¬ (v6 = (-1 : Int32)) ∧ ¬ (v12 = (-1 : Int32)) ∧ v12 = v6) ∨ (¬ (v6 = (-1 : Int32)) ∧ v12 = (-1 : Int32)) then ((if v6 = (-1 : Int32) then v12 else (if v12 = (-1 : Int32) then v6 else v12))) else v12))) at_378 rfl rfl (by decide) rfl ?_
             refine A.iload (q := 381) at_379 rfl rfl ?_
             refine A.icmpF (q := 384) at_381 rfl (teq (by subst e2 e5 e6 e7 e8 e9 e10 e12 e13 e14 ej113 ej117 ej122 ej125 ej129 e132; exact own_w2_1 _ 0 0 _ 0 0 : (if (v6 = (-1 : Int32)) ∨ (¬ (v6 = (-1 : Int32)) ∧ ¬ (v12 = (-1 : Int32)) ∧ v12 = v6) ∨ (¬ (v6 = (-1 : Int32)) ∧ v12 = (-1 : Int32)) then ((if v6 = (-1 : Int32) then v12 else (if v12 = (-1 : Int32) then v6 else v12))) else v12) = j125)).2 ?_
             refine A.aload (q := 386) at_384 rfl rfl rfl ?_
             refine A.iconst (q := 387) (v := (1 : Int32)) at_386 rfl (by decide) ?_
             refine A.iaload (q := 388) (i := 1) (v := (.int (if (v6 = (-1 : Int32)) ∨ (¬ (v6 = (-1 : Int32)) ∧ ¬ (v12 = (-1 : Int32)) ∧ v12 = v6) ∨ (¬ (v6 = (-1 : Int32)) ∧ v12 = (-1 : Int32)) then (if (v7 = (-1 : Int32)) ∨ (¬ (v7 = (-1 : Int32)) ∧ ¬ (v13 = (-1 : Int32)) ∧ v13 = v7) ∨ (¬ (v7 = (-1 : Int32)) ∧ v13 = (-1 : Int32)) then ((if v7 = (-1 : Int32) then v13 else (if v13 = (-1 : Int32) then v7 else v13))) else v13) else v13))) at_387 rfl rfl (by decide) rfl ?_
             refine A.iload (q := 390) at_388 rfl rfl ?_
             refine A.icmpF (q := 393) at_390 rfl (teq (by subst e2 e5 e6 e7 e8 e9 e10 e12 e13 e14 ej113 ej117 ej122 ej125 ej129 e132; exact own_w2_2 _ _ 0 _ _ 0 : (if (v6 = (-1 : Int32)) ∨ (¬ (v6 = (-1 : Int32)) ∧ ¬ (v12 = (-1 : Int32)) ∧ v12 = v6) ∨ (¬ (v6 = (-1 : Int32)) ∧ v12 = (-1 : Int32)) then (if (v7 = (-1 : Int32)) ∨ (¬ (v7 = (-1 : Int32)) ∧ ¬ (v13 = (-1 : Int32)) ∧ v13 = v7) ∨ (¬ (v7 = (-1 : Int32)) ∧ v13 = (-1 : Int32)) then ((if v7 = (-1 : Int32) then v13 else (if v13 = (-1 : Int32) then v7 else v13))) else v13) else v13) = j129)).2 ?_
             refine A.aload (q := 395) at_393 rfl rfl rfl ?_
             refine A.iconst (q := 396) (v := (2 : Int32)) at_395 rfl (by decide) ?_
             refine A.iaload (q := 397) (i := 1) (v := (.int v14)) at_396 rfl rfl (by decide) rfl ?_
             refine A.iload (q := 399) at_397 rfl rfl ?_
             refine A.icmpF (q := 402) at_399 rfl (teq rfl).2 ?_
             refine A.iconst (q := 403) (v := (1 : Int32)) at_402 rfl (by decide) ?_
             refine A.goto (r := 407) at_403 (by decide) ?_
             exact A.retZ (v := 1) at_407 (by decide) (by decide) (by decide) rfl
            refine A.iload (q := 327) at_325 rfl rfl ?_
            refine A.iconst (q := 328) (v := (2 : Int32)) at_327 rfl (by decide) ?_
            refine A.icmpT (r := 351) at_328 (by decide) (by decide) ?_
            refine A.iload (q := 353) at_351 rfl rfl ?_
            exact J325_130 T  A
           refine A.iload (q := 302) at_300 rfl rfl ?_
           refine A.iconst (q := 303) (v := (1 : Int32)) at_302 rfl (by decide) ?_
           refine A.icmpF (q := 306) at_303 rfl (by decide) ?_
           refine A.iload (q := 308) at_306 rfl rfl ?_
           refine A.if_ne (q := 311) (r := 321) at_308 rfl (by decide) (fun h127 => ?_) (fun h127 => ?_)
           · refine A.iload (q := 323) at_321 rfl rfl ?_
             exact J300_129 T _ (by simp only [if_neg h127]) A
           · refine A.iload (q := 313) at_311 rfl rfl ?_
             refine A.iload (q := 315) at_313 rfl rfl ?_
             refine A.callS (q := 318) (w1 := 9) (w2 := 10) (w3 := 3) (w4 := 11) (as := [(.int v7), (.int v13)]) (st := []) (W := 0) at_315 rfl rfl rfl rfl rfl (rmG l Z a0 hw n0 v7 v13 _) (by decide) ⟨_, _, pd_3, rfl⟩ rfl rfl rfl (by decide) (by decide) (by decide) (by decide) ?_
             rintro _ T _ ⟨rfl, rfl⟩ A
             show Go p e below _ (T.setTop (mkF m 318 #[.val (.long sl), .second, .val (.int pp), .val (.int qq), .val (.int rr), .val (.int sh), .val (.int (2 : Int32)), .val (.int (1 : Int32)), .val (.ref b4), .val (.ref b11), .val (.int v12), .val (.int v13), .val (.int v14), .val (.int v6), .val (.int v7), .val (.int v8), .val (.int j113), .val (.int j117), .val (.int (0 : Int32)), .val (.int j122), .val (.int j125), .unset, .unset, .unset] [(.int (FG v7 v13))]))
             obtain ⟨v128, e128⟩ : ∃ v : Int32, (FG v7 v13) = v := ⟨_, rfl⟩
             rw [e128]
             refine A.goto (r := 323) at_318 (by decide) ?_
             exact J300_129 T _ (by simp only [e128, if_pos h127]) A
          refine A.iload (q := 283) at_281 rfl rfl ?_
          refine A.ifF (q := 286) at_283 rfl (by decide) ?_
          refine A.iload (q := 288) at_286 rfl rfl ?_
          refine A.iload (q := 290) at_288 rfl rfl ?_
          refine A.callS (q := 293) (w1 := 9) (w2 := 10) (w3 := 3) (w4 := 11) (as := [(.int v6), (.int v12)]) (st := []) (W := 0) at_290 rfl rfl rfl rfl rfl (rmG l Z a0 hw n0 v6 v12 _) (by decide) ⟨_, _, pd_3, rfl⟩ rfl rfl rfl (by decide) (by decide) (by decide) (by decide) ?_
          rintro _ T _ ⟨rfl, rfl⟩ A
          show Go p e below _ (T.setTop (mkF m 293 #[.val (.long sl), .second, .val (.int pp), .val (.int qq), .val (.int rr), .val (.int sh), .val (.int (2 : Int32)), .val (.int (1 : Int32)), .val (.ref b4), .val (.ref b11), .val (.int v12), .val (.int v13), .val (.int v14), .val (.int v6), .val (.int v7), .val (.int v8), .val (.int j113), .val (.int j117), .val (.int (0 : Int32)), .val (.int j122), .unset, .unset, .unset, .unset] [(.int (FG v6 v12))]))
          obtain ⟨v124, e124⟩ : ∃ v : Int32, (FG v6 v12) = v := ⟨_, rfl⟩
          rw [e124]
          refine A.goto (r := 298) at_293 (by decide) ?_
          exact J281_125 T _ (by simp only [e124]) A
         refine A.iload (q := 261) at_259 rfl rfl ?_
         refine A.if_ne (q := 264) (r := 278) at_261 rfl (by decide) (fun h120 => ?_) (fun h120 => ?_)
         · refine A.iconst (q := 279) (v := (0 : Int32)) at_278 rfl (by decide) ?_
           exact J259_122 T _ (by simp only [if_neg h120]) A
         · refine A.iload (q := 266) at_264 rfl rfl ?_
           refine A.if_ne (q := 269) (r := 278) at_266 rfl (by decide) (fun h121 => ?_) (fun h121 => ?_)
           · refine A.iconst (q := 279) (v := (0 : Int32)) at_278 rfl (by decide) ?_
             exact J259_122 T _ (by simp only [if_neg h121, if_pos h120]) A
           · refine A.iload (q := 271) at_269 rfl rfl ?_
             refine A.ifF (q := 274) at_271 rfl (by decide) ?_
             refine A.iconst (q := 275) (v := (1 : Int32)) at_274 rfl (by decide) ?_
             refine A.goto (r := 279) at_275 (by decide) ?_
             exact J259_122 T _ (by simp only [if_pos h120, if_pos h121]) A
        refine A.iload (q := 238) at_236 rfl rfl ?_
        refine A.iconst (q := 239) (v := (2 : Int32)) at_238 rfl (by decide) ?_
        refine A.icmpT (r := 256) at_239 (by decide) (by decide) ?_
        refine A.iconst (q := 257) (v := (0 : Int32)) at_256 rfl (by decide) ?_
        exact J236_118 T  A
       refine A.iload (q := 215) at_213 rfl rfl ?_
       refine A.iconst (q := 216) (v := (1 : Int32)) at_215 rfl (by decide) ?_
       refine A.icmpF (q := 219) at_216 rfl (by decide) ?_
       refine A.iload (q := 221) at_219 rfl rfl ?_
       refine A.iload (q := 223) at_221 rfl rfl ?_
       refine A.callS (q := 226) (w1 := 6) (w2 := 7) (w3 := 3) (w4 := 8) (as := [(.int v7), (.int v13)]) (st := []) (W := 0) at_223 rfl rfl rfl rfl rfl (rmC l Z a0 hw n0 v7 v13 _) (by decide) ⟨_, _, pd_2, rfl⟩ rfl rfl rfl (by decide) (by decide) (by decide) (by decide) ?_
       rintro _ T _ ⟨rfl, rfl⟩ A
       show Go p e below _ (T.setTop (mkF m 226 #[.val (.long sl), .second, .val (.int pp), .val (.int qq), .val (.int rr), .val (.int sh), .val (.int (2 : Int32)), .val (.int (1 : Int32)), .val (.ref b4), .val (.ref b11), .val (.int v12), .val (.int v13), .val (.int v14), .val (.int v6), .val (.int v7), .val (.int v8), .val (.int j113), .unset, .unset, .unset, .unset, .unset, .unset, .unset] [(.int (FC v7 v13))]))
       obtain ⟨v115, e115⟩ : ∃ v : Int32, (FC v7 v13) = v := ⟨_, rfl⟩
       rw [e115]
       refine A.if_eq (q := 229) (r := 233) at_226 rfl (by decide) (fun h116 => ?_) (fun h116 => ?_)
       · refine A.iconst (q := 234) (v := (0 : Int32)) at_233 rfl (by decide) ?_
         exact J213_117 T _ (by simp only [e115, if_pos h116]) A
       · refine A.iconst (q := 230) (v := (1 : Int32)) at_229 rfl (by decide) ?_
         refine A.goto (r := 234) at_230 (by decide) ?_
         exact J213_117 T _ (by simp only [e115, if_neg h116]) A
      refine A.iload (q := 193) at_191 rfl rfl ?_
      refine A.ifF (q := 196) at_193 rfl (by decide) ?_
      refine A.iload (q := 198) at_196 rfl rfl ?_
      refine A.iload (q := 200) at_198 rfl rfl ?_
      refine A.callS (q := 203) (w1 := 6) (w2 := 7) (w3 := 3) (w4 := 8) (as := [(.int v6), (.int v12)]) (st := []) (W := 0) at_200 rfl rfl rfl rfl rfl (rmC l Z a0 hw n0 v6 v12 _) (by decide) ⟨_, _, pd_2, rfl⟩ rfl rfl rfl (by decide) (by decide) (by decide) (by decide) ?_
      rintro _ T _ ⟨rfl, rfl⟩ A
      show Go p e below _ (T.setTop (mkF m 203 #[.val (.long sl), .second, .val (.int pp), .val (.int qq), .val (.int rr), .val (.int sh), .val (.int (2 : Int32)), .val (.int (1 : Int32)), .val (.ref b4), .val (.ref b11), .val (.int v12), .val (.int v13), .val (.int v14), .val (.int v6), .val (.int v7), .val (.int v8), .unset, .unset, .unset, .unset, .unset, .unset, .unset, .unset] [(.int (FC v6 v12))]))
      obtain ⟨v111, e111⟩ : ∃ v : Int32, (FC v6 v12) = v := ⟨_, rfl⟩
      rw [e111]
      refine A.if_eq (q := 206) (r := 210) at_203 rfl (by decide) (fun h112 => ?_) (fun h112 => ?_)
      · refine A.iconst (q := 211) (v := (0 : Int32)) at_210 rfl (by decide) ?_
        exact J191_113 T _ (by simp only [e111, if_pos h112]) A
      · refine A.iconst (q := 207) (v := (1 : Int32)) at_206 rfl (by decide) ?_
        refine A.goto (r := 211) at_207 (by decide) ?_
        exact J191_113 T _ (by simp only [e111, if_neg h112]) A
    · have J191_135 : ∀ (T : State) (j135 : Int32), j135 = (if ((FC v6 v12)) = (0 : Int32) then (0 : Int32) else (1 : Int32)) → Here p l e room_1 s m ([(.long sl), (.int pp), (.int qq), (.int rr), (.int sh)] : List Value).toArray below meth c Z a0 tables_1 x.cls x.name code 24 (some .boolean) n0 T [(b11, .inr (.int, [(.int v12), (.int v13), (.int v14)])), (b4, .inr (.int, [(.int v5), (.int v6), (.int v7), (.int v8), (.int v9), (.int v10)]))] 2 9 → Go p e below (EndS below s n0 Z 16 128 (fun v _ => v = some (.int 1))) (T.setTop (mkF m 211 #[.val (.long sl), .second, .val (.int pp), .val (.int qq), .val (.int rr), .val (.int sh), .val (.int (3 : Int32)), .val (.int (1 : Int32)), .val (.ref b4), .val (.ref b11), .val (.int v12), .val (.int v13), .val (.int v14), .val (.int v6), .val (.int v7), .val (.int v8), .unset, .unset, .unset, .unset, .unset, .unset, .unset, .unset] [(.int j135)])) := by
       intro T j135 ej135 A
       have z_j135 : nar .boolean j135 = j135 := by rw [ej135]; (repeat' split) <;> first | decide | assumption
       refine A.istore (q := 213) (l' := #[.val (.long sl), .second, .val (.int pp), .val (.int qq), .val (.int rr), .val (.int sh), .val (.int (3 : Int32)), .val (.int (1 : Int32)), .val (.ref b4), .val (.ref b11), .val (.int v12), .val (.int v13), .val (.int v14), .val (.int v6), .val (.int v7), .val (.int v8), .val (.int j135), .unset, .unset, .unset, .unset, .unset, .unset, .unset]) at_211 rfl rfl ?_
       have J213_139 : ∀ (T : State) (j139 : Int32), j139 = (if ((FC v7 v13)) = (0 : Int32) then (0 : Int32) else (1 : Int32)) → Here p l e room_1 s m ([(.long sl), (.int pp), (.int qq), (.int rr), (.int sh)] : List Value).toArray below meth c Z a0 tables_1 x.cls x.name code 24 (some .boolean) n0 T [(b11, .inr (.int, [(.int v12), (.int v13), (.int v14)])), (b4, .inr (.int, [(.int v5), (.int v6), (.int v7), (.int v8), (.int v9), (.int v10)]))] 2 9 → Go p e below (EndS below s n0 Z 16 128 (fun v _ => v = some (.int 1))) (T.setTop (mkF m 234 #[.val (.long sl), .second, .val (.int pp), .val (.int qq), .val (.int rr), .val (.int sh), .val (.int (3 : Int32)), .val (.int (1 : Int32)), .val (.ref b4), .val (.ref b11), .val (.int v12), .val (.int v13), .val (.int v14), .val (.int v6), .val (.int v7), .val (.int v8), .val (.int j135), .unset, .unset, .unset, .unset, .unset, .unset, .unset] [(.int j139)])) := by
        intro T j139 ej139 A
        have z_j139 : nar .boolean j139 = j139 := by rw [ej139]; (repeat' split) <;> first | decide | assumption
        refine A.istore (q := 236) (l' := #[.val (.long sl), .second, .val (.int pp), .val (.int qq), .val (.int rr), .val (.int sh), .val (.int (3 : Int32)), .val (.int (1 : Int32)), .val (.ref b4), .val (.ref b11), .val (.int v12), .val (.int v13), .val (.int v14), .val (.int v6), .val (.int v7), .val (.int v8), .val (.int j135), .val (.int j139), .unset, .unset, .unset, .unset, .unset, .unset]) at_234 rfl rfl ?_
        have J236_143 : ∀ (T : State) (j143 : Int32), j143 = (if ((FC v8 v14)) = (0 : Int32) then (0 : Int32) else (1 : Int32)) → Here p l e room_1 s m ([(.long sl), (.int pp), (.int qq), (.int rr), (.int sh)] : List Value).toArray below meth c Z a0 tables_1 x.cls x.name code 24 (some .boolean) n0 T [(b11, .inr (.int, [(.int v12), (.int v13), (.int v14)])), (b4, .inr (.int, [(.int v5), (.int v6), (.int v7), (.int v8), (.int v9), (.int v10)]))] 2 9 → Go p e below (EndS below s n0 Z 16 128 (fun v _ => v = some (.int 1))) (T.setTop (mkF m 257 #[.val (.long sl), .second, .val (.int pp), .val (.int qq), .val (.int rr), .val (.int sh), .val (.int (3 : Int32)), .val (.int (1 : Int32)), .val (.ref b4), .val (.ref b11), .val (.int v12), .val (.int v13), .val (.int v14), .val (.int v6), .val (.int v7), .val (.int v8), .val (.int j135), .val (.int j139), .unset, .unset, .unset, .unset, .unset, .unset] [(.int j143)])) := by
         intro T j143 ej143 A
         have z_j143 : nar .boolean j143 = j143 := by rw [ej143]; (repeat' split) <;> first | decide | assumption
         refine A.istore (q := 259) (l' := #[.val (.long sl), .second, .val (.int pp), .val (.int qq), .val (.int rr), .val (.int sh), .val (.int (3 : Int32)), .val (.int (1 : Int32)), .val (.ref b4), .val (.ref b11), .val (.int v12), .val (.int v13), .val (.int v14), .val (.int v6), .val (.int v7), .val (.int v8), .val (.int j135), .val (.int j139), .val (.int j143), .unset, .unset, .unset, .unset, .unset]) at_257 rfl rfl ?_
         have J259_148 : ∀ (T : State) (j148 : Int32), j148 = (if j135 = (0 : Int32) then (if j139 = (0 : Int32) then (if j143 = (0 : Int32) then (1 : Int32) else (0 : Int32)) else (0 : Int32)) else (0 : Int32)) → Here p l e room_1 s m ([(.long sl), (.int pp), (.int qq), (.int rr), (.int sh)] : List Value).toArray below meth c Z a0 tables_1 x.cls x.name code 24 (some .boolean) n0 T [(b11, .inr (.int, [(.int v12), (.int v13), (.int v14)])), (b4, .inr (.int, [(.int v5), (.int v6), (.int v7), (.int v8), (.int v9), (.int v10)]))] 2 9 → Go p e below (EndS below s n0 Z 16 128 (fun v _ => v = some (.int 1))) (T.setTop (mkF m 279 #[.val (.long sl), .second, .val (.int pp), .val (.int qq), .val (.int rr), .val (.int sh), .val (.int (3 : Int32)), .val (.int (1 : Int32)), .val (.ref b4), .val (.ref b11), .val (.int v12), .val (.int v13), .val (.int v14), .val (.int v6), .val (.int v7), .val (.int v8), .val (.int j135), .val (.int j139), .val (.int j143), .unset, .unset, .unset, .unset, .unset] [(.int j148)])) := by
          intro T j148 ej148 A
          have z_j148 : nar .boolean j148 = j148 := by rw [ej148]; (repeat' split) <;> first | decide | assumption
          refine A.istore (q := 281) (l' := #[.val (.long sl), .second, .val (.int pp), .val (.int qq), .val (.int rr), .val (.int sh), .val (.int (3 : Int32)), .val (.int (1 : Int32)), .val (.ref b4), .val (.ref b11), .val (.int v12), .val (.int v13), .val (.int v14), .val (.int v6), .val (.int v7), .val (.int v8), .val (.int j135), .val (.int j139), .val (.int j143), .val (.int j148), .unset, .unset, .unset, .unset]) at_279 rfl rfl ?_
          have J281_151 : ∀ (T : State) (j151 : Int32), j151 = ((FG v6 v12)) → Here p l e room_1 s m ([(.long sl), (.int pp), (.int qq), (.int rr), (.int sh)] : List Value).toArray below meth c Z a0 tables_1 x.cls x.name code 24 (some .boolean) n0 T [(b11, .inr (.int, [(.int v12), (.int v13), (.int v14)])), (b4, .inr (.int, [(.int v5), (.int v6), (.int v7), (.int v8), (.int v9), (.int v10)]))] 2 9 → Go p e below (EndS below s n0 Z 16 128 (fun v _ => v = some (.int 1))) (T.setTop (mkF m 298 #[.val (.long sl), .second, .val (.int pp), .val (.int qq), .val (.int rr), .val (.int sh), .val (.int (3 : Int32)), .val (.int (1 : Int32)), .val (.ref b4), .val (.ref b11), .val (.int v12), .val (.int v13), .val (.int v14), .val (.int v6), .val (.int v7), .val (.int v8), .val (.int j135), .val (.int j139), .val (.int j143), .val (.int j148), .unset, .unset, .unset, .unset] [(.int j151)])) := by
           intro T j151 ej151 A
           refine A.istore (q := 300) (l' := #[.val (.long sl), .second, .val (.int pp), .val (.int qq), .val (.int rr), .val (.int sh), .val (.int (3 : Int32)), .val (.int (1 : Int32)), .val (.ref b4), .val (.ref b11), .val (.int v12), .val (.int v13), .val (.int v14), .val (.int v6), .val (.int v7), .val (.int v8), .val (.int j135), .val (.int j139), .val (.int j143), .val (.int j148), .val (.int j151), .unset, .unset, .unset]) at_298 rfl rfl ?_
           have J300_155 : ∀ (T : State) (j155 : Int32), j155 = (if j135 = (0 : Int32) then ((FG v7 v13)) else v13) → Here p l e room_1 s m ([(.long sl), (.int pp), (.int qq), (.int rr), (.int sh)] : List Value).toArray below meth c Z a0 tables_1 x.cls x.name code 24 (some .boolean) n0 T [(b11, .inr (.int, [(.int v12), (.int v13), (.int v14)])), (b4, .inr (.int, [(.int v5), (.int v6), (.int v7), (.int v8), (.int v9), (.int v10)]))] 2 9 → Go p e below (EndS below s n0 Z 16 128 (fun v _ => v = some (.int 1))) (T.setTop (mkF m 323 #[.val (.long sl), .second, .val (.int pp), .val (.int qq), .val (.int rr), .val (.int sh), .val (.int (3 : Int32)), .val (.int (1 : Int32)), .val (.ref b4), .val (.ref b11), .val (.int v12), .val (.int v13), .val (.int v14), .val (.int v6), .val (.int v7), .val (.int v8), .val (.int j135), .val (.int j139), .val (.int j143), .val (.int j148), .val (.int j151), .unset, .unset, .unset] [(.int j155)])) := by
            intro T j155 ej155 A
            refine A.istore (q := 325) (l' := #[.val (.long sl), .second, .val (.int pp), .val (.int qq), .val (.int rr), .val (.int sh), .val (.int (3 : Int32)), .val (.int (1 : Int32)), .val (.ref b4), .val (.ref b11), .val (.int v12), .val (.int v13), .val (.int v14), .val (.int v6), .val (.int v7), .val (.int v8), .val (.int j135), .val (.int j139), .val (.int j143), .val (.int j148), .val (.int j151), .val (.int j155), .unset, .unset]) at_323 rfl rfl ?_
            have J325_160 : ∀ (T : State) (j160 : Int32), j160 = (if j135 = (0 : Int32) then (if j139 = (0 : Int32) then ((FG v8 v14)) else v14) else v14) → Here p l e room_1 s m ([(.long sl), (.int pp), (.int qq), (.int rr), (.int sh)] : List Value).toArray below meth c Z a0 tables_1 x.cls x.name code 24 (some .boolean) n0 T [(b11, .inr (.int, [(.int v12), (.int v13), (.int v14)])), (b4, .inr (.int, [(.int v5), (.int v6), (.int v7), (.int v8), (.int v9), (.int v10)]))] 2 9 → Go p e below (EndS below s n0 Z 16 128 (fun v _ => v = some (.int 1))) (T.setTop (mkF m 353 #[.val (.long sl), .second, .val (.int pp), .val (.int qq), .val (.int rr), .val (.int sh), .val (.int (3 : Int32)), .val (.int (1 : Int32)), .val (.ref b4), .val (.ref b11), .val (.int v12), .val (.int v13), .val (.int v14), .val (.int v6), .val (.int v7), .val (.int v8), .val (.int j135), .val (.int j139), .val (.int j143), .val (.int j148), .val (.int j151), .val (.int j155), .unset, .unset] [(.int j160)])) := by
             intro T j160 ej160 A
             refine A.istore (q := 355) (l' := #[.val (.long sl), .second, .val (.int pp), .val (.int qq), .val (.int rr), .val (.int sh), .val (.int (3 : Int32)), .val (.int (1 : Int32)), .val (.ref b4), .val (.ref b11), .val (.int v12), .val (.int v13), .val (.int v14), .val (.int v6), .val (.int v7), .val (.int v8), .val (.int j135), .val (.int j139), .val (.int j143), .val (.int j148), .val (.int j151), .val (.int j155), .val (.int j160), .unset]) at_353 rfl rfl ?_
             refine A.aload (q := 357) at_355 rfl rfl rfl ?_
             refine A.iload (q := 359) at_357 rfl rfl ?_
             refine A.iload (q := 361) at_359 rfl rfl ?_
             refine A.aload (q := 363) at_361 rfl rfl rfl ?_
             have A := A.front (i := 1) (L' := [(b4, .inr (.int, [(.int v5), (.int v6), (.int v7), (.int v8), (.int v9), (.int v10)])), (b11, .inr (.int, [(.int v12), (.int v13), (.int v14)]))]) rfl rfl
             refine A.callS (q := 366) (w1 := 12) (w2 := 13) (w3 := 14) (w4 := 15) (as := [(.ref b4), (.int (1 : Int32)), (.int (3 : Int32)), (.ref b11)]) (st := []) (W := 0) at_363 rfl rfl rfl rfl rfl (rmI_8 l Z a0 hw n0 b4 b11 v5 v6 v7 v8 v9 v10 v12 v13 v14 _) (by decide) ⟨_, _, pd_1, rfl⟩ rfl rfl rfl (by decide) (by decide) (by decide) (by decide) ?_
             rintro _ T _ ⟨rfl, rfl⟩ A
             show Go p e below _ (T.setTop (mkF m 366 #[.val (.long sl), .second, .val (.int pp), .val (.int qq), .val (.int rr), .val (.int sh), .val (.int (3 : Int32)), .val (.int (1 : Int32)), .val (.ref b4), .val (.ref b11), .val (.int v12), .val (.int v13), .val (.int v14), .val (.int v6), .val (.int v7), .val (.int v8), .val (.int j135), .val (.int j139), .val (.int j143), .val (.int j148), .val (.int j151), .val (.int j155), .val (.int j160), .unset] [(.int (FI_8 v6 v7 v8 v12 v13 v14))]))
             obtain ⟨v162, e162⟩ : ∃ v : Int32, (FI_8 v6 v7 v8 v12 v13 v14) = v := ⟨_, rfl⟩
             rw [e162]
             refine A.istore (q := 368) (l' := #[.val (.long sl), .second, .val (.int pp), .val (.int qq), .val (.int rr), .val (.int sh), .val (.int (3 : Int32)), .val (.int (1 : Int32)), .val (.ref b4), .val (.ref b11), .val (.int v12), .val (.int v13), .val (.int v14), .val (.int v6), .val (.int v7), .val (.int v8), .val (.int j135), .val (.int j139), .val (.int j143), .val (.int j148), .val (.int j151), .val (.int j155), .val (.int j160), .val (.int v162)]) at_366 rfl rfl ?_
             refine A.iload (q := 370) at_368 rfl rfl ?_
             refine A.iload (q := 372) at_370 rfl rfl ?_
             refine A.icmpF (q := 375) at_372 rfl (teq (by subst e2 e5 e6 e7 e8 e9 e10 e12 e13 e14 ej135 ej139 ej143 ej148 ej151 ej155 ej160 e162; exact own_w3_0 _ _ _ _ _ _ : v162 = j148)).2 ?_
             refine A.aload (q := 377) at_375 rfl rfl rfl ?_
             refine A.iconst (q := 378) (v := (0 : Int32)) at_377 rfl (by decide) ?_
             refine A.iaload (q := 379) (i := 1) (v := (.int (if (v6 = (-1 : Int32)) ∨ (¬ (v6 = (-1 : Int32)) ∧ ¬ (v12 = (-1 : Int32)) ∧ v12 = v6) ∨ (¬ (v6 = (-1 : Int32)) ∧ v12 = (-1 : Int32)) then ((if v6 = (-1 : Int32) then v12 else (if v12 = (-1 : Int32) then v6 else v12))) else v12))) at_378 rfl rfl (by decide) rfl ?_
             refine A.iload (q := 381) at_379 rfl rfl ?_
             refine A.icmpF (q := 384) at_381 rfl (teq (by subst e2 e5 e6 e7 e8 e9 e10 e12 e13 e14 ej135 ej139 ej143 ej148 ej151 ej155 ej160 e162; exact own_w3_1 _ 0 0 _ 0 0 : (if (v6 = (-1 : Int32)) ∨ (¬ (v6 = (-1 : Int32)) ∧ ¬ (v12 = (-1 : Int32)) ∧ v12 = v6) ∨ (¬ (v6 = (-1 : Int32)) ∧ v12 = (-1 : Int32)) then ((if v6 = (-1 : Int32) then v12 else (if v12 = (-1 : Int32) then v6 else v12))) else v12) = j151)).2 ?_
             refine A.aload (q := 386) at_384 rfl rfl rfl ?_
             refine A.iconst (q := 387) (v := (1 : Int32)) at_386 rfl (by decide) ?_
             refine A.iaload (q := 388) (i := 1) (v := (.int (if (v6 = (-1 : Int32)) ∨ (¬ (v6 = (-1 : Int32)) ∧ ¬ (v12 = (-1 : Int32)) ∧ v12 = v6) ∨ (¬ (v6 = (-1 : Int32)) ∧ v12 = (-1 : Int32)) then (if (v7 = (-1 : Int32)) ∨ (¬ (v7 = (-1 : Int32)) ∧ ¬ (v13 = (-1 : Int32)) ∧ v13 = v7) ∨ (¬ (v7 = (-1 : Int32)) ∧ v13 = (-1 : Int32)) then ((if v7 = (-1 : Int32) then v13 else (if v13 = (-1 : Int32) then v7 else v13))) else v13) else v13))) at_387 rfl rfl (by decide) rfl ?_
             refine A.iload (q := 390) at_388 rfl rfl ?_
             refine A.icmpF (q := 393) at_390 rfl (teq (by subst e2 e5 e6 e7 e8 e9 e10 e12 e13 e14 ej135 ej139 ej143 ej148 ej151 ej155 ej160 e162; exact own_w3_2 _ _ 0 _ _ 0 : (if (v6 = (-1 : Int32)) ∨ (¬ (v6 = (-1 : Int32)) ∧ ¬ (v12 = (-1 : Int32)) ∧ v12 = v6) ∨ (¬ (v6 = (-1 : Int32)) ∧ v12 = (-1 : Int32)) then (if (v7 = (-1 : Int32)) ∨ (¬ (v7 = (-1 : Int32)) ∧ ¬ (v13 = (-1 : Int32)) ∧ v13 = v7) ∨ (¬ (v7 = (-1 : Int32)) ∧ v13 = (-1 : Int32)) then ((if v7 = (-1 : Int32) then v13 else (if v13 = (-1 : Int32) then v7 else v13))) else v13) else v13) = j155)).2 ?_
             refine A.aload (q := 395) at_393 rfl rfl rfl ?_
             refine A.iconst (q := 396) (v := (2 : Int32)) at_395 rfl (by decide) ?_
             refine A.iaload (q := 397) (i := 1) (v := (.int (if (v6 = (-1 : Int32)) ∨ (¬ (v6 = (-1 : Int32)) ∧ ¬ (v12 = (-1 : Int32)) ∧ v12 = v6) ∨ (¬ (v6 = (-1 : Int32)) ∧ v12 = (-1 : Int32)) then (if (v7 = (-1 : Int32)) ∨ (¬ (v7 = (-1 : Int32)) ∧ ¬ (v13 = (-1 : Int32)) ∧ v13 = v7) ∨ (¬ (v7 = (-1 : Int32)) ∧ v13 = (-1 : Int32)) then (if (v8 = (-1 : Int32)) ∨ (¬ (v8 = (-1 : Int32)) ∧ ¬ (v14 = (-1 : Int32)) ∧ v14 = v8) ∨ (¬ (v8 = (-1 : Int32)) ∧ v14 = (-1 : Int32)) then ((if v8 = (-1 : Int32) then v14 else (if v14 = (-1 : Int32) then v8 else v14))) else v14) else v14) else v14))) at_396 rfl rfl (by decide) rfl ?_
             refine A.iload (q := 399) at_397 rfl rfl ?_
             refine A.icmpF (q := 402) at_399 rfl (teq (by subst e2 e5 e6 e7 e8 e9 e10 e12 e13 e14 ej135 ej139 ej143 ej148 ej151 ej155 ej160 e162; exact own_w3_3 _ _ _ _ _ _ : (if (v6 = (-1 : Int32)) ∨ (¬ (v6 = (-1 : Int32)) ∧ ¬ (v12 = (-1 : Int32)) ∧ v12 = v6) ∨ (¬ (v6 = (-1 : Int32)) ∧ v12 = (-1 : Int32)) then (if (v7 = (-1 : Int32)) ∨ (¬ (v7 = (-1 : Int32)) ∧ ¬ (v13 = (-1 : Int32)) ∧ v13 = v7) ∨ (¬ (v7 = (-1 : Int32)) ∧ v13 = (-1 : Int32)) then (if (v8 = (-1 : Int32)) ∨ (¬ (v8 = (-1 : Int32)) ∧ ¬ (v14 = (-1 : Int32)) ∧ v14 = v8) ∨ (¬ (v8 = (-1 : Int32)) ∧ v14 = (-1 : Int32)) then ((if v8 = (-1 : Int32) then v14 else (if v14 = (-1 : Int32) then v8 else v14))) else v14) else v14) else v14) = j160)).2 ?_
             refine A.iconst (q := 403) (v := (1 : Int32)) at_402 rfl (by decide) ?_
             refine A.goto (r := 407) at_403 (by decide) ?_
             exact A.retZ (v := 1) at_407 (by decide) (by decide) (by decide) rfl
            refine A.iload (q := 327) at_325 rfl rfl ?_
            refine A.iconst (q := 328) (v := (2 : Int32)) at_327 rfl (by decide) ?_
            refine A.icmpF (q := 331) at_328 rfl (by decide) ?_
            refine A.iload (q := 333) at_331 rfl rfl ?_
            refine A.if_ne (q := 336) (r := 351) at_333 rfl (by decide) (fun h157 => ?_) (fun h157 => ?_)
            · refine A.iload (q := 353) at_351 rfl rfl ?_
              exact J325_160 T _ (by simp only [if_neg h157]) A
            · refine A.iload (q := 338) at_336 rfl rfl ?_
              refine A.if_ne (q := 341) (r := 351) at_338 rfl (by decide) (fun h158 => ?_) (fun h158 => ?_)
              · refine A.iload (q := 353) at_351 rfl rfl ?_
                exact J325_160 T _ (by simp only [if_neg h158, if_pos h157]) A
              · refine A.iload (q := 343) at_341 rfl rfl ?_
                refine A.iload (q := 345) at_343 rfl rfl ?_
                refine A.callS (q := 348) (w1 := 9) (w2 := 10) (w3 := 3) (w4 := 11) (as := [(.int v8), (.int v14)]) (st := []) (W := 0) at_345 rfl rfl rfl rfl rfl (rmG l Z a0 hw n0 v8 v14 _) (by decide) ⟨_, _, pd_3, rfl⟩ rfl rfl rfl (by decide) (by decide) (by decide) (by decide) ?_
                rintro _ T _ ⟨rfl, rfl⟩ A
                show Go p e below _ (T.setTop (mkF m 348 #[.val (.long sl), .second, .val (.int pp), .val (.int qq), .val (.int rr), .val (.int sh), .val (.int (3 : Int32)), .val (.int (1 : Int32)), .val (.ref b4), .val (.ref b11), .val (.int v12), .val (.int v13), .val (.int v14), .val (.int v6), .val (.int v7), .val (.int v8), .val (.int j135), .val (.int j139), .val (.int j143), .val (.int j148), .val (.int j151), .val (.int j155), .unset, .unset] [(.int (FG v8 v14))]))
                obtain ⟨v159, e159⟩ : ∃ v : Int32, (FG v8 v14) = v := ⟨_, rfl⟩
                rw [e159]
                refine A.goto (r := 353) at_348 (by decide) ?_
                exact J325_160 T _ (by simp only [e159, if_pos h157, if_pos h158]) A
           refine A.iload (q := 302) at_300 rfl rfl ?_
           refine A.iconst (q := 303) (v := (1 : Int32)) at_302 rfl (by decide) ?_
           refine A.icmpF (q := 306) at_303 rfl (by decide) ?_
           refine A.iload (q := 308) at_306 rfl rfl ?_
           refine A.if_ne (q := 311) (r := 321) at_308 rfl (by decide) (fun h153 => ?_) (fun h153 => ?_)
           · refine A.iload (q := 323) at_321 rfl rfl ?_
             exact J300_155 T _ (by simp only [if_neg h153]) A
           · refine A.iload (q := 313) at_311 rfl rfl ?_
             refine A.iload (q := 315) at_313 rfl rfl ?_
             refine A.callS (q := 318) (w1 := 9) (w2 := 10) (w3 := 3) (w4 := 11) (as := [(.int v7), (.int v13)]) (st := []) (W := 0) at_315 rfl rfl rfl rfl rfl (rmG l Z a0 hw n0 v7 v13 _) (by decide) ⟨_, _, pd_3, rfl⟩ rfl rfl rfl (by decide) (by decide) (by decide) (by decide) ?_
             rintro _ T _ ⟨rfl, rfl⟩ A
             show Go p e below _ (T.setTop (mkF m 318 #[.val (.long sl), .second, .val (.int pp), .val (.int qq), .val (.int rr), .val (.int sh), .val (.int (3 : Int32)), .val (.int (1 : Int32)), .val (.ref b4), .val (.ref b11), .val (.int v12), .val (.int v13), .val (.int v14), .val (.int v6), .val (.int v7), .val (.int v8), .val (.int j135), .val (.int j139), .val (.int j143), .val (.int j148), .val (.int j151), .unset, .unset, .unset] [(.int (FG v7 v13))]))
             obtain ⟨v154, e154⟩ : ∃ v : Int32, (FG v7 v13) = v := ⟨_, rfl⟩
             rw [e154]
             refine A.goto (r := 323) at_318 (by decide) ?_
             exact J300_155 T _ (by simp only [e154, if_pos h153]) A
          refine A.iload (q := 283) at_281 rfl rfl ?_
          refine A.ifF (q := 286) at_283 rfl (by decide) ?_
          refine A.iload (q := 288) at_286 rfl rfl ?_
          refine A.iload (q := 290) at_288 rfl rfl ?_
          refine A.callS (q := 293) (w1 := 9) (w2 := 10) (w3 := 3) (w4 := 11) (as := [(.int v6), (.int v12)]) (st := []) (W := 0) at_290 rfl rfl rfl rfl rfl (rmG l Z a0 hw n0 v6 v12 _) (by decide) ⟨_, _, pd_3, rfl⟩ rfl rfl rfl (by decide) (by decide) (by decide) (by decide) ?_
          rintro _ T _ ⟨rfl, rfl⟩ A
          show Go p e below _ (T.setTop (mkF m 293 #[.val (.long sl), .second, .val (.int pp), .val (.int qq), .val (.int rr), .val (.int sh), .val (.int (3 : Int32)), .val (.int (1 : Int32)), .val (.ref b4), .val (.ref b11), .val (.int v12), .val (.int v13), .val (.int v14), .val (.int v6), .val (.int v7), .val (.int v8), .val (.int j135), .val (.int j139), .val (.int j143), .val (.int j148), .unset, .unset, .unset, .unset] [(.int (FG v6 v12))]))
          obtain ⟨v150, e150⟩ : ∃ v : Int32, (FG v6 v12) = v := ⟨_, rfl⟩
          rw [e150]
          refine A.goto (r := 298) at_293 (by decide) ?_
          exact J281_151 T _ (by simp only [e150]) A
         refine A.iload (q := 261) at_259 rfl rfl ?_
         refine A.if_ne (q := 264) (r := 278) at_261 rfl (by decide) (fun h145 => ?_) (fun h145 => ?_)
         · refine A.iconst (q := 279) (v := (0 : Int32)) at_278 rfl (by decide) ?_
           exact J259_148 T _ (by simp only [if_neg h145]) A
         · refine A.iload (q := 266) at_264 rfl rfl ?_
           refine A.if_ne (q := 269) (r := 278) at_266 rfl (by decide) (fun h146 => ?_) (fun h146 => ?_)
           · refine A.iconst (q := 279) (v := (0 : Int32)) at_278 rfl (by decide) ?_
             exact J259_148 T _ (by simp only [if_neg h146, if_pos h145]) A
           · refine A.iload (q := 271) at_269 rfl rfl ?_
             refine A.if_ne (q := 274) (r := 278) at_271 rfl (by decide) (fun h147 => ?_) (fun h147 => ?_)
             · refine A.iconst (q := 279) (v := (0 : Int32)) at_278 rfl (by decide) ?_
               exact J259_148 T _ (by simp only [if_neg h147, if_pos h145, if_pos h146]) A
             · refine A.iconst (q := 275) (v := (1 : Int32)) at_274 rfl (by decide) ?_
               refine A.goto (r := 279) at_275 (by decide) ?_
               exact J259_148 T _ (by simp only [if_pos h145, if_pos h146, if_pos h147]) A
        refine A.iload (q := 238) at_236 rfl rfl ?_
        refine A.iconst (q := 239) (v := (2 : Int32)) at_238 rfl (by decide) ?_
        refine A.icmpF (q := 242) at_239 rfl (by decide) ?_
        refine A.iload (q := 244) at_242 rfl rfl ?_
        refine A.iload (q := 246) at_244 rfl rfl ?_
        refine A.callS (q := 249) (w1 := 6) (w2 := 7) (w3 := 3) (w4 := 8) (as := [(.int v8), (.int v14)]) (st := []) (W := 0) at_246 rfl rfl rfl rfl rfl (rmC l Z a0 hw n0 v8 v14 _) (by decide) ⟨_, _, pd_2, rfl⟩ rfl rfl rfl (by decide) (by decide) (by decide) (by decide) ?_
        rintro _ T _ ⟨rfl, rfl⟩ A
        show Go p e below _ (T.setTop (mkF m 249 #[.val (.long sl), .second, .val (.int pp), .val (.int qq), .val (.int rr), .val (.int sh), .val (.int (3 : Int32)), .val (.int (1 : Int32)), .val (.ref b4), .val (.ref b11), .val (.int v12), .val (.int v13), .val (.int v14), .val (.int v6), .val (.int v7), .val (.int v8), .val (.int j135), .val (.int j139), .unset, .unset, .unset, .unset, .unset, .unset] [(.int (FC v8 v14))]))
        obtain ⟨v141, e141⟩ : ∃ v : Int32, (FC v8 v14) = v := ⟨_, rfl⟩
        rw [e141]
        refine A.if_eq (q := 252) (r := 256) at_249 rfl (by decide) (fun h142 => ?_) (fun h142 => ?_)
        · refine A.iconst (q := 257) (v := (0 : Int32)) at_256 rfl (by decide) ?_
          exact J236_143 T _ (by simp only [e141, if_pos h142]) A
        · refine A.iconst (q := 253) (v := (1 : Int32)) at_252 rfl (by decide) ?_
          refine A.goto (r := 257) at_253 (by decide) ?_
          exact J236_143 T _ (by simp only [e141, if_neg h142]) A
       refine A.iload (q := 215) at_213 rfl rfl ?_
       refine A.iconst (q := 216) (v := (1 : Int32)) at_215 rfl (by decide) ?_
       refine A.icmpF (q := 219) at_216 rfl (by decide) ?_
       refine A.iload (q := 221) at_219 rfl rfl ?_
       refine A.iload (q := 223) at_221 rfl rfl ?_
       refine A.callS (q := 226) (w1 := 6) (w2 := 7) (w3 := 3) (w4 := 8) (as := [(.int v7), (.int v13)]) (st := []) (W := 0) at_223 rfl rfl rfl rfl rfl (rmC l Z a0 hw n0 v7 v13 _) (by decide) ⟨_, _, pd_2, rfl⟩ rfl rfl rfl (by decide) (by decide) (by decide) (by decide) ?_
       rintro _ T _ ⟨rfl, rfl⟩ A
       show Go p e below _ (T.setTop (mkF m 226 #[.val (.long sl), .second, .val (.int pp), .val (.int qq), .val (.int rr), .val (.int sh), .val (.int (3 : Int32)), .val (.int (1 : Int32)), .val (.ref b4), .val (.ref b11), .val (.int v12), .val (.int v13), .val (.int v14), .val (.int v6), .val (.int v7), .val (.int v8), .val (.int j135), .unset, .unset, .unset, .unset, .unset, .unset, .unset] [(.int (FC v7 v13))]))
       obtain ⟨v137, e137⟩ : ∃ v : Int32, (FC v7 v13) = v := ⟨_, rfl⟩
       rw [e137]
       refine A.if_eq (q := 229) (r := 233) at_226 rfl (by decide) (fun h138 => ?_) (fun h138 => ?_)
       · refine A.iconst (q := 234) (v := (0 : Int32)) at_233 rfl (by decide) ?_
         exact J213_139 T _ (by simp only [e137, if_pos h138]) A
       · refine A.iconst (q := 230) (v := (1 : Int32)) at_229 rfl (by decide) ?_
         refine A.goto (r := 234) at_230 (by decide) ?_
         exact J213_139 T _ (by simp only [e137, if_neg h138]) A
      refine A.iload (q := 193) at_191 rfl rfl ?_
      refine A.ifF (q := 196) at_193 rfl (by decide) ?_
      refine A.iload (q := 198) at_196 rfl rfl ?_
      refine A.iload (q := 200) at_198 rfl rfl ?_
      refine A.callS (q := 203) (w1 := 6) (w2 := 7) (w3 := 3) (w4 := 8) (as := [(.int v6), (.int v12)]) (st := []) (W := 0) at_200 rfl rfl rfl rfl rfl (rmC l Z a0 hw n0 v6 v12 _) (by decide) ⟨_, _, pd_2, rfl⟩ rfl rfl rfl (by decide) (by decide) (by decide) (by decide) ?_
      rintro _ T _ ⟨rfl, rfl⟩ A
      show Go p e below _ (T.setTop (mkF m 203 #[.val (.long sl), .second, .val (.int pp), .val (.int qq), .val (.int rr), .val (.int sh), .val (.int (3 : Int32)), .val (.int (1 : Int32)), .val (.ref b4), .val (.ref b11), .val (.int v12), .val (.int v13), .val (.int v14), .val (.int v6), .val (.int v7), .val (.int v8), .unset, .unset, .unset, .unset, .unset, .unset, .unset, .unset] [(.int (FC v6 v12))]))
      obtain ⟨v133, e133⟩ : ∃ v : Int32, (FC v6 v12) = v := ⟨_, rfl⟩
      rw [e133]
      refine A.if_eq (q := 206) (r := 210) at_203 rfl (by decide) (fun h134 => ?_) (fun h134 => ?_)
      · refine A.iconst (q := 211) (v := (0 : Int32)) at_210 rfl (by decide) ?_
        exact J191_135 T _ (by simp only [e133, if_pos h134]) A
      · refine A.iconst (q := 207) (v := (1 : Int32)) at_206 rfl (by decide) ?_
        refine A.goto (r := 211) at_207 (by decide) ?_
        exact J191_135 T _ (by simp only [e133, if_neg h134]) A
  · refine A.aload (q := 168) at_166 rfl rfl rfl ?_
    refine A.iload (q := 170) at_168 rfl rfl ?_
    refine A.iaload (q := 171) (i := 1) (v := (.int v7)) at_170 rfl rfl (by decide) rfl ?_
    refine A.istore (q := 173) (l' := #[.val (.long sl), .second, .val (.int pp), .val (.int qq), .val (.int rr), .val (.int sh), .val (.int v1), .val (.int (2 : Int32)), .val (.ref b4), .val (.ref b11), .val (.int v12), .val (.int v13), .val (.int v14), .val (.int v7), .unset, .unset, .unset, .unset, .unset, .unset, .unset, .unset, .unset, .unset]) at_171 rfl rfl ?_
    refine A.aload (q := 175) at_173 rfl rfl rfl ?_
    refine A.iload (q := 177) at_175 rfl rfl ?_
    refine A.iconst (q := 178) (v := (1 : Int32)) at_177 rfl (by decide) ?_
    refine A.iadd (q := 179) (v := (3 : Int32)) at_178 rfl (by decide) ?_
    refine A.iaload (q := 180) (i := 1) (v := (.int v8)) at_179 rfl rfl (by decide) rfl ?_
    refine A.istore (q := 182) (l' := #[.val (.long sl), .second, .val (.int pp), .val (.int qq), .val (.int rr), .val (.int sh), .val (.int v1), .val (.int (2 : Int32)), .val (.ref b4), .val (.ref b11), .val (.int v12), .val (.int v13), .val (.int v14), .val (.int v7), .val (.int v8), .unset, .unset, .unset, .unset, .unset, .unset, .unset, .unset, .unset]) at_180 rfl rfl ?_
    refine A.aload (q := 184) at_182 rfl rfl rfl ?_
    refine A.iload (q := 186) at_184 rfl rfl ?_
    refine A.iconst (q := 187) (v := (2 : Int32)) at_186 rfl (by decide) ?_
    refine A.iadd (q := 188) (v := (4 : Int32)) at_187 rfl (by decide) ?_
    refine A.iaload (q := 189) (i := 1) (v := (.int v9)) at_188 rfl rfl (by decide) rfl ?_
    refine A.istore (q := 191) (l' := #[.val (.long sl), .second, .val (.int pp), .val (.int qq), .val (.int rr), .val (.int sh), .val (.int v1), .val (.int (2 : Int32)), .val (.ref b4), .val (.ref b11), .val (.int v12), .val (.int v13), .val (.int v14), .val (.int v7), .val (.int v8), .val (.int v9), .unset, .unset, .unset, .unset, .unset, .unset, .unset, .unset]) at_189 rfl rfl ?_
    have hn : v1 = 0 ∨ v1 = 1 ∨ v1 = 2 ∨ v1 = 3 := by subst e1 e2 e5 e6 e7 e8 e9 e10 e12 e13 e14; exact own_and3 _
    rcases hn with rfl | rfl | rfl | rfl
    · have J191_162 : ∀ (T : State), Here p l e room_1 s m ([(.long sl), (.int pp), (.int qq), (.int rr), (.int sh)] : List Value).toArray below meth c Z a0 tables_1 x.cls x.name code 24 (some .boolean) n0 T [(b11, .inr (.int, [(.int v12), (.int v13), (.int v14)])), (b4, .inr (.int, [(.int v5), (.int v6), (.int v7), (.int v8), (.int v9), (.int v10)]))] 2 9 → Go p e below (EndS below s n0 Z 16 128 (fun v _ => v = some (.int 1))) (T.setTop (mkF m 211 #[.val (.long sl), .second, .val (.int pp), .val (.int qq), .val (.int rr), .val (.int sh), .val (.int (0 : Int32)), .val (.int (2 : Int32)), .val (.ref b4), .val (.ref b11), .val (.int v12), .val (.int v13), .val (.int v14), .val (.int v7), .val (.int v8), .val (.int v9), .unset, .unset, .unset, .unset, .unset, .unset, .unset, .unset] [(.int (0 : Int32))])) := by
       intro T  A
       refine A.istore (q := 213) (l' := #[.val (.long sl), .second, .val (.int pp), .val (.int qq), .val (.int rr), .val (.int sh), .val (.int (0 : Int32)), .val (.int (2 : Int32)), .val (.ref b4), .val (.ref b11), .val (.int v12), .val (.int v13), .val (.int v14), .val (.int v7), .val (.int v8), .val (.int v9), .val (.int (0 : Int32)), .unset, .unset, .unset, .unset, .unset, .unset, .unset]) at_211 rfl rfl ?_
       have J213_163 : ∀ (T : State), Here p l e room_1 s m ([(.long sl), (.int pp), (.int qq), (.int rr), (.int sh)] : List Value).toArray below meth c Z a0 tables_1 x.cls x.name code 24 (some .boolean) n0 T [(b11, .inr (.int, [(.int v12), (.int v13), (.int v14)])), (b4, .inr (.int, [(.int v5), (.int v6), (.int v7), (.int v8), (.int v9), (.int v10)]))] 2 9 → Go p e below (EndS below s n0 Z 16 128 (fun v _ => v = some (.int 1))) (T.setTop (mkF m 234 #[.val (.long sl), .second, .val (.int pp), .val (.int qq), .val (.int rr), .val (.int sh), .val (.int (0 : Int32)), .val (.int (2 : Int32)), .val (.ref b4), .val (.ref b11), .val (.int v12), .val (.int v13), .val (.int v14), .val (.int v7), .val (.int v8), .val (.int v9), .val (.int (0 : Int32)), .unset, .unset, .unset, .unset, .unset, .unset, .unset] [(.int (0 : Int32))])) := by
        intro T  A
        refine A.istore (q := 236) (l' := #[.val (.long sl), .second, .val (.int pp), .val (.int qq), .val (.int rr), .val (.int sh), .val (.int (0 : Int32)), .val (.int (2 : Int32)), .val (.ref b4), .val (.ref b11), .val (.int v12), .val (.int v13), .val (.int v14), .val (.int v7), .val (.int v8), .val (.int v9), .val (.int (0 : Int32)), .val (.int (0 : Int32)), .unset, .unset, .unset, .unset, .unset, .unset]) at_234 rfl rfl ?_
        have J236_164 : ∀ (T : State), Here p l e room_1 s m ([(.long sl), (.int pp), (.int qq), (.int rr), (.int sh)] : List Value).toArray below meth c Z a0 tables_1 x.cls x.name code 24 (some .boolean) n0 T [(b11, .inr (.int, [(.int v12), (.int v13), (.int v14)])), (b4, .inr (.int, [(.int v5), (.int v6), (.int v7), (.int v8), (.int v9), (.int v10)]))] 2 9 → Go p e below (EndS below s n0 Z 16 128 (fun v _ => v = some (.int 1))) (T.setTop (mkF m 257 #[.val (.long sl), .second, .val (.int pp), .val (.int qq), .val (.int rr), .val (.int sh), .val (.int (0 : Int32)), .val (.int (2 : Int32)), .val (.ref b4), .val (.ref b11), .val (.int v12), .val (.int v13), .val (.int v14), .val (.int v7), .val (.int v8), .val (.int v9), .val (.int (0 : Int32)), .val (.int (0 : Int32)), .unset, .unset, .unset, .unset, .unset, .unset] [(.int (0 : Int32))])) := by
         intro T  A
         refine A.istore (q := 259) (l' := #[.val (.long sl), .second, .val (.int pp), .val (.int qq), .val (.int rr), .val (.int sh), .val (.int (0 : Int32)), .val (.int (2 : Int32)), .val (.ref b4), .val (.ref b11), .val (.int v12), .val (.int v13), .val (.int v14), .val (.int v7), .val (.int v8), .val (.int v9), .val (.int (0 : Int32)), .val (.int (0 : Int32)), .val (.int (0 : Int32)), .unset, .unset, .unset, .unset, .unset]) at_257 rfl rfl ?_
         have J259_165 : ∀ (T : State), Here p l e room_1 s m ([(.long sl), (.int pp), (.int qq), (.int rr), (.int sh)] : List Value).toArray below meth c Z a0 tables_1 x.cls x.name code 24 (some .boolean) n0 T [(b11, .inr (.int, [(.int v12), (.int v13), (.int v14)])), (b4, .inr (.int, [(.int v5), (.int v6), (.int v7), (.int v8), (.int v9), (.int v10)]))] 2 9 → Go p e below (EndS below s n0 Z 16 128 (fun v _ => v = some (.int 1))) (T.setTop (mkF m 279 #[.val (.long sl), .second, .val (.int pp), .val (.int qq), .val (.int rr), .val (.int sh), .val (.int (0 : Int32)), .val (.int (2 : Int32)), .val (.ref b4), .val (.ref b11), .val (.int v12), .val (.int v13), .val (.int v14), .val (.int v7), .val (.int v8), .val (.int v9), .val (.int (0 : Int32)), .val (.int (0 : Int32)), .val (.int (0 : Int32)), .unset, .unset, .unset, .unset, .unset] [(.int (1 : Int32))])) := by
          intro T  A
          refine A.istore (q := 281) (l' := #[.val (.long sl), .second, .val (.int pp), .val (.int qq), .val (.int rr), .val (.int sh), .val (.int (0 : Int32)), .val (.int (2 : Int32)), .val (.ref b4), .val (.ref b11), .val (.int v12), .val (.int v13), .val (.int v14), .val (.int v7), .val (.int v8), .val (.int v9), .val (.int (0 : Int32)), .val (.int (0 : Int32)), .val (.int (0 : Int32)), .val (.int (1 : Int32)), .unset, .unset, .unset, .unset]) at_279 rfl rfl ?_
          have J281_166 : ∀ (T : State), Here p l e room_1 s m ([(.long sl), (.int pp), (.int qq), (.int rr), (.int sh)] : List Value).toArray below meth c Z a0 tables_1 x.cls x.name code 24 (some .boolean) n0 T [(b11, .inr (.int, [(.int v12), (.int v13), (.int v14)])), (b4, .inr (.int, [(.int v5), (.int v6), (.int v7), (.int v8), (.int v9), (.int v10)]))] 2 9 → Go p e below (EndS below s n0 Z 16 128 (fun v _ => v = some (.int 1))) (T.setTop (mkF m 298 #[.val (.long sl), .second, .val (.int pp), .val (.int qq), .val (.int rr), .val (.int sh), .val (.int (0 : Int32)), .val (.int (2 : Int32)), .val (.ref b4), .val (.ref b11), .val (.int v12), .val (.int v13), .val (.int v14), .val (.int v7), .val (.int v8), .val (.int v9), .val (.int (0 : Int32)), .val (.int (0 : Int32)), .val (.int (0 : Int32)), .val (.int (1 : Int32)), .unset, .unset, .unset, .unset] [(.int v12)])) := by
           intro T  A
           refine A.istore (q := 300) (l' := #[.val (.long sl), .second, .val (.int pp), .val (.int qq), .val (.int rr), .val (.int sh), .val (.int (0 : Int32)), .val (.int (2 : Int32)), .val (.ref b4), .val (.ref b11), .val (.int v12), .val (.int v13), .val (.int v14), .val (.int v7), .val (.int v8), .val (.int v9), .val (.int (0 : Int32)), .val (.int (0 : Int32)), .val (.int (0 : Int32)), .val (.int (1 : Int32)), .val (.int v12), .unset, .unset, .unset]) at_298 rfl rfl ?_
           have J300_167 : ∀ (T : State), Here p l e room_1 s m ([(.long sl), (.int pp), (.int qq), (.int rr), (.int sh)] : List Value).toArray below meth c Z a0 tables_1 x.cls x.name code 24 (some .boolean) n0 T [(b11, .inr (.int, [(.int v12), (.int v13), (.int v14)])), (b4, .inr (.int, [(.int v5), (.int v6), (.int v7), (.int v8), (.int v9), (.int v10)]))] 2 9 → Go p e below (EndS below s n0 Z 16 128 (fun v _ => v = some (.int 1))) (T.setTop (mkF m 323 #[.val (.long sl), .second, .val (.int pp), .val (.int qq), .val (.int rr), .val (.int sh), .val (.int (0 : Int32)), .val (.int (2 : Int32)), .val (.ref b4), .val (.ref b11), .val (.int v12), .val (.int v13), .val (.int v14), .val (.int v7), .val (.int v8), .val (.int v9), .val (.int (0 : Int32)), .val (.int (0 : Int32)), .val (.int (0 : Int32)), .val (.int (1 : Int32)), .val (.int v12), .unset, .unset, .unset] [(.int v13)])) := by
            intro T  A
            refine A.istore (q := 325) (l' := #[.val (.long sl), .second, .val (.int pp), .val (.int qq), .val (.int rr), .val (.int sh), .val (.int (0 : Int32)), .val (.int (2 : Int32)), .val (.ref b4), .val (.ref b11), .val (.int v12), .val (.int v13), .val (.int v14), .val (.int v7), .val (.int v8), .val (.int v9), .val (.int (0 : Int32)), .val (.int (0 : Int32)), .val (.int (0 : Int32)), .val (.int (1 : Int32)), .val (.int v12), .val (.int v13), .unset, .unset]) at_323 rfl rfl ?_
            have J325_168 : ∀ (T : State), Here p l e room_1 s m ([(.long sl), (.int pp), (.int qq), (.int rr), (.int sh)] : List Value).toArray below meth c Z a0 tables_1 x.cls x.name code 24 (some .boolean) n0 T [(b11, .inr (.int, [(.int v12), (.int v13), (.int v14)])), (b4, .inr (.int, [(.int v5), (.int v6), (.int v7), (.int v8), (.int v9), (.int v10)]))] 2 9 → Go p e below (EndS below s n0 Z 16 128 (fun v _ => v = some (.int 1))) (T.setTop (mkF m 353 #[.val (.long sl), .second, .val (.int pp), .val (.int qq), .val (.int rr), .val (.int sh), .val (.int (0 : Int32)), .val (.int (2 : Int32)), .val (.ref b4), .val (.ref b11), .val (.int v12), .val (.int v13), .val (.int v14), .val (.int v7), .val (.int v8), .val (.int v9), .val (.int (0 : Int32)), .val (.int (0 : Int32)), .val (.int (0 : Int32)), .val (.int (1 : Int32)), .val (.int v12), .val (.int v13), .unset, .unset] [(.int v14)])) := by
             intro T  A
             refine A.istore (q := 355) (l' := #[.val (.long sl), .second, .val (.int pp), .val (.int qq), .val (.int rr), .val (.int sh), .val (.int (0 : Int32)), .val (.int (2 : Int32)), .val (.ref b4), .val (.ref b11), .val (.int v12), .val (.int v13), .val (.int v14), .val (.int v7), .val (.int v8), .val (.int v9), .val (.int (0 : Int32)), .val (.int (0 : Int32)), .val (.int (0 : Int32)), .val (.int (1 : Int32)), .val (.int v12), .val (.int v13), .val (.int v14), .unset]) at_353 rfl rfl ?_
             refine A.aload (q := 357) at_355 rfl rfl rfl ?_
             refine A.iload (q := 359) at_357 rfl rfl ?_
             refine A.iload (q := 361) at_359 rfl rfl ?_
             refine A.aload (q := 363) at_361 rfl rfl rfl ?_
             have A := A.front (i := 1) (L' := [(b4, .inr (.int, [(.int v5), (.int v6), (.int v7), (.int v8), (.int v9), (.int v10)])), (b11, .inr (.int, [(.int v12), (.int v13), (.int v14)]))]) rfl rfl
             refine A.callS (q := 366) (w1 := 12) (w2 := 13) (w3 := 14) (w4 := 15) (as := [(.ref b4), (.int (2 : Int32)), (.int (0 : Int32)), (.ref b11)]) (st := []) (W := 0) at_363 rfl rfl rfl rfl rfl (rmI_9 l Z a0 hw n0 b4 b11 v5 v6 v7 v8 v9 v10 v12 v13 v14 _) (by decide) ⟨_, _, pd_1, rfl⟩ rfl rfl rfl (by decide) (by decide) (by decide) (by decide) ?_
             rintro _ T _ ⟨rfl, rfl⟩ A
             show Go p e below _ (T.setTop (mkF m 366 #[.val (.long sl), .second, .val (.int pp), .val (.int qq), .val (.int rr), .val (.int sh), .val (.int (0 : Int32)), .val (.int (2 : Int32)), .val (.ref b4), .val (.ref b11), .val (.int v12), .val (.int v13), .val (.int v14), .val (.int v7), .val (.int v8), .val (.int v9), .val (.int (0 : Int32)), .val (.int (0 : Int32)), .val (.int (0 : Int32)), .val (.int (1 : Int32)), .val (.int v12), .val (.int v13), .val (.int v14), .unset] [(.int (1 : Int32))]))
             refine A.istore (q := 368) (l' := #[.val (.long sl), .second, .val (.int pp), .val (.int qq), .val (.int rr), .val (.int sh), .val (.int (0 : Int32)), .val (.int (2 : Int32)), .val (.ref b4), .val (.ref b11), .val (.int v12), .val (.int v13), .val (.int v14), .val (.int v7), .val (.int v8), .val (.int v9), .val (.int (0 : Int32)), .val (.int (0 : Int32)), .val (.int (0 : Int32)), .val (.int (1 : Int32)), .val (.int v12), .val (.int v13), .val (.int v14), .val (.int (1 : Int32))]) at_366 rfl rfl ?_
             refine A.iload (q := 370) at_368 rfl rfl ?_
             refine A.iload (q := 372) at_370 rfl rfl ?_
             refine A.icmpF (q := 375) at_372 rfl (by decide) ?_
             refine A.aload (q := 377) at_375 rfl rfl rfl ?_
             refine A.iconst (q := 378) (v := (0 : Int32)) at_377 rfl (by decide) ?_
             refine A.iaload (q := 379) (i := 1) (v := (.int v12)) at_378 rfl rfl (by decide) rfl ?_
             refine A.iload (q := 381) at_379 rfl rfl ?_
             refine A.icmpF (q := 384) at_381 rfl (teq rfl).2 ?_
             refine A.aload (q := 386) at_384 rfl rfl rfl ?_
             refine A.iconst (q := 387) (v := (1 : Int32)) at_386 rfl (by decide) ?_
             refine A.iaload (q := 388) (i := 1) (v := (.int v13)) at_387 rfl rfl (by decide) rfl ?_
             refine A.iload (q := 390) at_388 rfl rfl ?_
             refine A.icmpF (q := 393) at_390 rfl (teq rfl).2 ?_
             refine A.aload (q := 395) at_393 rfl rfl rfl ?_
             refine A.iconst (q := 396) (v := (2 : Int32)) at_395 rfl (by decide) ?_
             refine A.iaload (q := 397) (i := 1) (v := (.int v14)) at_396 rfl rfl (by decide) rfl ?_
             refine A.iload (q := 399) at_397 rfl rfl ?_
             refine A.icmpF (q := 402) at_399 rfl (teq rfl).2 ?_
             refine A.iconst (q := 403) (v := (1 : Int32)) at_402 rfl (by decide) ?_
             refine A.goto (r := 407) at_403 (by decide) ?_
             exact A.retZ (v := 1) at_407 (by decide) (by decide) (by decide) rfl
            refine A.iload (q := 327) at_325 rfl rfl ?_
            refine A.iconst (q := 328) (v := (2 : Int32)) at_327 rfl (by decide) ?_
            refine A.icmpT (r := 351) at_328 (by decide) (by decide) ?_
            refine A.iload (q := 353) at_351 rfl rfl ?_
            exact J325_168 T  A
           refine A.iload (q := 302) at_300 rfl rfl ?_
           refine A.iconst (q := 303) (v := (1 : Int32)) at_302 rfl (by decide) ?_
           refine A.icmpT (r := 321) at_303 (by decide) (by decide) ?_
           refine A.iload (q := 323) at_321 rfl rfl ?_
           exact J300_167 T  A
          refine A.iload (q := 283) at_281 rfl rfl ?_
          refine A.ifT (r := 296) at_283 (by decide) (by decide) ?_
          refine A.iload (q := 298) at_296 rfl rfl ?_
          exact J281_166 T  A
         refine A.iload (q := 261) at_259 rfl rfl ?_
         refine A.ifF (q := 264) at_261 rfl (by decide) ?_
         refine A.iload (q := 266) at_264 rfl rfl ?_
         refine A.ifF (q := 269) at_266 rfl (by decide) ?_
         refine A.iload (q := 271) at_269 rfl rfl ?_
         refine A.ifF (q := 274) at_271 rfl (by decide) ?_
         refine A.iconst (q := 275) (v := (1 : Int32)) at_274 rfl (by decide) ?_
         refine A.goto (r := 279) at_275 (by decide) ?_
         exact J259_165 T  A
        refine A.iload (q := 238) at_236 rfl rfl ?_
        refine A.iconst (q := 239) (v := (2 : Int32)) at_238 rfl (by decide) ?_
        refine A.icmpT (r := 256) at_239 (by decide) (by decide) ?_
        refine A.iconst (q := 257) (v := (0 : Int32)) at_256 rfl (by decide) ?_
        exact J236_164 T  A
       refine A.iload (q := 215) at_213 rfl rfl ?_
       refine A.iconst (q := 216) (v := (1 : Int32)) at_215 rfl (by decide) ?_
       refine A.icmpT (r := 233) at_216 (by decide) (by decide) ?_
       refine A.iconst (q := 234) (v := (0 : Int32)) at_233 rfl (by decide) ?_
       exact J213_163 T  A
      refine A.iload (q := 193) at_191 rfl rfl ?_
      refine A.ifT (r := 210) at_193 (by decide) (by decide) ?_
      refine A.iconst (q := 211) (v := (0 : Int32)) at_210 rfl (by decide) ?_
      exact J191_162 T  A
    · have J191_172 : ∀ (T : State) (j172 : Int32), j172 = (if ((FC v7 v12)) = (0 : Int32) then (0 : Int32) else (1 : Int32)) → Here p l e room_1 s m ([(.long sl), (.int pp), (.int qq), (.int rr), (.int sh)] : List Value).toArray below meth c Z a0 tables_1 x.cls x.name code 24 (some .boolean) n0 T [(b11, .inr (.int, [(.int v12), (.int v13), (.int v14)])), (b4, .inr (.int, [(.int v5), (.int v6), (.int v7), (.int v8), (.int v9), (.int v10)]))] 2 9 → Go p e below (EndS below s n0 Z 16 128 (fun v _ => v = some (.int 1))) (T.setTop (mkF m 211 #[.val (.long sl), .second, .val (.int pp), .val (.int qq), .val (.int rr), .val (.int sh), .val (.int (1 : Int32)), .val (.int (2 : Int32)), .val (.ref b4), .val (.ref b11), .val (.int v12), .val (.int v13), .val (.int v14), .val (.int v7), .val (.int v8), .val (.int v9), .unset, .unset, .unset, .unset, .unset, .unset, .unset, .unset] [(.int j172)])) := by
       intro T j172 ej172 A
       have z_j172 : nar .boolean j172 = j172 := by rw [ej172]; (repeat' split) <;> first | decide | assumption
       refine A.istore (q := 213) (l' := #[.val (.long sl), .second, .val (.int pp), .val (.int qq), .val (.int rr), .val (.int sh), .val (.int (1 : Int32)), .val (.int (2 : Int32)), .val (.ref b4), .val (.ref b11), .val (.int v12), .val (.int v13), .val (.int v14), .val (.int v7), .val (.int v8), .val (.int v9), .val (.int j172), .unset, .unset, .unset, .unset, .unset, .unset, .unset]) at_211 rfl rfl ?_
       have J213_173 : ∀ (T : State), Here p l e room_1 s m ([(.long sl), (.int pp), (.int qq), (.int rr), (.int sh)] : List Value).toArray below meth c Z a0 tables_1 x.cls x.name code 24 (some .boolean) n0 T [(b11, .inr (.int, [(.int v12), (.int v13), (.int v14)])), (b4, .inr (.int, [(.int v5), (.int v6), (.int v7), (.int v8), (.int v9), (.int v10)]))] 2 9 → Go p e below (EndS below s n0 Z 16 128 (fun v _ => v = some (.int 1))) (T.setTop (mkF m 234 #[.val (.long sl), .second, .val (.int pp), .val (.int qq), .val (.int rr), .val (.int sh), .val (.int (1 : Int32)), .val (.int (2 : Int32)), .val (.ref b4), .val (.ref b11), .val (.int v12), .val (.int v13), .val (.int v14), .val (.int v7), .val (.int v8), .val (.int v9), .val (.int j172), .unset, .unset, .unset, .unset, .unset, .unset, .unset] [(.int (0 : Int32))])) := by
        intro T  A
        refine A.istore (q := 236) (l' := #[.val (.long sl), .second, .val (.int pp), .val (.int qq), .val (.int rr), .val (.int sh), .val (.int (1 : Int32)), .val (.int (2 : Int32)), .val (.ref b4), .val (.ref b11), .val (.int v12), .val (.int v13), .val (.int v14), .val (.int v7), .val (.int v8), .val (.int v9), .val (.int j172), .val (.int (0 : Int32)), .unset, .unset, .unset, .unset, .unset, .unset]) at_234 rfl rfl ?_
        have J236_174 : ∀ (T : State), Here p l e room_1 s m ([(.long sl), (.int pp), (.int qq), (.int rr), (.int sh)] : List Value).toArray below meth c Z a0 tables_1 x.cls x.name code 24 (some .boolean) n0 T [(b11, .inr (.int, [(.int v12), (.int v13), (.int v14)])), (b4, .inr (.int, [(.int v5), (.int v6), (.int v7), (.int v8), (.int v9), (.int v10)]))] 2 9 → Go p e below (EndS below s n0 Z 16 128 (fun v _ => v = some (.int 1))) (T.setTop (mkF m 257 #[.val (.long sl), .second, .val (.int pp), .val (.int qq), .val (.int rr), .val (.int sh), .val (.int (1 : Int32)), .val (.int (2 : Int32)), .val (.ref b4), .val (.ref b11), .val (.int v12), .val (.int v13), .val (.int v14), .val (.int v7), .val (.int v8), .val (.int v9), .val (.int j172), .val (.int (0 : Int32)), .unset, .unset, .unset, .unset, .unset, .unset] [(.int (0 : Int32))])) := by
         intro T  A
         refine A.istore (q := 259) (l' := #[.val (.long sl), .second, .val (.int pp), .val (.int qq), .val (.int rr), .val (.int sh), .val (.int (1 : Int32)), .val (.int (2 : Int32)), .val (.ref b4), .val (.ref b11), .val (.int v12), .val (.int v13), .val (.int v14), .val (.int v7), .val (.int v8), .val (.int v9), .val (.int j172), .val (.int (0 : Int32)), .val (.int (0 : Int32)), .unset, .unset, .unset, .unset, .unset]) at_257 rfl rfl ?_
         have J259_177 : ∀ (T : State) (j177 : Int32), j177 = (if j172 = (0 : Int32) then (1 : Int32) else (0 : Int32)) → Here p l e room_1 s m ([(.long sl), (.int pp), (.int qq), (.int rr), (.int sh)] : List Value).toArray below meth c Z a0 tables_1 x.cls x.name code 24 (some .boolean) n0 T [(b11, .inr (.int, [(.int v12), (.int v13), (.int v14)])), (b4, .inr (.int, [(.int v5), (.int v6), (.int v7), (.int v8), (.int v9), (.int v10)]))] 2 9 → Go p e below (EndS below s n0 Z 16 128 (fun v _ => v = some (.int 1))) (T.setTop (mkF m 279 #[.val (.long sl), .second, .val (.int pp), .val (.int qq), .val (.int rr), .val (.int sh), .val (.int (1 : Int32)), .val (.int (2 : Int32)), .val (.ref b4), .val (.ref b11), .val (.int v12), .val (.int v13), .val (.int v14), .val (.int v7), .val (.int v8), .val (.int v9), .val (.int j172), .val (.int (0 : Int32)), .val (.int (0 : Int32)), .unset, .unset, .unset, .unset, .unset] [(.int j177)])) := by
          intro T j177 ej177 A
          have z_j177 : nar .boolean j177 = j177 := by rw [ej177]; (repeat' split) <;> first | decide | assumption
          refine A.istore (q := 281) (l' := #[.val (.long sl), .second, .val (.int pp), .val (.int qq), .val (.int rr), .val (.int sh), .val (.int (1 : Int32)), .val (.int (2 : Int32)), .val (.ref b4), .val (.ref b11), .val (.int v12), .val (.int v13), .val (.int v14), .val (.int v7), .val (.int v8), .val (.int v9), .val (.int j172), .val (.int (0 : Int32)), .val (.int (0 : Int32)), .val (.int j177), .unset, .unset, .unset, .unset]) at_279 rfl rfl ?_
          have J281_180 : ∀ (T : State) (j180 : Int32), j180 = ((FG v7 v12)) → Here p l e room_1 s m ([(.long sl), (.int pp), (.int qq), (.int rr), (.int sh)] : List Value).toArray below meth c Z a0 tables_1 x.cls x.name code 24 (some .boolean) n0 T [(b11, .inr (.int, [(.int v12), (.int v13), (.int v14)])), (b4, .inr (.int, [(.int v5), (.int v6), (.int v7), (.int v8), (.int v9), (.int v10)]))] 2 9 → Go p e below (EndS below s n0 Z 16 128 (fun v _ => v = some (.int 1))) (T.setTop (mkF m 298 #[.val (.long sl), .second, .val (.int pp), .val (.int qq), .val (.int rr), .val (.int sh), .val (.int (1 : Int32)), .val (.int (2 : Int32)), .val (.ref b4), .val (.ref b11), .val (.int v12), .val (.int v13), .val (.int v14), .val (.int v7), .val (.int v8), .val (.int v9), .val (.int j172), .val (.int (0 : Int32)), .val (.int (0 : Int32)), .val (.int j177), .unset, .unset, .unset, .unset] [(.int j180)])) := by
           intro T j180 ej180 A
           refine A.istore (q := 300) (l' := #[.val (.long sl), .second, .val (.int pp), .val (.int qq), .val (.int rr), .val (.int sh), .val (.int (1 : Int32)), .val (.int (2 : Int32)), .val (.ref b4), .val (.ref b11), .val (.int v12), .val (.int v13), .val (.int v14), .val (.int v7), .val (.int v8), .val (.int v9), .val (.int j172), .val (.int (0 : Int32)), .val (.int (0 : Int32)), .val (.int j177), .val (.int j180), .unset, .unset, .unset]) at_298 rfl rfl ?_
           have J300_181 : ∀ (T : State), Here p l e room_1 s m ([(.long sl), (.int pp), (.int qq), (.int rr), (.int sh)] : List Value).toArray below meth c Z a0 tables_1 x.cls x.name code 24 (some .boolean) n0 T [(b11, .inr (.int, [(.int v12), (.int v13), (.int v14)])), (b4, .inr (.int, [(.int v5), (.int v6), (.int v7), (.int v8), (.int v9), (.int v10)]))] 2 9 → Go p e below (EndS below s n0 Z 16 128 (fun v _ => v = some (.int 1))) (T.setTop (mkF m 323 #[.val (.long sl), .second, .val (.int pp), .val (.int qq), .val (.int rr), .val (.int sh), .val (.int (1 : Int32)), .val (.int (2 : Int32)), .val (.ref b4), .val (.ref b11), .val (.int v12), .val (.int v13), .val (.int v14), .val (.int v7), .val (.int v8), .val (.int v9), .val (.int j172), .val (.int (0 : Int32)), .val (.int (0 : Int32)), .val (.int j177), .val (.int j180), .unset, .unset, .unset] [(.int v13)])) := by
            intro T  A
            refine A.istore (q := 325) (l' := #[.val (.long sl), .second, .val (.int pp), .val (.int qq), .val (.int rr), .val (.int sh), .val (.int (1 : Int32)), .val (.int (2 : Int32)), .val (.ref b4), .val (.ref b11), .val (.int v12), .val (.int v13), .val (.int v14), .val (.int v7), .val (.int v8), .val (.int v9), .val (.int j172), .val (.int (0 : Int32)), .val (.int (0 : Int32)), .val (.int j177), .val (.int j180), .val (.int v13), .unset, .unset]) at_323 rfl rfl ?_
            have J325_182 : ∀ (T : State), Here p l e room_1 s m ([(.long sl), (.int pp), (.int qq), (.int rr), (.int sh)] : List Value).toArray below meth c Z a0 tables_1 x.cls x.name code 24 (some .boolean) n0 T [(b11, .inr (.int, [(.int v12), (.int v13), (.int v14)])), (b4, .inr (.int, [(.int v5), (.int v6), (.int v7), (.int v8), (.int v9), (.int v10)]))] 2 9 → Go p e below (EndS below s n0 Z 16 128 (fun v _ => v = some (.int 1))) (T.setTop (mkF m 353 #[.val (.long sl), .second, .val (.int pp), .val (.int qq), .val (.int rr), .val (.int sh), .val (.int (1 : Int32)), .val (.int (2 : Int32)), .val (.ref b4), .val (.ref b11), .val (.int v12), .val (.int v13), .val (.int v14), .val (.int v7), .val (.int v8), .val (.int v9), .val (.int j172), .val (.int (0 : Int32)), .val (.int (0 : Int32)), .val (.int j177), .val (.int j180), .val (.int v13), .unset, .unset] [(.int v14)])) := by
             intro T  A
             refine A.istore (q := 355) (l' := #[.val (.long sl), .second, .val (.int pp), .val (.int qq), .val (.int rr), .val (.int sh), .val (.int (1 : Int32)), .val (.int (2 : Int32)), .val (.ref b4), .val (.ref b11), .val (.int v12), .val (.int v13), .val (.int v14), .val (.int v7), .val (.int v8), .val (.int v9), .val (.int j172), .val (.int (0 : Int32)), .val (.int (0 : Int32)), .val (.int j177), .val (.int j180), .val (.int v13), .val (.int v14), .unset]) at_353 rfl rfl ?_
             refine A.aload (q := 357) at_355 rfl rfl rfl ?_
             refine A.iload (q := 359) at_357 rfl rfl ?_
             refine A.iload (q := 361) at_359 rfl rfl ?_
             refine A.aload (q := 363) at_361 rfl rfl rfl ?_
             have A := A.front (i := 1) (L' := [(b4, .inr (.int, [(.int v5), (.int v6), (.int v7), (.int v8), (.int v9), (.int v10)])), (b11, .inr (.int, [(.int v12), (.int v13), (.int v14)]))]) rfl rfl
             refine A.callS (q := 366) (w1 := 12) (w2 := 13) (w3 := 14) (w4 := 15) (as := [(.ref b4), (.int (2 : Int32)), (.int (1 : Int32)), (.ref b11)]) (st := []) (W := 0) at_363 rfl rfl rfl rfl rfl (rmI_10 l Z a0 hw n0 b4 b11 v5 v6 v7 v8 v9 v10 v12 v13 v14 _) (by decide) ⟨_, _, pd_1, rfl⟩ rfl rfl rfl (by decide) (by decide) (by decide) (by decide) ?_
             rintro _ T _ ⟨rfl, rfl⟩ A
             show Go p e below _ (T.setTop (mkF m 366 #[.val (.long sl), .second, .val (.int pp), .val (.int qq), .val (.int rr), .val (.int sh), .val (.int (1 : Int32)), .val (.int (2 : Int32)), .val (.ref b4), .val (.ref b11), .val (.int v12), .val (.int v13), .val (.int v14), .val (.int v7), .val (.int v8), .val (.int v9), .val (.int j172), .val (.int (0 : Int32)), .val (.int (0 : Int32)), .val (.int j177), .val (.int j180), .val (.int v13), .val (.int v14), .unset] [(.int (FI_10 v7 v12))]))
             obtain ⟨v184, e184⟩ : ∃ v : Int32, (FI_10 v7 v12) = v := ⟨_, rfl⟩
             rw [e184]
             refine A.istore (q := 368) (l' := #[.val (.long sl), .second, .val (.int pp), .val (.int qq), .val (.int rr), .val (.int sh), .val (.int (1 : Int32)), .val (.int (2 : Int32)), .val (.ref b4), .val (.ref b11), .val (.int v12), .val (.int v13), .val (.int v14), .val (.int v7), .val (.int v8), .val (.int v9), .val (.int j172), .val (.int (0 : Int32)), .val (.int (0 : Int32)), .val (.int j177), .val (.int j180), .val (.int v13), .val (.int v14), .val (.int v184)]) at_366 rfl rfl ?_
             refine A.iload (q := 370) at_368 rfl rfl ?_
             refine A.iload (q := 372) at_370 rfl rfl ?_
             refine A.icmpF (q := 375) at_372 rfl (teq (by subst e2 e5 e6 e7 e8 e9 e10 e12 e13 e14 ej172 ej177 ej180 e184; exact own_w1_0 _ 0 0 _ 0 0 : v184 = j177)).2 ?_
             refine A.aload (q := 377) at_375 rfl rfl rfl ?_
             refine A.iconst (q := 378) (v := (0 : Int32)) at_377 rfl (by decide) ?_
             refine A.iaload (q := 379) (i := 1) (v := (.int (if (v7 = (-1 : Int32)) ∨ (¬ (v7 = (-1 : Int32)) ∧ ¬ (v12 = (-1 : Int32)) ∧ v12 = v7) ∨ (¬ (v7 = (-1 : Int32)) ∧ v12 = (-1 : Int32)) then ((if v7 = (-1 : Int32) then v12 else (if v12 = (-1 : Int32) then v7 else v12))) else v12))) at_378 rfl rfl (by decide) rfl ?_
             refine A.iload (q := 381) at_379 rfl rfl ?_
             refine A.icmpF (q := 384) at_381 rfl (teq (by subst e2 e5 e6 e7 e8 e9 e10 e12 e13 e14 ej172 ej177 ej180 e184; exact own_w1_1 _ 0 0 _ 0 0 : (if (v7 = (-1 : Int32)) ∨ (¬ (v7 = (-1 : Int32)) ∧ ¬ (v12 = (-1 : Int32)) ∧ v12 = v7) ∨ (¬ (v7 = (-1 : Int32)) ∧ v12 = (-1 : Int32)) then ((if v7 = (-1 : Int32) then v12 else (if v12 = (-1 : Int32) then v7 else v12))) else v12) = j180)).2 ?_
             refine A.aload (q := 386) at_384 rfl rfl rfl ?_
             refine A.iconst (q := 387) (v := (1 : Int32)) at_386 rfl (by decide) ?_
             refine A.iaload (q := 388) (i := 1) (v := (.int v13)) at_387 rfl rfl (by decide) rfl ?_
             refine A.iload (q := 390) at_388 rfl rfl ?_
             refine A.icmpF (q := 393) at_390 rfl (teq rfl).2 ?_
             refine A.aload (q := 395) at_393 rfl rfl rfl ?_
             refine A.iconst (q := 396) (v := (2 : Int32)) at_395 rfl (by decide) ?_
             refine A.iaload (q := 397) (i := 1) (v := (.int v14)) at_396 rfl rfl (by decide) rfl ?_
             refine A.iload (q := 399) at_397 rfl rfl ?_
             refine A.icmpF (q := 402) at_399 rfl (teq rfl).2 ?_
             refine A.iconst (q := 403) (v := (1 : Int32)) at_402 rfl (by decide) ?_
             refine A.goto (r := 407) at_403 (by decide) ?_
             exact A.retZ (v := 1) at_407 (by decide) (by decide) (by decide) rfl
            refine A.iload (q := 327) at_325 rfl rfl ?_
            refine A.iconst (q := 328) (v := (2 : Int32)) at_327 rfl (by decide) ?_
            refine A.icmpT (r := 351) at_328 (by decide) (by decide) ?_
            refine A.iload (q := 353) at_351 rfl rfl ?_
            exact J325_182 T  A
           refine A.iload (q := 302) at_300 rfl rfl ?_
           refine A.iconst (q := 303) (v := (1 : Int32)) at_302 rfl (by decide) ?_
           refine A.icmpT (r := 321) at_303 (by decide) (by decide) ?_
           refine A.iload (q := 323) at_321 rfl rfl ?_
           exact J300_181 T  A
          refine A.iload (q := 283) at_281 rfl rfl ?_
          refine A.ifF (q := 286) at_283 rfl (by decide) ?_
          refine A.iload (q := 288) at_286 rfl rfl ?_
          refine A.iload (q := 290) at_288 rfl rfl ?_
          refine A.callS (q := 293) (w1 := 9) (w2 := 10) (w3 := 3) (w4 := 11) (as := [(.int v7), (.int v12)]) (st := []) (W := 0) at_290 rfl rfl rfl rfl rfl (rmG l Z a0 hw n0 v7 v12 _) (by decide) ⟨_, _, pd_3, rfl⟩ rfl rfl rfl (by decide) (by decide) (by decide) (by decide) ?_
          rintro _ T _ ⟨rfl, rfl⟩ A
          show Go p e below _ (T.setTop (mkF m 293 #[.val (.long sl), .second, .val (.int pp), .val (.int qq), .val (.int rr), .val (.int sh), .val (.int (1 : Int32)), .val (.int (2 : Int32)), .val (.ref b4), .val (.ref b11), .val (.int v12), .val (.int v13), .val (.int v14), .val (.int v7), .val (.int v8), .val (.int v9), .val (.int j172), .val (.int (0 : Int32)), .val (.int (0 : Int32)), .val (.int j177), .unset, .unset, .unset, .unset] [(.int (FG v7 v12))]))
          obtain ⟨v179, e179⟩ : ∃ v : Int32, (FG v7 v12) = v := ⟨_, rfl⟩
          rw [e179]
          refine A.goto (r := 298) at_293 (by decide) ?_
          exact J281_180 T _ (by simp only [e179]) A
         refine A.iload (q := 261) at_259 rfl rfl ?_
         refine A.if_ne (q := 264) (r := 278) at_261 rfl (by decide) (fun h176 => ?_) (fun h176 => ?_)
         · refine A.iconst (q := 279) (v := (0 : Int32)) at_278 rfl (by decide) ?_
           exact J259_177 T _ (by simp only [if_neg h176]) A
         · refine A.iload (q := 266) at_264 rfl rfl ?_
           refine A.ifF (q := 269) at_266 rfl (by decide) ?_
           refine A.iload (q := 271) at_269 rfl rfl ?_
           refine A.ifF (q := 274) at_271 rfl (by decide) ?_
           refine A.iconst (q := 275) (v := (1 : Int32)) at_274 rfl (by decide) ?_
           refine A.goto (r := 279) at_275 (by decide) ?_
           exact J259_177 T _ (by simp only [if_pos h176]) A
        refine A.iload (q := 238) at_236 rfl rfl ?_
        refine A.iconst (q := 239) (v := (2 : Int32)) at_238 rfl (by decide) ?_
        refine A.icmpT (r := 256) at_239 (by decide) (by decide) ?_
        refine A.iconst (q := 257) (v := (0 : Int32)) at_256 rfl (by decide) ?_
        exact J236_174 T  A
       refine A.iload (q := 215) at_213 rfl rfl ?_
       refine A.iconst (q := 216) (v := (1 : Int32)) at_215 rfl (by decide) ?_
       refine A.icmpT (r := 233) at_216 (by decide) (by decide) ?_
       refine A.iconst (q := 234) (v := (0 : Int32)) at_233 rfl (by decide) ?_
       exact J213_173 T  A
      refine A.iload (q := 193) at_191 rfl rfl ?_
      refine A.ifF (q := 196) at_193 rfl (by decide) ?_
      refine A.iload (q := 198) at_196 rfl rfl ?_
      refine A.iload (q := 200) at_198 rfl rfl ?_
      refine A.callS (q := 203) (w1 := 6) (w2 := 7) (w3 := 3) (w4 := 8) (as := [(.int v7), (.int v12)]) (st := []) (W := 0) at_200 rfl rfl rfl rfl rfl (rmC l Z a0 hw n0 v7 v12 _) (by decide) ⟨_, _, pd_2, rfl⟩ rfl rfl rfl (by decide) (by decide) (by decide) (by decide) ?_
      rintro _ T _ ⟨rfl, rfl⟩ A
      show Go p e below _ (T.setTop (mkF m 203 #[.val (.long sl), .second, .val (.int pp), .val (.int qq), .val (.int rr), .val (.int sh), .val (.int (1 : Int32)), .val (.int (2 : Int32)), .val (.ref b4), .val (.ref b11), .val (.int v12), .val (.int v13), .val (.int v14), .val (.int v7), .val (.int v8), .val (.int v9), .unset, .unset, .unset, .unset, .unset, .unset, .unset, .unset] [(.int (FC v7 v12))]))
      obtain ⟨v170, e170⟩ : ∃ v : Int32, (FC v7 v12) = v := ⟨_, rfl⟩
      rw [e170]
      refine A.if_eq (q := 206) (r := 210) at_203 rfl (by decide) (fun h171 => ?_) (fun h171 => ?_)
      · refine A.iconst (q := 211) (v := (0 : Int32)) at_210 rfl (by decide) ?_
        exact J191_172 T _ (by simp only [e170, if_pos h171]) A
      · refine A.iconst (q := 207) (v := (1 : Int32)) at_206 rfl (by decide) ?_
        refine A.goto (r := 211) at_207 (by decide) ?_
        exact J191_172 T _ (by simp only [e170, if_neg h171]) A
    · have J191_187 : ∀ (T : State) (j187 : Int32), j187 = (if ((FC v7 v12)) = (0 : Int32) then (0 : Int32) else (1 : Int32)) → Here p l e room_1 s m ([(.long sl), (.int pp), (.int qq), (.int rr), (.int sh)] : List Value).toArray below meth c Z a0 tables_1 x.cls x.name code 24 (some .boolean) n0 T [(b11, .inr (.int, [(.int v12), (.int v13), (.int v14)])), (b4, .inr (.int, [(.int v5), (.int v6), (.int v7), (.int v8), (.int v9), (.int v10)]))] 2 9 → Go p e below (EndS below s n0 Z 16 128 (fun v _ => v = some (.int 1))) (T.setTop (mkF m 211 #[.val (.long sl), .second, .val (.int pp), .val (.int qq), .val (.int rr), .val (.int sh), .val (.int (2 : Int32)), .val (.int (2 : Int32)), .val (.ref b4), .val (.ref b11), .val (.int v12), .val (.int v13), .val (.int v14), .val (.int v7), .val (.int v8), .val (.int v9), .unset, .unset, .unset, .unset, .unset, .unset, .unset, .unset] [(.int j187)])) := by
       intro T j187 ej187 A
       have z_j187 : nar .boolean j187 = j187 := by rw [ej187]; (repeat' split) <;> first | decide | assumption
       refine A.istore (q := 213) (l' := #[.val (.long sl), .second, .val (.int pp), .val (.int qq), .val (.int rr), .val (.int sh), .val (.int (2 : Int32)), .val (.int (2 : Int32)), .val (.ref b4), .val (.ref b11), .val (.int v12), .val (.int v13), .val (.int v14), .val (.int v7), .val (.int v8), .val (.int v9), .val (.int j187), .unset, .unset, .unset, .unset, .unset, .unset, .unset]) at_211 rfl rfl ?_
       have J213_191 : ∀ (T : State) (j191 : Int32), j191 = (if ((FC v8 v13)) = (0 : Int32) then (0 : Int32) else (1 : Int32)) → Here p l e room_1 s m ([(.long sl), (.int pp), (.int qq), (.int rr), (.int sh)] : List Value).toArray below meth c Z a0 tables_1 x.cls x.name code 24 (some .boolean) n0 T [(b11, .inr (.int, [(.int v12), (.int v13), (.int v14)])), (b4, .inr (.int, [(.int v5), (.int v6), (.int v7), (.int v8), (.int v9), (.int v10)]))] 2 9 → Go p e below (EndS below s n0 Z 16 128 (fun v _ => v = some (.int 1))) (T.setTop (mkF m 234 #[.val (.long sl), .second, .val (.int pp), .val (.int qq), .val (.int rr), .val (.int sh), .val (.int (2 : Int32)), .val (.int (2 : Int32)), .val (.ref b4), .val (.ref b11), .val (.int v12), .val (.int v13), .val (.int v14), .val (.int v7), .val (.int v8), .val (.int v9), .val (.int j187), .unset, .unset, .unset, .unset, .unset, .unset, .unset] [(.int j191)])) := by
        intro T j191 ej191 A
        have z_j191 : nar .boolean j191 = j191 := by rw [ej191]; (repeat' split) <;> first | decide | assumption
        refine A.istore (q := 236) (l' := #[.val (.long sl), .second, .val (.int pp), .val (.int qq), .val (.int rr), .val (.int sh), .val (.int (2 : Int32)), .val (.int (2 : Int32)), .val (.ref b4), .val (.ref b11), .val (.int v12), .val (.int v13), .val (.int v14), .val (.int v7), .val (.int v8), .val (.int v9), .val (.int j187), .val (.int j191), .unset, .unset, .unset, .unset, .unset, .unset]) at_234 rfl rfl ?_
        have J236_192 : ∀ (T : State), Here p l e room_1 s m ([(.long sl), (.int pp), (.int qq), (.int rr), (.int sh)] : List Value).toArray below meth c Z a0 tables_1 x.cls x.name code 24 (some .boolean) n0 T [(b11, .inr (.int, [(.int v12), (.int v13), (.int v14)])), (b4, .inr (.int, [(.int v5), (.int v6), (.int v7), (.int v8), (.int v9), (.int v10)]))] 2 9 → Go p e below (EndS below s n0 Z 16 128 (fun v _ => v = some (.int 1))) (T.setTop (mkF m 257 #[.val (.long sl), .second, .val (.int pp), .val (.int qq), .val (.int rr), .val (.int sh), .val (.int (2 : Int32)), .val (.int (2 : Int32)), .val (.ref b4), .val (.ref b11), .val (.int v12), .val (.int v13), .val (.int v14), .val (.int v7), .val (.int v8), .val (.int v9), .val (.int j187), .val (.int j191), .unset, .unset, .unset, .unset, .unset, .unset] [(.int (0 : Int32))])) := by
         intro T  A
         refine A.istore (q := 259) (l' := #[.val (.long sl), .second, .val (.int pp), .val (.int qq), .val (.int rr), .val (.int sh), .val (.int (2 : Int32)), .val (.int (2 : Int32)), .val (.ref b4), .val (.ref b11), .val (.int v12), .val (.int v13), .val (.int v14), .val (.int v7), .val (.int v8), .val (.int v9), .val (.int j187), .val (.int j191), .val (.int (0 : Int32)), .unset, .unset, .unset, .unset, .unset]) at_257 rfl rfl ?_
         have J259_196 : ∀ (T : State) (j196 : Int32), j196 = (if j187 = (0 : Int32) then (if j191 = (0 : Int32) then (1 : Int32) else (0 : Int32)) else (0 : Int32)) → Here p l e room_1 s m ([(.long sl), (.int pp), (.int qq), (.int rr), (.int sh)] : List Value).toArray below meth c Z a0 tables_1 x.cls x.name code 24 (some .boolean) n0 T [(b11, .inr (.int, [(.int v12), (.int v13), (.int v14)])), (b4, .inr (.int, [(.int v5), (.int v6), (.int v7), (.int v8), (.int v9), (.int v10)]))] 2 9 → Go p e below (EndS below s n0 Z 16 128 (fun v _ => v = some (.int 1))) (T.setTop (mkF m 279 #[.val (.long sl), .second, .val (.int pp), .val (.int qq), .val (.int rr), .val (.int sh), .val (.int (2 : Int32)), .val (.int (2 : Int32)), .val (.ref b4), .val (.ref b11), .val (.int v12), .val (.int v13), .val (.int v14), .val (.int v7), .val (.int v8), .val (.int v9), .val (.int j187), .val (.int j191), .val (.int (0 : Int32)), .unset, .unset, .unset, .unset, .unset] [(.int j196)])) := by
          intro T j196 ej196 A
          have z_j196 : nar .boolean j196 = j196 := by rw [ej196]; (repeat' split) <;> first | decide | assumption
          refine A.istore (q := 281) (l' := #[.val (.long sl), .second, .val (.int pp), .val (.int qq), .val (.int rr), .val (.int sh), .val (.int (2 : Int32)), .val (.int (2 : Int32)), .val (.ref b4), .val (.ref b11), .val (.int v12), .val (.int v13), .val (.int v14), .val (.int v7), .val (.int v8), .val (.int v9), .val (.int j187), .val (.int j191), .val (.int (0 : Int32)), .val (.int j196), .unset, .unset, .unset, .unset]) at_279 rfl rfl ?_
          have J281_199 : ∀ (T : State) (j199 : Int32), j199 = ((FG v7 v12)) → Here p l e room_1 s m ([(.long sl), (.int pp), (.int qq), (.int rr), (.int sh)] : List Value).toArray below meth c Z a0 tables_1 x.cls x.name code 24 (some .boolean) n0 T [(b11, .inr (.int, [(.int v12), (.int v13), (.int v14)])), (b4, .inr (.int, [(.int v5), (.int v6), (.int v7), (.int v8), (.int v9), (.int v10)]))] 2 9 → Go p e below (EndS below s n0 Z 16 128 (fun v _ => v = some (.int 1))) (T.setTop (mkF m 298 #[.val (.long sl), .second, .val (.int pp), .val (.int qq), .val (.int rr), .val (.int sh), .val (.int (2 : Int32)), .val (.int (2 : Int32)), .val (.ref b4), .val (.ref b11), .val (.int v12), .val (.int v13), .val (.int v14), .val (.int v7), .val (.int v8), .val (.int v9), .val (.int j187), .val (.int j191), .val (.int (0 : Int32)), .val (.int j196), .unset, .unset, .unset, .unset] [(.int j199)])) := by
           intro T j199 ej199 A
           refine A.istore (q := 300) (l' := #[.val (.long sl), .second, .val (.int pp), .val (.int qq), .val (.int rr), .val (.int sh), .val (.int (2 : Int32)), .val (.int (2 : Int32)), .val (.ref b4), .val (.ref b11), .val (.int v12), .val (.int v13), .val (.int v14), .val (.int v7), .val (.int v8), .val (.int v9), .val (.int j187), .val (.int j191), .val (.int (0 : Int32)), .val (.int j196), .val (.int j199), .unset, .unset, .unset]) at_298 rfl rfl ?_
           have J300_203 : ∀ (T : State) (j203 : Int32), j203 = (if j187 = (0 : Int32) then ((FG v8 v13)) else v13) → Here p l e room_1 s m ([(.long sl), (.int pp), (.int qq), (.int rr), (.int sh)] : List Value).toArray below meth c Z a0 tables_1 x.cls x.name code 24 (some .boolean) n0 T [(b11, .inr (.int, [(.int v12), (.int v13), (.int v14)])), (b4, .inr (.int, [(.int v5), (.int v6), (.int v7), (.int v8), (.int v9), (.int v10)]))] 2 9 → Go p e below (EndS below s n0 Z 16 128 (fun v _ => v = some (.int 1))) (T.setTop (mkF m 323 #[.val (.long sl), .second, .val (.int pp), .val (.int qq), .val (.int rr), .val (.int sh), .val (.int (2 : Int32)), .val (.int (2 : Int32)), .val (.ref b4), .val (.ref b11), .val (.int v12), .val (.int v13), .val (.int v14), .val (.int v7), .val (.int v8), .val (.int v9), .val (.int j187), .val (.int j191), .val (.int (0 : Int32)), .val (.int j196), .val (.int j199), .unset, .unset, .unset] [(.int j203)])) := by
            intro T j203 ej203 A
            refine A.istore (q := 325) (l' := #[.val (.long sl), .second, .val (.int pp), .val (.int qq), .val (.int rr), .val (.int sh), .val (.int (2 : Int32)), .val (.int (2 : Int32)), .val (.ref b4), .val (.ref b11), .val (.int v12), .val (.int v13), .val (.int v14), .val (.int v7), .val (.int v8), .val (.int v9), .val (.int j187), .val (.int j191), .val (.int (0 : Int32)), .val (.int j196), .val (.int j199), .val (.int j203), .unset, .unset]) at_323 rfl rfl ?_
            have J325_204 : ∀ (T : State), Here p l e room_1 s m ([(.long sl), (.int pp), (.int qq), (.int rr), (.int sh)] : List Value).toArray below meth c Z a0 tables_1 x.cls x.name code 24 (some .boolean) n0 T [(b11, .inr (.int, [(.int v12), (.int v13), (.int v14)])), (b4, .inr (.int, [(.int v5), (.int v6), (.int v7), (.int v8), (.int v9), (.int v10)]))] 2 9 → Go p e below (EndS below s n0 Z 16 128 (fun v _ => v = some (.int 1))) (T.setTop (mkF m 353 #[.val (.long sl), .second, .val (.int pp), .val (.int qq), .val (.int rr), .val (.int sh), .val (.int (2 : Int32)), .val (.int (2 : Int32)), .val (.ref b4), .val (.ref b11), .val (.int v12), .val (.int v13), .val (.int v14), .val (.int v7), .val (.int v8), .val (.int v9), .val (.int j187), .val (.int j191), .val (.int (0 : Int32)), .val (.int j196), .val (.int j199), .val (.int j203), .unset, .unset] [(.int v14)])) := by
             intro T  A
             refine A.istore (q := 355) (l' := #[.val (.long sl), .second, .val (.int pp), .val (.int qq), .val (.int rr), .val (.int sh), .val (.int (2 : Int32)), .val (.int (2 : Int32)), .val (.ref b4), .val (.ref b11), .val (.int v12), .val (.int v13), .val (.int v14), .val (.int v7), .val (.int v8), .val (.int v9), .val (.int j187), .val (.int j191), .val (.int (0 : Int32)), .val (.int j196), .val (.int j199), .val (.int j203), .val (.int v14), .unset]) at_353 rfl rfl ?_
             refine A.aload (q := 357) at_355 rfl rfl rfl ?_
             refine A.iload (q := 359) at_357 rfl rfl ?_
             refine A.iload (q := 361) at_359 rfl rfl ?_
             refine A.aload (q := 363) at_361 rfl rfl rfl ?_
             have A := A.front (i := 1) (L' := [(b4, .inr (.int, [(.int v5), (.int v6), (.int v7), (.int v8), (.int v9), (.int v10)])), (b11, .inr (.int, [(.int v12), (.int v13), (.int v14)]))]) rfl rfl
             refine A.callS (q := 366) (w1 := 12) (w2 := 13) (w3 := 14) (w4 := 15) (as := [(.ref b4), (.int (2 : Int32)), (.int (2 : Int32)), (.ref b11)]) (st := []) (W := 0) at_363 rfl rfl rfl rfl rfl (rmI_11 l Z a0 hw n0 b4 b11 v5 v6 v7 v8 v9 v10 v12 v13 v14 _) (by decide) ⟨_, _, pd_1, rfl⟩ rfl rfl rfl (by decide) (by decide) (by decide) (by decide) ?_
             rintro _ T _ ⟨rfl, rfl⟩ A
             show Go p e below _ (T.setTop (mkF m 366 #[.val (.long sl), .second, .val (.int pp), .val (.int qq), .val (.int rr), .val (.int sh), .val (.int (2 : Int32)), .val (.int (2 : Int32)), .val (.ref b4), .val (.ref b11), .val (.int v12), .val (.int v13), .val (.int v14), .val (.int v7), .val (.int v8), .val (.int v9), .val (.int j187), .val (.int j191), .val (.int (0 : Int32)), .val (.int j196), .val (.int j199), .val (.int j203), .val (.int v14), .unset] [(.int (FI_11 v7 v8 v12 v13))]))
             obtain ⟨v206, e206⟩ : ∃ v : Int32, (FI_11 v7 v8 v12 v13) = v := ⟨_, rfl⟩
             rw [e206]
             refine A.istore (q := 368) (l' := #[.val (.long sl), .second, .val (.int pp), .val (.int qq), .val (.int rr), .val (.int sh), .val (.int (2 : Int32)), .val (.int (2 : Int32)), .val (.ref b4), .val (.ref b11), .val (.int v12), .val (.int v13), .val (.int v14), .val (.int v7), .val (.int v8), .val (.int v9), .val (.int j187), .val (.int j191), .val (.int (0 : Int32)), .val (.int j196), .val (.int j199), .val (.int j203), .val (.int v14), .val (.int v206)]) at_366 rfl rfl ?_
             refine A.iload (q := 370) at_368 rfl rfl ?_
             refine A.iload (q := 372) at_370 rfl rfl ?_
             refine A.icmpF (q := 375) at_372 rfl (teq (by subst e2 e5 e6 e7 e8 e9 e10 e12 e13 e14 ej187 ej191 ej196 ej199 ej203 e206; exact own_w2_0 _ _ 0 _ _ 0 : v206 = j196)).2 ?_
             refine A.aload (q := 377) at_375 rfl rfl rfl ?_
             refine A.iconst (q := 378) (v := (0 : Int32)) at_377 rfl (by decide) ?_
             refine A.iaload (q := 379) (i := 1) (v := (.int (if (v7 = (-1 : Int32)) ∨ (¬ (v7 = (-1 : Int32)) ∧ ¬ (v12 = (-1 : Int32)) ∧ v12 = v7) ∨ (¬ (v7 = (-1 : Int32)) ∧ v12 = (-1 : Int32)) then ((if v7 = (-1 : Int32) then v12 else (if v12 = (-1 : Int32) then v7 else v12))) else v12))) at_378 rfl rfl (by decide) rfl ?_
             refine A.iload (q := 381) at_379 rfl rfl ?_
             refine A.icmpF (q := 384) at_381 rfl (teq (by subst e2 e5 e6 e7 e8 e9 e10 e12 e13 e14 ej187 ej191 ej196 ej199 ej203 e206; exact own_w2_1 _ 0 0 _ 0 0 : (if (v7 = (-1 : Int32)) ∨ (¬ (v7 = (-1 : Int32)) ∧ ¬ (v12 = (-1 : Int32)) ∧ v12 = v7) ∨ (¬ (v7 = (-1 : Int32)) ∧ v12 = (-1 : Int32)) then ((if v7 = (-1 : Int32) then v12 else (if v12 = (-1 : Int32) then v7 else v12))) else v12) = j199)).2 ?_
             refine A.aload (q := 386) at_384 rfl rfl rfl ?_
             refine A.iconst (q := 387) (v := (1 : Int32)) at_386 rfl (by decide) ?_
             refine A.iaload (q := 388) (i := 1) (v := (.int (if (v7 = (-1 : Int32)) ∨ (¬ (v7 = (-1 : Int32)) ∧ ¬ (v12 = (-1 : Int32)) ∧ v12 = v7) ∨ (¬ (v7 = (-1 : Int32)) ∧ v12 = (-1 : Int32)) then (if (v8 = (-1 : Int32)) ∨ (¬ (v8 = (-1 : Int32)) ∧ ¬ (v13 = (-1 : Int32)) ∧ v13 = v8) ∨ (¬ (v8 = (-1 : Int32)) ∧ v13 = (-1 : Int32)) then ((if v8 = (-1 : Int32) then v13 else (if v13 = (-1 : Int32) then v8 else v13))) else v13) else v13))) at_387 rfl rfl (by decide) rfl ?_
             refine A.iload (q := 390) at_388 rfl rfl ?_
             refine A.icmpF (q := 393) at_390 rfl (teq (by subst e2 e5 e6 e7 e8 e9 e10 e12 e13 e14 ej187 ej191 ej196 ej199 ej203 e206; exact own_w2_2 _ _ 0 _ _ 0 : (if (v7 = (-1 : Int32)) ∨ (¬ (v7 = (-1 : Int32)) ∧ ¬ (v12 = (-1 : Int32)) ∧ v12 = v7) ∨ (¬ (v7 = (-1 : Int32)) ∧ v12 = (-1 : Int32)) then (if (v8 = (-1 : Int32)) ∨ (¬ (v8 = (-1 : Int32)) ∧ ¬ (v13 = (-1 : Int32)) ∧ v13 = v8) ∨ (¬ (v8 = (-1 : Int32)) ∧ v13 = (-1 : Int32)) then ((if v8 = (-1 : Int32) then v13 else (if v13 = (-1 : Int32) then v8 else v13))) else v13) else v13) = j203)).2 ?_
             refine A.aload (q := 395) at_393 rfl rfl rfl ?_
             refine A.iconst (q := 396) (v := (2 : Int32)) at_395 rfl (by decide) ?_
             refine A.iaload (q := 397) (i := 1) (v := (.int v14)) at_396 rfl rfl (by decide) rfl ?_
             refine A.iload (q := 399) at_397 rfl rfl ?_
             refine A.icmpF (q := 402) at_399 rfl (teq rfl).2 ?_
             refine A.iconst (q := 403) (v := (1 : Int32)) at_402 rfl (by decide) ?_
             refine A.goto (r := 407) at_403 (by decide) ?_
             exact A.retZ (v := 1) at_407 (by decide) (by decide) (by decide) rfl
            refine A.iload (q := 327) at_325 rfl rfl ?_
            refine A.iconst (q := 328) (v := (2 : Int32)) at_327 rfl (by decide) ?_
            refine A.icmpT (r := 351) at_328 (by decide) (by decide) ?_
            refine A.iload (q := 353) at_351 rfl rfl ?_
            exact J325_204 T  A
           refine A.iload (q := 302) at_300 rfl rfl ?_
           refine A.iconst (q := 303) (v := (1 : Int32)) at_302 rfl (by decide) ?_
           refine A.icmpF (q := 306) at_303 rfl (by decide) ?_
           refine A.iload (q := 308) at_306 rfl rfl ?_
           refine A.if_ne (q := 311) (r := 321) at_308 rfl (by decide) (fun h201 => ?_) (fun h201 => ?_)
           · refine A.iload (q := 323) at_321 rfl rfl ?_
             exact J300_203 T _ (by simp only [if_neg h201]) A
           · refine A.iload (q := 313) at_311 rfl rfl ?_
             refine A.iload (q := 315) at_313 rfl rfl ?_
             refine A.callS (q := 318) (w1 := 9) (w2 := 10) (w3 := 3) (w4 := 11) (as := [(.int v8), (.int v13)]) (st := []) (W := 0) at_315 rfl rfl rfl rfl rfl (rmG l Z a0 hw n0 v8 v13 _) (by decide) ⟨_, _, pd_3, rfl⟩ rfl rfl rfl (by decide) (by decide) (by decide) (by decide) ?_
             rintro _ T _ ⟨rfl, rfl⟩ A
             show Go p e below _ (T.setTop (mkF m 318 #[.val (.long sl), .second, .val (.int pp), .val (.int qq), .val (.int rr), .val (.int sh), .val (.int (2 : Int32)), .val (.int (2 : Int32)), .val (.ref b4), .val (.ref b11), .val (.int v12), .val (.int v13), .val (.int v14), .val (.int v7), .val (.int v8), .val (.int v9), .val (.int j187), .val (.int j191), .val (.int (0 : Int32)), .val (.int j196), .val (.int j199), .unset, .unset, .unset] [(.int (FG v8 v13))]))
             obtain ⟨v202, e202⟩ : ∃ v : Int32, (FG v8 v13) = v := ⟨_, rfl⟩
             rw [e202]
             refine A.goto (r := 323) at_318 (by decide) ?_
             exact J300_203 T _ (by simp only [e202, if_pos h201]) A
          refine A.iload (q := 283) at_281 rfl rfl ?_
          refine A.ifF (q := 286) at_283 rfl (by decide) ?_
          refine A.iload (q := 288) at_286 rfl rfl ?_
          refine A.iload (q := 290) at_288 rfl rfl ?_
          refine A.callS (q := 293) (w1 := 9) (w2 := 10) (w3 := 3) (w4 := 11) (as := [(.int v7), (.int v12)]) (st := []) (W := 0) at_290 rfl rfl rfl rfl rfl (rmG l Z a0 hw n0 v7 v12 _) (by decide) ⟨_, _, pd_3, rfl⟩ rfl rfl rfl (by decide) (by decide) (by decide) (by decide) ?_
          rintro _ T _ ⟨rfl, rfl⟩ A
          show Go p e below _ (T.setTop (mkF m 293 #[.val (.long sl), .second, .val (.int pp), .val (.int qq), .val (.int rr), .val (.int sh), .val (.int (2 : Int32)), .val (.int (2 : Int32)), .val (.ref b4), .val (.ref b11), .val (.int v12), .val (.int v13), .val (.int v14), .val (.int v7), .val (.int v8), .val (.int v9), .val (.int j187), .val (.int j191), .val (.int (0 : Int32)), .val (.int j196), .unset, .unset, .unset, .unset] [(.int (FG v7 v12))]))
          obtain ⟨v198, e198⟩ : ∃ v : Int32, (FG v7 v12) = v := ⟨_, rfl⟩
          rw [e198]
          refine A.goto (r := 298) at_293 (by decide) ?_
          exact J281_199 T _ (by simp only [e198]) A
         refine A.iload (q := 261) at_259 rfl rfl ?_
         refine A.if_ne (q := 264) (r := 278) at_261 rfl (by decide) (fun h194 => ?_) (fun h194 => ?_)
         · refine A.iconst (q := 279) (v := (0 : Int32)) at_278 rfl (by decide) ?_
           exact J259_196 T _ (by simp only [if_neg h194]) A
         · refine A.iload (q := 266) at_264 rfl rfl ?_
           refine A.if_ne (q := 269) (r := 278) at_266 rfl (by decide) (fun h195 => ?_) (fun h195 => ?_)
           · refine A.iconst (q := 279) (v := (0 : Int32)) at_278 rfl (by decide) ?_
             exact J259_196 T _ (by simp only [if_neg h195, if_pos h194]) A
           · refine A.iload (q := 271) at_269 rfl rfl ?_
             refine A.ifF (q := 274) at_271 rfl (by decide) ?_
             refine A.iconst (q := 275) (v := (1 : Int32)) at_274 rfl (by decide) ?_
             refine A.goto (r := 279) at_275 (by decide) ?_
             exact J259_196 T _ (by simp only [if_pos h194, if_pos h195]) A
        refine A.iload (q := 238) at_236 rfl rfl ?_
        refine A.iconst (q := 239) (v := (2 : Int32)) at_238 rfl (by decide) ?_
        refine A.icmpT (r := 256) at_239 (by decide) (by decide) ?_
        refine A.iconst (q := 257) (v := (0 : Int32)) at_256 rfl (by decide) ?_
        exact J236_192 T  A
       refine A.iload (q := 215) at_213 rfl rfl ?_
       refine A.iconst (q := 216) (v := (1 : Int32)) at_215 rfl (by decide) ?_
       refine A.icmpF (q := 219) at_216 rfl (by decide) ?_
       refine A.iload (q := 221) at_219 rfl rfl ?_
       refine A.iload (q := 223) at_221 rfl rfl ?_
       refine A.callS (q := 226) (w1 := 6) (w2 := 7) (w3 := 3) (w4 := 8) (as := [(.int v8), (.int v13)]) (st := []) (W := 0) at_223 rfl rfl rfl rfl rfl (rmC l Z a0 hw n0 v8 v13 _) (by decide) ⟨_, _, pd_2, rfl⟩ rfl rfl rfl (by decide) (by decide) (by decide) (by decide) ?_
       rintro _ T _ ⟨rfl, rfl⟩ A
       show Go p e below _ (T.setTop (mkF m 226 #[.val (.long sl), .second, .val (.int pp), .val (.int qq), .val (.int rr), .val (.int sh), .val (.int (2 : Int32)), .val (.int (2 : Int32)), .val (.ref b4), .val (.ref b11), .val (.int v12), .val (.int v13), .val (.int v14), .val (.int v7), .val (.int v8), .val (.int v9), .val (.int j187), .unset, .unset, .unset, .unset, .unset, .unset, .unset] [(.int (FC v8 v13))]))
       obtain ⟨v189, e189⟩ : ∃ v : Int32, (FC v8 v13) = v := ⟨_, rfl⟩
       rw [e189]
       refine A.if_eq (q := 229) (r := 233) at_226 rfl (by decide) (fun h190 => ?_) (fun h190 => ?_)
       · refine A.iconst (q := 234) (v := (0 : Int32)) at_233 rfl (by decide) ?_
         exact J213_191 T _ (by simp only [e189, if_pos h190]) A
       · refine A.iconst (q := 230) (v := (1 : Int32)) at_229 rfl (by decide) ?_
         refine A.goto (r := 234) at_230 (by decide) ?_
         exact J213_191 T _ (by simp only [e189, if_neg h190]) A
      refine A.iload (q := 193) at_191 rfl rfl ?_
      refine A.ifF (q := 196) at_193 rfl (by decide) ?_
      refine A.iload (q := 198) at_196 rfl rfl ?_
      refine A.iload (q := 200) at_198 rfl rfl ?_
      refine A.callS (q := 203) (w1 := 6) (w2 := 7) (w3 := 3) (w4 := 8) (as := [(.int v7), (.int v12)]) (st := []) (W := 0) at_200 rfl rfl rfl rfl rfl (rmC l Z a0 hw n0 v7 v12 _) (by decide) ⟨_, _, pd_2, rfl⟩ rfl rfl rfl (by decide) (by decide) (by decide) (by decide) ?_
      rintro _ T _ ⟨rfl, rfl⟩ A
      show Go p e below _ (T.setTop (mkF m 203 #[.val (.long sl), .second, .val (.int pp), .val (.int qq), .val (.int rr), .val (.int sh), .val (.int (2 : Int32)), .val (.int (2 : Int32)), .val (.ref b4), .val (.ref b11), .val (.int v12), .val (.int v13), .val (.int v14), .val (.int v7), .val (.int v8), .val (.int v9), .unset, .unset, .unset, .unset, .unset, .unset, .unset, .unset] [(.int (FC v7 v12))]))
      obtain ⟨v185, e185⟩ : ∃ v : Int32, (FC v7 v12) = v := ⟨_, rfl⟩
      rw [e185]
      refine A.if_eq (q := 206) (r := 210) at_203 rfl (by decide) (fun h186 => ?_) (fun h186 => ?_)
      · refine A.iconst (q := 211) (v := (0 : Int32)) at_210 rfl (by decide) ?_
        exact J191_187 T _ (by simp only [e185, if_pos h186]) A
      · refine A.iconst (q := 207) (v := (1 : Int32)) at_206 rfl (by decide) ?_
        refine A.goto (r := 211) at_207 (by decide) ?_
        exact J191_187 T _ (by simp only [e185, if_neg h186]) A
    · have J191_209 : ∀ (T : State) (j209 : Int32), j209 = (if ((FC v7 v12)) = (0 : Int32) then (0 : Int32) else (1 : Int32)) → Here p l e room_1 s m ([(.long sl), (.int pp), (.int qq), (.int rr), (.int sh)] : List Value).toArray below meth c Z a0 tables_1 x.cls x.name code 24 (some .boolean) n0 T [(b11, .inr (.int, [(.int v12), (.int v13), (.int v14)])), (b4, .inr (.int, [(.int v5), (.int v6), (.int v7), (.int v8), (.int v9), (.int v10)]))] 2 9 → Go p e below (EndS below s n0 Z 16 128 (fun v _ => v = some (.int 1))) (T.setTop (mkF m 211 #[.val (.long sl), .second, .val (.int pp), .val (.int qq), .val (.int rr), .val (.int sh), .val (.int (3 : Int32)), .val (.int (2 : Int32)), .val (.ref b4), .val (.ref b11), .val (.int v12), .val (.int v13), .val (.int v14), .val (.int v7), .val (.int v8), .val (.int v9), .unset, .unset, .unset, .unset, .unset, .unset, .unset, .unset] [(.int j209)])) := by
       intro T j209 ej209 A
       have z_j209 : nar .boolean j209 = j209 := by rw [ej209]; (repeat' split) <;> first | decide | assumption
       refine A.istore (q := 213) (l' := #[.val (.long sl), .second, .val (.int pp), .val (.int qq), .val (.int rr), .val (.int sh), .val (.int (3 : Int32)), .val (.int (2 : Int32)), .val (.ref b4), .val (.ref b11), .val (.int v12), .val (.int v13), .val (.int v14), .val (.int v7), .val (.int v8), .val (.int v9), .val (.int j209), .unset, .unset, .unset, .unset, .unset, .unset, .unset]) at_211 rfl rfl ?_
       have J213_213 : ∀ (T : State) (j213 : Int32), j213 = (if ((FC v8 v13)) = (0 : Int32) then (0 : Int32) else (1 : Int32)) → Here p l e room_1 s m ([(.long sl), (.int pp), (.int qq), (.int rr), (.int sh)] : List Value).toArray below meth c Z a0 tables_1 x.cls x.name code 24 (some .boolean) n0 T [(b11, .inr (.int, [(.int v12), (.int v13), (.int v14)])), (b4, .inr (.int, [(.int v5), (.int v6), (.int v7), (.int v8), (.int v9), (.int v10)]))] 2 9 → Go p e below (EndS below s n0 Z 16 128 (fun v _ => v = some (.int 1))) (T.setTop (mkF m 234 #[.val (.long sl), .second, .val (.int pp), .val (.int qq), .val (.int rr), .val (.int sh), .val (.int (3 : Int32)), .val (.int (2 : Int32)), .val (.ref b4), .val (.ref b11), .val (.int v12), .val (.int v13), .val (.int v14), .val (.int v7), .val (.int v8), .val (.int v9), .val (.int j209), .unset, .unset, .unset, .unset, .unset, .unset, .unset] [(.int j213)])) := by
        intro T j213 ej213 A
        have z_j213 : nar .boolean j213 = j213 := by rw [ej213]; (repeat' split) <;> first | decide | assumption
        refine A.istore (q := 236) (l' := #[.val (.long sl), .second, .val (.int pp), .val (.int qq), .val (.int rr), .val (.int sh), .val (.int (3 : Int32)), .val (.int (2 : Int32)), .val (.ref b4), .val (.ref b11), .val (.int v12), .val (.int v13), .val (.int v14), .val (.int v7), .val (.int v8), .val (.int v9), .val (.int j209), .val (.int j213), .unset, .unset, .unset, .unset, .unset, .unset]) at_234 rfl rfl ?_
        have J236_217 : ∀ (T : State) (j217 : Int32), j217 = (if ((FC v9 v14)) = (0 : Int32) then (0 : Int32) else (1 : Int32)) → Here p l e room_1 s m ([(.long sl), (.int pp), (.int qq), (.int rr), (.int sh)] : List Value).toArray below meth c Z a0 tables_1 x.cls x.name code 24 (some .boolean) n0 T [(b11, .inr (.int, [(.int v12), (.int v13), (.int v14)])), (b4, .inr (.int, [(.int v5), (.int v6), (.int v7), (.int v8), (.int v9), (.int v10)]))] 2 9 → Go p e below (EndS below s n0 Z 16 128 (fun v _ => v = some (.int 1))) (T.setTop (mkF m 257 #[.val (.long sl), .second, .val (.int pp), .val (.int qq), .val (.int rr), .val (.int sh), .val (.int (3 : Int32)), .val (.int (2 : Int32)), .val (.ref b4), .val (.ref b11), .val (.int v12), .val (.int v13), .val (.int v14), .val (.int v7), .val (.int v8), .val (.int v9), .val (.int j209), .val (.int j213), .unset, .unset, .unset, .unset, .unset, .unset] [(.int j217)])) := by
         intro T j217 ej217 A
         have z_j217 : nar .boolean j217 = j217 := by rw [ej217]; (repeat' split) <;> first | decide | assumption
         refine A.istore (q := 259) (l' := #[.val (.long sl), .second, .val (.int pp), .val (.int qq), .val (.int rr), .val (.int sh), .val (.int (3 : Int32)), .val (.int (2 : Int32)), .val (.ref b4), .val (.ref b11), .val (.int v12), .val (.int v13), .val (.int v14), .val (.int v7), .val (.int v8), .val (.int v9), .val (.int j209), .val (.int j213), .val (.int j217), .unset, .unset, .unset, .unset, .unset]) at_257 rfl rfl ?_
         have J259_222 : ∀ (T : State) (j222 : Int32), j222 = (if j209 = (0 : Int32) then (if j213 = (0 : Int32) then (if j217 = (0 : Int32) then (1 : Int32) else (0 : Int32)) else (0 : Int32)) else (0 : Int32)) → Here p l e room_1 s m ([(.long sl), (.int pp), (.int qq), (.int rr), (.int sh)] : List Value).toArray below meth c Z a0 tables_1 x.cls x.name code 24 (some .boolean) n0 T [(b11, .inr (.int, [(.int v12), (.int v13), (.int v14)])), (b4, .inr (.int, [(.int v5), (.int v6), (.int v7), (.int v8), (.int v9), (.int v10)]))] 2 9 → Go p e below (EndS below s n0 Z 16 128 (fun v _ => v = some (.int 1))) (T.setTop (mkF m 279 #[.val (.long sl), .second, .val (.int pp), .val (.int qq), .val (.int rr), .val (.int sh), .val (.int (3 : Int32)), .val (.int (2 : Int32)), .val (.ref b4), .val (.ref b11), .val (.int v12), .val (.int v13), .val (.int v14), .val (.int v7), .val (.int v8), .val (.int v9), .val (.int j209), .val (.int j213), .val (.int j217), .unset, .unset, .unset, .unset, .unset] [(.int j222)])) := by
          intro T j222 ej222 A
          have z_j222 : nar .boolean j222 = j222 := by rw [ej222]; (repeat' split) <;> first | decide | assumption
          refine A.istore (q := 281) (l' := #[.val (.long sl), .second, .val (.int pp), .val (.int qq), .val (.int rr), .val (.int sh), .val (.int (3 : Int32)), .val (.int (2 : Int32)), .val (.ref b4), .val (.ref b11), .val (.int v12), .val (.int v13), .val (.int v14), .val (.int v7), .val (.int v8), .val (.int v9), .val (.int j209), .val (.int j213), .val (.int j217), .val (.int j222), .unset, .unset, .unset, .unset]) at_279 rfl rfl ?_
          have J281_225 : ∀ (T : State) (j225 : Int32), j225 = ((FG v7 v12)) → Here p l e room_1 s m ([(.long sl), (.int pp), (.int qq), (.int rr), (.int sh)] : List Value).toArray below meth c Z a0 tables_1 x.cls x.name code 24 (some .boolean) n0 T [(b11, .inr (.int, [(.int v12), (.int v13), (.int v14)])), (b4, .inr (.int, [(.int v5), (.int v6), (.int v7), (.int v8), (.int v9), (.int v10)]))] 2 9 → Go p e below (EndS below s n0 Z 16 128 (fun v _ => v = some (.int 1))) (T.setTop (mkF m 298 #[.val (.long sl), .second, .val (.int pp), .val (.int qq), .val (.int rr), .val (.int sh), .val (.int (3 : Int32)), .val (.int (2 : Int32)), .val (.ref b4), .val (.ref b11), .val (.int v12), .val (.int v13), .val (.int v14), .val (.int v7), .val (.int v8), .val (.int v9), .val (.int j209), .val (.int j213), .val (.int j217), .val (.int j222), .unset, .unset, .unset, .unset] [(.int j225)])) := by
           intro T j225 ej225 A
           refine A.istore (q := 300) (l' := #[.val (.long sl), .second, .val (.int pp), .val (.int qq), .val (.int rr), .val (.int sh), .val (.int (3 : Int32)), .val (.int (2 : Int32)), .val (.ref b4), .val (.ref b11), .val (.int v12), .val (.int v13), .val (.int v14), .val (.int v7), .val (.int v8), .val (.int v9), .val (.int j209), .val (.int j213), .val (.int j217), .val (.int j222), .val (.int j225), .unset, .unset, .unset]) at_298 rfl rfl ?_
           have J300_229 : ∀ (T : State) (j229 : Int32), j229 = (if j209 = (0 : Int32) then ((FG v8 v13)) else v13) → Here p l e room_1 s m ([(.long sl), (.int pp), (.int qq), (.int rr), (.int sh)] : List Value).toArray below meth c Z a0 tables_1 x.cls x.name code 24 (some .boolean) n0 T [(b11, .inr (.int, [(.int v12), (.int v13), (.int v14)])), (b4, .inr (.int, [(.int v5), (.int v6), (.int v7), (.int v8), (.int v9), (.int v10)]))] 2 9 → Go p e below (EndS below s n0 Z 16 128 (fun v _ => v = some (.int 1))) (T.setTop (mkF m 323 #[.val (.long sl), .second, .val (.int pp), .val (.int qq), .val (.int rr), .val (.int sh), .val (.int (3 : Int32)), .val (.int (2 : Int32)), .val (.ref b4), .val (.ref b11), .val (.int v12), .val (.int v13), .val (.int v14), .val (.int v7), .val (.int v8), .val (.int v9), .val (.int j209), .val (.int j213), .val (.int j217), .val (.int j222), .val (.int j225), .unset, .unset, .unset] [(.int j229)])) := by
            intro T j229 ej229 A
            refine A.istore (q := 325) (l' := #[.val (.long sl), .second, .val (.int pp), .val (.int qq), .val (.int rr), .val (.int sh), .val (.int (3 : Int32)), .val (.int (2 : Int32)), .val (.ref b4), .val (.ref b11), .val (.int v12), .val (.int v13), .val (.int v14), .val (.int v7), .val (.int v8), .val (.int v9), .val (.int j209), .val (.int j213), .val (.int j217), .val (.int j222), .val (.int j225), .val (.int j229), .unset, .unset]) at_323 rfl rfl ?_
            have J325_234 : ∀ (T : State) (j234 : Int32), j234 = (if j209 = (0 : Int32) then (if j213 = (0 : Int32) then ((FG v9 v14)) else v14) else v14) → Here p l e room_1 s m ([(.long sl), (.int pp), (.int qq), (.int rr), (.int sh)] : List Value).toArray below meth c Z a0 tables_1 x.cls x.name code 24 (some .boolean) n0 T [(b11, .inr (.int, [(.int v12), (.int v13), (.int v14)])), (b4, .inr (.int, [(.int v5), (.int v6), (.int v7), (.int v8), (.int v9), (.int v10)]))] 2 9 → Go p e below (EndS below s n0 Z 16 128 (fun v _ => v = some (.int 1))) (T.setTop (mkF m 353 #[.val (.long sl), .second, .val (.int pp), .val (.int qq), .val (.int rr), .val (.int sh), .val (.int (3 : Int32)), .val (.int (2 : Int32)), .val (.ref b4), .val (.ref b11), .val (.int v12), .val (.int v13), .val (.int v14), .val (.int v7), .val (.int v8), .val (.int v9), .val (.int j209), .val (.int j213), .val (.int j217), .val (.int j222), .val (.int j225), .val (.int j229), .unset, .unset] [(.int j234)])) := by
             intro T j234 ej234 A
             refine A.istore (q := 355) (l' := #[.val (.long sl), .second, .val (.int pp), .val (.int qq), .val (.int rr), .val (.int sh), .val (.int (3 : Int32)), .val (.int (2 : Int32)), .val (.ref b4), .val (.ref b11), .val (.int v12), .val (.int v13), .val (.int v14), .val (.int v7), .val (.int v8), .val (.int v9), .val (.int j209), .val (.int j213), .val (.int j217), .val (.int j222), .val (.int j225), .val (.int j229), .val (.int j234), .unset]) at_353 rfl rfl ?_
             refine A.aload (q := 357) at_355 rfl rfl rfl ?_
             refine A.iload (q := 359) at_357 rfl rfl ?_
             refine A.iload (q := 361) at_359 rfl rfl ?_
             refine A.aload (q := 363) at_361 rfl rfl rfl ?_
             have A := A.front (i := 1) (L' := [(b4, .inr (.int, [(.int v5), (.int v6), (.int v7), (.int v8), (.int v9), (.int v10)])), (b11, .inr (.int, [(.int v12), (.int v13), (.int v14)]))]) rfl rfl
             refine A.callS (q := 366) (w1 := 12) (w2 := 13) (w3 := 14) (w4 := 15) (as := [(.ref b4), (.int (2 : Int32)), (.int (3 : Int32)), (.ref b11)]) (st := []) (W := 0) at_363 rfl rfl rfl rfl rfl (rmI_12 l Z a0 hw n0 b4 b11 v5 v6 v7 v8 v9 v10 v12 v13 v14 _) (by decide) ⟨_, _, pd_1, rfl⟩ rfl rfl rfl (by decide) (by decide) (by decide) (by decide) ?_
             rintro _ T _ ⟨rfl, rfl⟩ A
             show Go p e below _ (T.setTop (mkF m 366 #[.val (.long sl), .second, .val (.int pp), .val (.int qq), .val (.int rr), .val (.int sh), .val (.int (3 : Int32)), .val (.int (2 : Int32)), .val (.ref b4), .val (.ref b11), .val (.int v12), .val (.int v13), .val (.int v14), .val (.int v7), .val (.int v8), .val (.int v9), .val (.int j209), .val (.int j213), .val (.int j217), .val (.int j222), .val (.int j225), .val (.int j229), .val (.int j234), .unset] [(.int (FI_12 v7 v8 v9 v12 v13 v14))]))
             obtain ⟨v236, e236⟩ : ∃ v : Int32, (FI_12 v7 v8 v9 v12 v13 v14) = v := ⟨_, rfl⟩
             rw [e236]
             refine A.istore (q := 368) (l' := #[.val (.long sl), .second, .val (.int pp), .val (.int qq), .val (.int rr), .val (.int sh), .val (.int (3 : Int32)), .val (.int (2 : Int32)), .val (.ref b4), .val (.ref b11), .val (.int v12), .val (.int v13), .val (.int v14), .val (.int v7), .val (.int v8), .val (.int v9), .val (.int j209), .val (.int j213), .val (.int j217), .val (.int j222), .val (.int j225), .val (.int j229), .val (.int j234), .val (.int v236)]) at_366 rfl rfl ?_
             refine A.iload (q := 370) at_368 rfl rfl ?_
             refine A.iload (q := 372) at_370 rfl rfl ?_
             refine A.icmpF (q := 375) at_372 rfl (teq (by subst e2 e5 e6 e7 e8 e9 e10 e12 e13 e14 ej209 ej213 ej217 ej222 ej225 ej229 ej234 e236; exact own_w3_0 _ _ _ _ _ _ : v236 = j222)).2 ?_
             refine A.aload (q := 377) at_375 rfl rfl rfl ?_
             refine A.iconst (q := 378) (v := (0 : Int32)) at_377 rfl (by decide) ?_
             refine A.iaload (q := 379) (i := 1) (v := (.int (if (v7 = (-1 : Int32)) ∨ (¬ (v7 = (-1 : Int32)) ∧ ¬ (v12 = (-1 : Int32)) ∧ v12 = v7) ∨ (¬ (v7 = (-1 : Int32)) ∧ v12 = (-1 : Int32)) then ((if v7 = (-1 : Int32) then v12 else (if v12 = (-1 : Int32) then v7 else v12))) else v12))) at_378 rfl rfl (by decide) rfl ?_
             refine A.iload (q := 381) at_379 rfl rfl ?_
             refine A.icmpF (q := 384) at_381 rfl (teq (by subst e2 e5 e6 e7 e8 e9 e10 e12 e13 e14 ej209 ej213 ej217 ej222 ej225 ej229 ej234 e236; exact own_w3_1 _ 0 0 _ 0 0 : (if (v7 = (-1 : Int32)) ∨ (¬ (v7 = (-1 : Int32)) ∧ ¬ (v12 = (-1 : Int32)) ∧ v12 = v7) ∨ (¬ (v7 = (-1 : Int32)) ∧ v12 = (-1 : Int32)) then ((if v7 = (-1 : Int32) then v12 else (if v12 = (-1 : Int32) then v7 else v12))) else v12) = j225)).2 ?_
             refine A.aload (q := 386) at_384 rfl rfl rfl ?_
             refine A.iconst (q := 387) (v := (1 : Int32)) at_386 rfl (by decide) ?_
             refine A.iaload (q := 388) (i := 1) (v := (.int (if (v7 = (-1 : Int32)) ∨ (¬ (v7 = (-1 : Int32)) ∧ ¬ (v12 = (-1 : Int32)) ∧ v12 = v7) ∨ (¬ (v7 = (-1 : Int32)) ∧ v12 = (-1 : Int32)) then (if (v8 = (-1 : Int32)) ∨ (¬ (v8 = (-1 : Int32)) ∧ ¬ (v13 = (-1 : Int32)) ∧ v13 = v8) ∨ (¬ (v8 = (-1 : Int32)) ∧ v13 = (-1 : Int32)) then ((if v8 = (-1 : Int32) then v13 else (if v13 = (-1 : Int32) then v8 else v13))) else v13) else v13))) at_387 rfl rfl (by decide) rfl ?_
             refine A.iload (q := 390) at_388 rfl rfl ?_
             refine A.icmpF (q := 393) at_390 rfl (teq (by subst e2 e5 e6 e7 e8 e9 e10 e12 e13 e14 ej209 ej213 ej217 ej222 ej225 ej229 ej234 e236; exact own_w3_2 _ _ 0 _ _ 0 : (if (v7 = (-1 : Int32)) ∨ (¬ (v7 = (-1 : Int32)) ∧ ¬ (v12 = (-1 : Int32)) ∧ v12 = v7) ∨ (¬ (v7 = (-1 : Int32)) ∧ v12 = (-1 : Int32)) then (if (v8 = (-1 : Int32)) ∨ (¬ (v8 = (-1 : Int32)) ∧ ¬ (v13 = (-1 : Int32)) ∧ v13 = v8) ∨ (¬ (v8 = (-1 : Int32)) ∧ v13 = (-1 : Int32)) then ((if v8 = (-1 : Int32) then v13 else (if v13 = (-1 : Int32) then v8 else v13))) else v13) else v13) = j229)).2 ?_
             refine A.aload (q := 395) at_393 rfl rfl rfl ?_
             refine A.iconst (q := 396) (v := (2 : Int32)) at_395 rfl (by decide) ?_
             refine A.iaload (q := 397) (i := 1) (v := (.int (if (v7 = (-1 : Int32)) ∨ (¬ (v7 = (-1 : Int32)) ∧ ¬ (v12 = (-1 : Int32)) ∧ v12 = v7) ∨ (¬ (v7 = (-1 : Int32)) ∧ v12 = (-1 : Int32)) then (if (v8 = (-1 : Int32)) ∨ (¬ (v8 = (-1 : Int32)) ∧ ¬ (v13 = (-1 : Int32)) ∧ v13 = v8) ∨ (¬ (v8 = (-1 : Int32)) ∧ v13 = (-1 : Int32)) then (if (v9 = (-1 : Int32)) ∨ (¬ (v9 = (-1 : Int32)) ∧ ¬ (v14 = (-1 : Int32)) ∧ v14 = v9) ∨ (¬ (v9 = (-1 : Int32)) ∧ v14 = (-1 : Int32)) then ((if v9 = (-1 : Int32) then v14 else (if v14 = (-1 : Int32) then v9 else v14))) else v14) else v14) else v14))) at_396 rfl rfl (by decide) rfl ?_
             refine A.iload (q := 399) at_397 rfl rfl ?_
             refine A.icmpF (q := 402) at_399 rfl (teq (by subst e2 e5 e6 e7 e8 e9 e10 e12 e13 e14 ej209 ej213 ej217 ej222 ej225 ej229 ej234 e236; exact own_w3_3 _ _ _ _ _ _ : (if (v7 = (-1 : Int32)) ∨ (¬ (v7 = (-1 : Int32)) ∧ ¬ (v12 = (-1 : Int32)) ∧ v12 = v7) ∨ (¬ (v7 = (-1 : Int32)) ∧ v12 = (-1 : Int32)) then (if (v8 = (-1 : Int32)) ∨ (¬ (v8 = (-1 : Int32)) ∧ ¬ (v13 = (-1 : Int32)) ∧ v13 = v8) ∨ (¬ (v8 = (-1 : Int32)) ∧ v13 = (-1 : Int32)) then (if (v9 = (-1 : Int32)) ∨ (¬ (v9 = (-1 : Int32)) ∧ ¬ (v14 = (-1 : Int32)) ∧ v14 = v9) ∨ (¬ (v9 = (-1 : Int32)) ∧ v14 = (-1 : Int32)) then ((if v9 = (-1 : Int32) then v14 else (if v14 = (-1 : Int32) then v9 else v14))) else v14) else v14) else v14) = j234)).2 ?_
             refine A.iconst (q := 403) (v := (1 : Int32)) at_402 rfl (by decide) ?_
             refine A.goto (r := 407) at_403 (by decide) ?_
             exact A.retZ (v := 1) at_407 (by decide) (by decide) (by decide) rfl
            refine A.iload (q := 327) at_325 rfl rfl ?_
            refine A.iconst (q := 328) (v := (2 : Int32)) at_327 rfl (by decide) ?_
            refine A.icmpF (q := 331) at_328 rfl (by decide) ?_
            refine A.iload (q := 333) at_331 rfl rfl ?_
            refine A.if_ne (q := 336) (r := 351) at_333 rfl (by decide) (fun h231 => ?_) (fun h231 => ?_)
            · refine A.iload (q := 353) at_351 rfl rfl ?_
              exact J325_234 T _ (by simp only [if_neg h231]) A
            · refine A.iload (q := 338) at_336 rfl rfl ?_
              refine A.if_ne (q := 341) (r := 351) at_338 rfl (by decide) (fun h232 => ?_) (fun h232 => ?_)
              · refine A.iload (q := 353) at_351 rfl rfl ?_
                exact J325_234 T _ (by simp only [if_neg h232, if_pos h231]) A
              · refine A.iload (q := 343) at_341 rfl rfl ?_
                refine A.iload (q := 345) at_343 rfl rfl ?_
                refine A.callS (q := 348) (w1 := 9) (w2 := 10) (w3 := 3) (w4 := 11) (as := [(.int v9), (.int v14)]) (st := []) (W := 0) at_345 rfl rfl rfl rfl rfl (rmG l Z a0 hw n0 v9 v14 _) (by decide) ⟨_, _, pd_3, rfl⟩ rfl rfl rfl (by decide) (by decide) (by decide) (by decide) ?_
                rintro _ T _ ⟨rfl, rfl⟩ A
                show Go p e below _ (T.setTop (mkF m 348 #[.val (.long sl), .second, .val (.int pp), .val (.int qq), .val (.int rr), .val (.int sh), .val (.int (3 : Int32)), .val (.int (2 : Int32)), .val (.ref b4), .val (.ref b11), .val (.int v12), .val (.int v13), .val (.int v14), .val (.int v7), .val (.int v8), .val (.int v9), .val (.int j209), .val (.int j213), .val (.int j217), .val (.int j222), .val (.int j225), .val (.int j229), .unset, .unset] [(.int (FG v9 v14))]))
                obtain ⟨v233, e233⟩ : ∃ v : Int32, (FG v9 v14) = v := ⟨_, rfl⟩
                rw [e233]
                refine A.goto (r := 353) at_348 (by decide) ?_
                exact J325_234 T _ (by simp only [e233, if_pos h231, if_pos h232]) A
           refine A.iload (q := 302) at_300 rfl rfl ?_
           refine A.iconst (q := 303) (v := (1 : Int32)) at_302 rfl (by decide) ?_
           refine A.icmpF (q := 306) at_303 rfl (by decide) ?_
           refine A.iload (q := 308) at_306 rfl rfl ?_
           refine A.if_ne (q := 311) (r := 321) at_308 rfl (by decide) (fun h227 => ?_) (fun h227 => ?_)
           · refine A.iload (q := 323) at_321 rfl rfl ?_
             exact J300_229 T _ (by simp only [if_neg h227]) A
           · refine A.iload (q := 313) at_311 rfl rfl ?_
             refine A.iload (q := 315) at_313 rfl rfl ?_
             refine A.callS (q := 318) (w1 := 9) (w2 := 10) (w3 := 3) (w4 := 11) (as := [(.int v8), (.int v13)]) (st := []) (W := 0) at_315 rfl rfl rfl rfl rfl (rmG l Z a0 hw n0 v8 v13 _) (by decide) ⟨_, _, pd_3, rfl⟩ rfl rfl rfl (by decide) (by decide) (by decide) (by decide) ?_
             rintro _ T _ ⟨rfl, rfl⟩ A
             show Go p e below _ (T.setTop (mkF m 318 #[.val (.long sl), .second, .val (.int pp), .val (.int qq), .val (.int rr), .val (.int sh), .val (.int (3 : Int32)), .val (.int (2 : Int32)), .val (.ref b4), .val (.ref b11), .val (.int v12), .val (.int v13), .val (.int v14), .val (.int v7), .val (.int v8), .val (.int v9), .val (.int j209), .val (.int j213), .val (.int j217), .val (.int j222), .val (.int j225), .unset, .unset, .unset] [(.int (FG v8 v13))]))
             obtain ⟨v228, e228⟩ : ∃ v : Int32, (FG v8 v13) = v := ⟨_, rfl⟩
             rw [e228]
             refine A.goto (r := 323) at_318 (by decide) ?_
             exact J300_229 T _ (by simp only [e228, if_pos h227]) A
          refine A.iload (q := 283) at_281 rfl rfl ?_
          refine A.ifF (q := 286) at_283 rfl (by decide) ?_
          refine A.iload (q := 288) at_286 rfl rfl ?_
          refine A.iload (q := 290) at_288 rfl rfl ?_
          refine A.callS (q := 293) (w1 := 9) (w2 := 10) (w3 := 3) (w4 := 11) (as := [(.int v7), (.int v12)]) (st := []) (W := 0) at_290 rfl rfl rfl rfl rfl (rmG l Z a0 hw n0 v7 v12 _) (by decide) ⟨_, _, pd_3, rfl⟩ rfl rfl rfl (by decide) (by decide) (by decide) (by decide) ?_
          rintro _ T _ ⟨rfl, rfl⟩ A
          show Go p e below _ (T.setTop (mkF m 293 #[.val (.long sl), .second, .val (.int pp), .val (.int qq), .val (.int rr), .val (.int sh), .val (.int (3 : Int32)), .val (.int (2 : Int32)), .val (.ref b4), .val (.ref b11), .val (.int v12), .val (.int v13), .val (.int v14), .val (.int v7), .val (.int v8), .val (.int v9), .val (.int j209), .val (.int j213), .val (.int j217), .val (.int j222), .unset, .unset, .unset, .unset] [(.int (FG v7 v12))]))
          obtain ⟨v224, e224⟩ : ∃ v : Int32, (FG v7 v12) = v := ⟨_, rfl⟩
          rw [e224]
          refine A.goto (r := 298) at_293 (by decide) ?_
          exact J281_225 T _ (by simp only [e224]) A
         refine A.iload (q := 261) at_259 rfl rfl ?_
         refine A.if_ne (q := 264) (r := 278) at_261 rfl (by decide) (fun h219 => ?_) (fun h219 => ?_)
         · refine A.iconst (q := 279) (v := (0 : Int32)) at_278 rfl (by decide) ?_
           exact J259_222 T _ (by simp only [if_neg h219]) A
         · refine A.iload (q := 266) at_264 rfl rfl ?_
           refine A.if_ne (q := 269) (r := 278) at_266 rfl (by decide) (fun h220 => ?_) (fun h220 => ?_)
           · refine A.iconst (q := 279) (v := (0 : Int32)) at_278 rfl (by decide) ?_
             exact J259_222 T _ (by simp only [if_neg h220, if_pos h219]) A
           · refine A.iload (q := 271) at_269 rfl rfl ?_
             refine A.if_ne (q := 274) (r := 278) at_271 rfl (by decide) (fun h221 => ?_) (fun h221 => ?_)
             · refine A.iconst (q := 279) (v := (0 : Int32)) at_278 rfl (by decide) ?_
               exact J259_222 T _ (by simp only [if_neg h221, if_pos h219, if_pos h220]) A
             · refine A.iconst (q := 275) (v := (1 : Int32)) at_274 rfl (by decide) ?_
               refine A.goto (r := 279) at_275 (by decide) ?_
               exact J259_222 T _ (by simp only [if_pos h219, if_pos h220, if_pos h221]) A
        refine A.iload (q := 238) at_236 rfl rfl ?_
        refine A.iconst (q := 239) (v := (2 : Int32)) at_238 rfl (by decide) ?_
        refine A.icmpF (q := 242) at_239 rfl (by decide) ?_
        refine A.iload (q := 244) at_242 rfl rfl ?_
        refine A.iload (q := 246) at_244 rfl rfl ?_
        refine A.callS (q := 249) (w1 := 6) (w2 := 7) (w3 := 3) (w4 := 8) (as := [(.int v9), (.int v14)]) (st := []) (W := 0) at_246 rfl rfl rfl rfl rfl (rmC l Z a0 hw n0 v9 v14 _) (by decide) ⟨_, _, pd_2, rfl⟩ rfl rfl rfl (by decide) (by decide) (by decide) (by decide) ?_
        rintro _ T _ ⟨rfl, rfl⟩ A
        show Go p e below _ (T.setTop (mkF m 249 #[.val (.long sl), .second, .val (.int pp), .val (.int qq), .val (.int rr), .val (.int sh), .val (.int (3 : Int32)), .val (.int (2 : Int32)), .val (.ref b4), .val (.ref b11), .val (.int v12), .val (.int v13), .val (.int v14), .val (.int v7), .val (.int v8), .val (.int v9), .val (.int j209), .val (.int j213), .unset, .unset, .unset, .unset, .unset, .unset] [(.int (FC v9 v14))]))
        obtain ⟨v215, e215⟩ : ∃ v : Int32, (FC v9 v14) = v := ⟨_, rfl⟩
        rw [e215]
        refine A.if_eq (q := 252) (r := 256) at_249 rfl (by decide) (fun h216 => ?_) (fun h216 => ?_)
        · refine A.iconst (q := 257) (v := (0 : Int32)) at_256 rfl (by decide) ?_
          exact J236_217 T _ (by simp only [e215, if_pos h216]) A
        · refine A.iconst (q := 253) (v := (1 : Int32)) at_252 rfl (by decide) ?_
          refine A.goto (r := 257) at_253 (by decide) ?_
          exact J236_217 T _ (by simp only [e215, if_neg h216]) A
       refine A.iload (q := 215) at_213 rfl rfl ?_
       refine A.iconst (q := 216) (v := (1 : Int32)) at_215 rfl (by decide) ?_
       refine A.icmpF (q := 219) at_216 rfl (by decide) ?_
       refine A.iload (q := 221) at_219 rfl rfl ?_
       refine A.iload (q := 223) at_221 rfl rfl ?_
       refine A.callS (q := 226) (w1 := 6) (w2 := 7) (w3 := 3) (w4 := 8) (as := [(.int v8), (.int v13)]) (st := []) (W := 0) at_223 rfl rfl rfl rfl rfl (rmC l Z a0 hw n0 v8 v13 _) (by decide) ⟨_, _, pd_2, rfl⟩ rfl rfl rfl (by decide) (by decide) (by decide) (by decide) ?_
       rintro _ T _ ⟨rfl, rfl⟩ A
       show Go p e below _ (T.setTop (mkF m 226 #[.val (.long sl), .second, .val (.int pp), .val (.int qq), .val (.int rr), .val (.int sh), .val (.int (3 : Int32)), .val (.int (2 : Int32)), .val (.ref b4), .val (.ref b11), .val (.int v12), .val (.int v13), .val (.int v14), .val (.int v7), .val (.int v8), .val (.int v9), .val (.int j209), .unset, .unset, .unset, .unset, .unset, .unset, .unset] [(.int (FC v8 v13))]))
       obtain ⟨v211, e211⟩ : ∃ v : Int32, (FC v8 v13) = v := ⟨_, rfl⟩
       rw [e211]
       refine A.if_eq (q := 229) (r := 233) at_226 rfl (by decide) (fun h212 => ?_) (fun h212 => ?_)
       · refine A.iconst (q := 234) (v := (0 : Int32)) at_233 rfl (by decide) ?_
         exact J213_213 T _ (by simp only [e211, if_pos h212]) A
       · refine A.iconst (q := 230) (v := (1 : Int32)) at_229 rfl (by decide) ?_
         refine A.goto (r := 234) at_230 (by decide) ?_
         exact J213_213 T _ (by simp only [e211, if_neg h212]) A
      refine A.iload (q := 193) at_191 rfl rfl ?_
      refine A.ifF (q := 196) at_193 rfl (by decide) ?_
      refine A.iload (q := 198) at_196 rfl rfl ?_
      refine A.iload (q := 200) at_198 rfl rfl ?_
      refine A.callS (q := 203) (w1 := 6) (w2 := 7) (w3 := 3) (w4 := 8) (as := [(.int v7), (.int v12)]) (st := []) (W := 0) at_200 rfl rfl rfl rfl rfl (rmC l Z a0 hw n0 v7 v12 _) (by decide) ⟨_, _, pd_2, rfl⟩ rfl rfl rfl (by decide) (by decide) (by decide) (by decide) ?_
      rintro _ T _ ⟨rfl, rfl⟩ A
      show Go p e below _ (T.setTop (mkF m 203 #[.val (.long sl), .second, .val (.int pp), .val (.int qq), .val (.int rr), .val (.int sh), .val (.int (3 : Int32)), .val (.int (2 : Int32)), .val (.ref b4), .val (.ref b11), .val (.int v12), .val (.int v13), .val (.int v14), .val (.int v7), .val (.int v8), .val (.int v9), .unset, .unset, .unset, .unset, .unset, .unset, .unset, .unset] [(.int (FC v7 v12))]))
      obtain ⟨v207, e207⟩ : ∃ v : Int32, (FC v7 v12) = v := ⟨_, rfl⟩
      rw [e207]
      refine A.if_eq (q := 206) (r := 210) at_203 rfl (by decide) (fun h208 => ?_) (fun h208 => ?_)
      · refine A.iconst (q := 211) (v := (0 : Int32)) at_210 rfl (by decide) ?_
        exact J191_209 T _ (by simp only [e207, if_pos h208]) A
      · refine A.iconst (q := 207) (v := (1 : Int32)) at_206 rfl (by decide) ?_
        refine A.goto (r := 211) at_207 (by decide) ?_
        exact J191_209 T _ (by simp only [e207, if_neg h208]) A
  · refine A.aload (q := 168) at_166 rfl rfl rfl ?_
    refine A.iload (q := 170) at_168 rfl rfl ?_
    refine A.iaload (q := 171) (i := 1) (v := (.int v8)) at_170 rfl rfl (by decide) rfl ?_
    refine A.istore (q := 173) (l' := #[.val (.long sl), .second, .val (.int pp), .val (.int qq), .val (.int rr), .val (.int sh), .val (.int v1), .val (.int (3 : Int32)), .val (.ref b4), .val (.ref b11), .val (.int v12), .val (.int v13), .val (.int v14), .val (.int v8), .unset, .unset, .unset, .unset, .unset, .unset, .unset, .unset, .unset, .unset]) at_171 rfl rfl ?_
    refine A.aload (q := 175) at_173 rfl rfl rfl ?_
    refine A.iload (q := 177) at_175 rfl rfl ?_
    refine A.iconst (q := 178) (v := (1 : Int32)) at_177 rfl (by decide) ?_
    refine A.iadd (q := 179) (v := (4 : Int32)) at_178 rfl (by decide) ?_
    refine A.iaload (q := 180) (i := 1) (v := (.int v9)) at_179 rfl rfl (by decide) rfl ?_
    refine A.istore (q := 182) (l' := #[.val (.long sl), .second, .val (.int pp), .val (.int qq), .val (.int rr), .val (.int sh), .val (.int v1), .val (.int (3 : Int32)), .val (.ref b4), .val (.ref b11), .val (.int v12), .val (.int v13), .val (.int v14), .val (.int v8), .val (.int v9), .unset, .unset, .unset, .unset, .unset, .unset, .unset, .unset, .unset]) at_180 rfl rfl ?_
    refine A.aload (q := 184) at_182 rfl rfl rfl ?_
    refine A.iload (q := 186) at_184 rfl rfl ?_
    refine A.iconst (q := 187) (v := (2 : Int32)) at_186 rfl (by decide) ?_
    refine A.iadd (q := 188) (v := (5 : Int32)) at_187 rfl (by decide) ?_
    refine A.iaload (q := 189) (i := 1) (v := (.int v10)) at_188 rfl rfl (by decide) rfl ?_
    refine A.istore (q := 191) (l' := #[.val (.long sl), .second, .val (.int pp), .val (.int qq), .val (.int rr), .val (.int sh), .val (.int v1), .val (.int (3 : Int32)), .val (.ref b4), .val (.ref b11), .val (.int v12), .val (.int v13), .val (.int v14), .val (.int v8), .val (.int v9), .val (.int v10), .unset, .unset, .unset, .unset, .unset, .unset, .unset, .unset]) at_189 rfl rfl ?_
    have hn : v1 = 0 ∨ v1 = 1 ∨ v1 = 2 ∨ v1 = 3 := by subst e1 e2 e5 e6 e7 e8 e9 e10 e12 e13 e14; exact own_and3 _
    rcases hn with rfl | rfl | rfl | rfl
    · have J191_236 : ∀ (T : State), Here p l e room_1 s m ([(.long sl), (.int pp), (.int qq), (.int rr), (.int sh)] : List Value).toArray below meth c Z a0 tables_1 x.cls x.name code 24 (some .boolean) n0 T [(b11, .inr (.int, [(.int v12), (.int v13), (.int v14)])), (b4, .inr (.int, [(.int v5), (.int v6), (.int v7), (.int v8), (.int v9), (.int v10)]))] 2 9 → Go p e below (EndS below s n0 Z 16 128 (fun v _ => v = some (.int 1))) (T.setTop (mkF m 211 #[.val (.long sl), .second, .val (.int pp), .val (.int qq), .val (.int rr), .val (.int sh), .val (.int (0 : Int32)), .val (.int (3 : Int32)), .val (.ref b4), .val (.ref b11), .val (.int v12), .val (.int v13), .val (.int v14), .val (.int v8), .val (.int v9), .val (.int v10), .unset, .unset, .unset, .unset, .unset, .unset, .unset, .unset] [(.int (0 : Int32))])) := by
       intro T  A
       refine A.istore (q := 213) (l' := #[.val (.long sl), .second, .val (.int pp), .val (.int qq), .val (.int rr), .val (.int sh), .val (.int (0 : Int32)), .val (.int (3 : Int32)), .val (.ref b4), .val (.ref b11), .val (.int v12), .val (.int v13), .val (.int v14), .val (.int v8), .val (.int v9), .val (.int v10), .val (.int (0 : Int32)), .unset, .unset, .unset, .unset, .unset, .unset, .unset]) at_211 rfl rfl ?_
       have J213_237 : ∀ (T : State), Here p l e room_1 s m ([(.long sl), (.int pp), (.int qq), (.int rr), (.int sh)] : List Value).toArray below meth c Z a0 tables_1 x.cls x.name code 24 (some .boolean) n0 T [(b11, .inr (.int, [(.int v12), (.int v13), (.int v14)])), (b4, .inr (.int, [(.int v5), (.int v6), (.int v7), (.int v8), (.int v9), (.int v10)]))] 2 9 → Go p e below (EndS below s n0 Z 16 128 (fun v _ => v = some (.int 1))) (T.setTop (mkF m 234 #[.val (.long sl), .second, .val (.int pp), .val (.int qq), .val (.int rr), .val (.int sh), .val (.int (0 : Int32)), .val (.int (3 : Int32)), .val (.ref b4), .val (.ref b11), .val (.int v12), .val (.int v13), .val (.int v14), .val (.int v8), .val (.int v9), .val (.int v10), .val (.int (0 : Int32)), .unset, .unset, .unset, .unset, .unset, .unset, .unset] [(.int (0 : Int32))])) := by
        intro T  A
        refine A.istore (q := 236) (l' := #[.val (.long sl), .second, .val (.int pp), .val (.int qq), .val (.int rr), .val (.int sh), .val (.int (0 : Int32)), .val (.int (3 : Int32)), .val (.ref b4), .val (.ref b11), .val (.int v12), .val (.int v13), .val (.int v14), .val (.int v8), .val (.int v9), .val (.int v10), .val (.int (0 : Int32)), .val (.int (0 : Int32)), .unset, .unset, .unset, .unset, .unset, .unset]) at_234 rfl rfl ?_
        have J236_238 : ∀ (T : State), Here p l e room_1 s m ([(.long sl), (.int pp), (.int qq), (.int rr), (.int sh)] : List Value).toArray below meth c Z a0 tables_1 x.cls x.name code 24 (some .boolean) n0 T [(b11, .inr (.int, [(.int v12), (.int v13), (.int v14)])), (b4, .inr (.int, [(.int v5), (.int v6), (.int v7), (.int v8), (.int v9), (.int v10)]))] 2 9 → Go p e below (EndS below s n0 Z 16 128 (fun v _ => v = some (.int 1))) (T.setTop (mkF m 257 #[.val (.long sl), .second, .val (.int pp), .val (.int qq), .val (.int rr), .val (.int sh), .val (.int (0 : Int32)), .val (.int (3 : Int32)), .val (.ref b4), .val (.ref b11), .val (.int v12), .val (.int v13), .val (.int v14), .val (.int v8), .val (.int v9), .val (.int v10), .val (.int (0 : Int32)), .val (.int (0 : Int32)), .unset, .unset, .unset, .unset, .unset, .unset] [(.int (0 : Int32))])) := by
         intro T  A
         refine A.istore (q := 259) (l' := #[.val (.long sl), .second, .val (.int pp), .val (.int qq), .val (.int rr), .val (.int sh), .val (.int (0 : Int32)), .val (.int (3 : Int32)), .val (.ref b4), .val (.ref b11), .val (.int v12), .val (.int v13), .val (.int v14), .val (.int v8), .val (.int v9), .val (.int v10), .val (.int (0 : Int32)), .val (.int (0 : Int32)), .val (.int (0 : Int32)), .unset, .unset, .unset, .unset, .unset]) at_257 rfl rfl ?_
         have J259_239 : ∀ (T : State), Here p l e room_1 s m ([(.long sl), (.int pp), (.int qq), (.int rr), (.int sh)] : List Value).toArray below meth c Z a0 tables_1 x.cls x.name code 24 (some .boolean) n0 T [(b11, .inr (.int, [(.int v12), (.int v13), (.int v14)])), (b4, .inr (.int, [(.int v5), (.int v6), (.int v7), (.int v8), (.int v9), (.int v10)]))] 2 9 → Go p e below (EndS below s n0 Z 16 128 (fun v _ => v = some (.int 1))) (T.setTop (mkF m 279 #[.val (.long sl), .second, .val (.int pp), .val (.int qq), .val (.int rr), .val (.int sh), .val (.int (0 : Int32)), .val (.int (3 : Int32)), .val (.ref b4), .val (.ref b11), .val (.int v12), .val (.int v13), .val (.int v14), .val (.int v8), .val (.int v9), .val (.int v10), .val (.int (0 : Int32)), .val (.int (0 : Int32)), .val (.int (0 : Int32)), .unset, .unset, .unset, .unset, .unset] [(.int (1 : Int32))])) := by
          intro T  A
          refine A.istore (q := 281) (l' := #[.val (.long sl), .second, .val (.int pp), .val (.int qq), .val (.int rr), .val (.int sh), .val (.int (0 : Int32)), .val (.int (3 : Int32)), .val (.ref b4), .val (.ref b11), .val (.int v12), .val (.int v13), .val (.int v14), .val (.int v8), .val (.int v9), .val (.int v10), .val (.int (0 : Int32)), .val (.int (0 : Int32)), .val (.int (0 : Int32)), .val (.int (1 : Int32)), .unset, .unset, .unset, .unset]) at_279 rfl rfl ?_
          have J281_240 : ∀ (T : State), Here p l e room_1 s m ([(.long sl), (.int pp), (.int qq), (.int rr), (.int sh)] : List Value).toArray below meth c Z a0 tables_1 x.cls x.name code 24 (some .boolean) n0 T [(b11, .inr (.int, [(.int v12), (.int v13), (.int v14)])), (b4, .inr (.int, [(.int v5), (.int v6), (.int v7), (.int v8), (.int v9), (.int v10)]))] 2 9 → Go p e below (EndS below s n0 Z 16 128 (fun v _ => v = some (.int 1))) (T.setTop (mkF m 298 #[.val (.long sl), .second, .val (.int pp), .val (.int qq), .val (.int rr), .val (.int sh), .val (.int (0 : Int32)), .val (.int (3 : Int32)), .val (.ref b4), .val (.ref b11), .val (.int v12), .val (.int v13), .val (.int v14), .val (.int v8), .val (.int v9), .val (.int v10), .val (.int (0 : Int32)), .val (.int (0 : Int32)), .val (.int (0 : Int32)), .val (.int (1 : Int32)), .unset, .unset, .unset, .unset] [(.int v12)])) := by
           intro T  A
           refine A.istore (q := 300) (l' := #[.val (.long sl), .second, .val (.int pp), .val (.int qq), .val (.int rr), .val (.int sh), .val (.int (0 : Int32)), .val (.int (3 : Int32)), .val (.ref b4), .val (.ref b11), .val (.int v12), .val (.int v13), .val (.int v14), .val (.int v8), .val (.int v9), .val (.int v10), .val (.int (0 : Int32)), .val (.int (0 : Int32)), .val (.int (0 : Int32)), .val (.int (1 : Int32)), .val (.int v12), .unset, .unset, .unset]) at_298 rfl rfl ?_
           have J300_241 : ∀ (T : State), Here p l e room_1 s m ([(.long sl), (.int pp), (.int qq), (.int rr), (.int sh)] : List Value).toArray below meth c Z a0 tables_1 x.cls x.name code 24 (some .boolean) n0 T [(b11, .inr (.int, [(.int v12), (.int v13), (.int v14)])), (b4, .inr (.int, [(.int v5), (.int v6), (.int v7), (.int v8), (.int v9), (.int v10)]))] 2 9 → Go p e below (EndS below s n0 Z 16 128 (fun v _ => v = some (.int 1))) (T.setTop (mkF m 323 #[.val (.long sl), .second, .val (.int pp), .val (.int qq), .val (.int rr), .val (.int sh), .val (.int (0 : Int32)), .val (.int (3 : Int32)), .val (.ref b4), .val (.ref b11), .val (.int v12), .val (.int v13), .val (.int v14), .val (.int v8), .val (.int v9), .val (.int v10), .val (.int (0 : Int32)), .val (.int (0 : Int32)), .val (.int (0 : Int32)), .val (.int (1 : Int32)), .val (.int v12), .unset, .unset, .unset] [(.int v13)])) := by
            intro T  A
            refine A.istore (q := 325) (l' := #[.val (.long sl), .second, .val (.int pp), .val (.int qq), .val (.int rr), .val (.int sh), .val (.int (0 : Int32)), .val (.int (3 : Int32)), .val (.ref b4), .val (.ref b11), .val (.int v12), .val (.int v13), .val (.int v14), .val (.int v8), .val (.int v9), .val (.int v10), .val (.int (0 : Int32)), .val (.int (0 : Int32)), .val (.int (0 : Int32)), .val (.int (1 : Int32)), .val (.int v12), .val (.int v13), .unset, .unset]) at_323 rfl rfl ?_
            have J325_242 : ∀ (T : State), Here p l e room_1 s m ([(.long sl), (.int pp), (.int qq), (.int rr), (.int sh)] : List Value).toArray below meth c Z a0 tables_1 x.cls x.name code 24 (some .boolean) n0 T [(b11, .inr (.int, [(.int v12), (.int v13), (.int v14)])), (b4, .inr (.int, [(.int v5), (.int v6), (.int v7), (.int v8), (.int v9), (.int v10)]))] 2 9 → Go p e below (EndS below s n0 Z 16 128 (fun v _ => v = some (.int 1))) (T.setTop (mkF m 353 #[.val (.long sl), .second, .val (.int pp), .val (.int qq), .val (.int rr), .val (.int sh), .val (.int (0 : Int32)), .val (.int (3 : Int32)), .val (.ref b4), .val (.ref b11), .val (.int v12), .val (.int v13), .val (.int v14), .val (.int v8), .val (.int v9), .val (.int v10), .val (.int (0 : Int32)), .val (.int (0 : Int32)), .val (.int (0 : Int32)), .val (.int (1 : Int32)), .val (.int v12), .val (.int v13), .unset, .unset] [(.int v14)])) := by
             intro T  A
             refine A.istore (q := 355) (l' := #[.val (.long sl), .second, .val (.int pp), .val (.int qq), .val (.int rr), .val (.int sh), .val (.int (0 : Int32)), .val (.int (3 : Int32)), .val (.ref b4), .val (.ref b11), .val (.int v12), .val (.int v13), .val (.int v14), .val (.int v8), .val (.int v9), .val (.int v10), .val (.int (0 : Int32)), .val (.int (0 : Int32)), .val (.int (0 : Int32)), .val (.int (1 : Int32)), .val (.int v12), .val (.int v13), .val (.int v14), .unset]) at_353 rfl rfl ?_
             refine A.aload (q := 357) at_355 rfl rfl rfl ?_
             refine A.iload (q := 359) at_357 rfl rfl ?_
             refine A.iload (q := 361) at_359 rfl rfl ?_
             refine A.aload (q := 363) at_361 rfl rfl rfl ?_
             have A := A.front (i := 1) (L' := [(b4, .inr (.int, [(.int v5), (.int v6), (.int v7), (.int v8), (.int v9), (.int v10)])), (b11, .inr (.int, [(.int v12), (.int v13), (.int v14)]))]) rfl rfl
             refine A.callS (q := 366) (w1 := 12) (w2 := 13) (w3 := 14) (w4 := 15) (as := [(.ref b4), (.int (3 : Int32)), (.int (0 : Int32)), (.ref b11)]) (st := []) (W := 0) at_363 rfl rfl rfl rfl rfl (rmI_13 l Z a0 hw n0 b4 b11 v5 v6 v7 v8 v9 v10 v12 v13 v14 _) (by decide) ⟨_, _, pd_1, rfl⟩ rfl rfl rfl (by decide) (by decide) (by decide) (by decide) ?_
             rintro _ T _ ⟨rfl, rfl⟩ A
             show Go p e below _ (T.setTop (mkF m 366 #[.val (.long sl), .second, .val (.int pp), .val (.int qq), .val (.int rr), .val (.int sh), .val (.int (0 : Int32)), .val (.int (3 : Int32)), .val (.ref b4), .val (.ref b11), .val (.int v12), .val (.int v13), .val (.int v14), .val (.int v8), .val (.int v9), .val (.int v10), .val (.int (0 : Int32)), .val (.int (0 : Int32)), .val (.int (0 : Int32)), .val (.int (1 : Int32)), .val (.int v12), .val (.int v13), .val (.int v14), .unset] [(.int (1 : Int32))]))
             refine A.istore (q := 368) (l' := #[.val (.long sl), .second, .val (.int pp), .val (.int qq), .val (.int rr), .val (.int sh), .val (.int (0 : Int32)), .val (.int (3 : Int32)), .val (.ref b4), .val (.ref b11), .val (.int v12), .val (.int v13), .val (.int v14), .val (.int v8), .val (.int v9), .val (.int v10), .val (.int (0 : Int32)), .val (.int (0 : Int32)), .val (.int (0 : Int32)), .val (.int (1 : Int32)), .val (.int v12), .val (.int v13), .val (.int v14), .val (.int (1 : Int32))]) at_366 rfl rfl ?_
             refine A.iload (q := 370) at_368 rfl rfl ?_
             refine A.iload (q := 372) at_370 rfl rfl ?_
             refine A.icmpF (q := 375) at_372 rfl (by decide) ?_
             refine A.aload (q := 377) at_375 rfl rfl rfl ?_
             refine A.iconst (q := 378) (v := (0 : Int32)) at_377 rfl (by decide) ?_
             refine A.iaload (q := 379) (i := 1) (v := (.int v12)) at_378 rfl rfl (by decide) rfl ?_
             refine A.iload (q := 381) at_379 rfl rfl ?_
             refine A.icmpF (q := 384) at_381 rfl (teq rfl).2 ?_
             refine A.aload (q := 386) at_384 rfl rfl rfl ?_
             refine A.iconst (q := 387) (v := (1 : Int32)) at_386 rfl (by decide) ?_
             refine A.iaload (q := 388) (i := 1) (v := (.int v13)) at_387 rfl rfl (by decide) rfl ?_
             refine A.iload (q := 390) at_388 rfl rfl ?_
             refine A.icmpF (q := 393) at_390 rfl (teq rfl).2 ?_
             refine A.aload (q := 395) at_393 rfl rfl rfl ?_
             refine A.iconst (q := 396) (v := (2 : Int32)) at_395 rfl (by decide) ?_
             refine A.iaload (q := 397) (i := 1) (v := (.int v14)) at_396 rfl rfl (by decide) rfl ?_
             refine A.iload (q := 399) at_397 rfl rfl ?_
             refine A.icmpF (q := 402) at_399 rfl (teq rfl).2 ?_
             refine A.iconst (q := 403) (v := (1 : Int32)) at_402 rfl (by decide) ?_
             refine A.goto (r := 407) at_403 (by decide) ?_
             exact A.retZ (v := 1) at_407 (by decide) (by decide) (by decide) rfl
            refine A.iload (q := 327) at_325 rfl rfl ?_
            refine A.iconst (q := 328) (v := (2 : Int32)) at_327 rfl (by decide) ?_
            refine A.icmpT (r := 351) at_328 (by decide) (by decide) ?_
            refine A.iload (q := 353) at_351 rfl rfl ?_
            exact J325_242 T  A
           refine A.iload (q := 302) at_300 rfl rfl ?_
           refine A.iconst (q := 303) (v := (1 : Int32)) at_302 rfl (by decide) ?_
           refine A.icmpT (r := 321) at_303 (by decide) (by decide) ?_
           refine A.iload (q := 323) at_321 rfl rfl ?_
           exact J300_241 T  A
          refine A.iload (q := 283) at_281 rfl rfl ?_
          refine A.ifT (r := 296) at_283 (by decide) (by decide) ?_
          refine A.iload (q := 298) at_296 rfl rfl ?_
          exact J281_240 T  A
         refine A.iload (q := 261) at_259 rfl rfl ?_
         refine A.ifF (q := 264) at_261 rfl (by decide) ?_
         refine A.iload (q := 266) at_264 rfl rfl ?_
         refine A.ifF (q := 269) at_266 rfl (by decide) ?_
         refine A.iload (q := 271) at_269 rfl rfl ?_
         refine A.ifF (q := 274) at_271 rfl (by decide) ?_
         refine A.iconst (q := 275) (v := (1 : Int32)) at_274 rfl (by decide) ?_
         refine A.goto (r := 279) at_275 (by decide) ?_
         exact J259_239 T  A
        refine A.iload (q := 238) at_236 rfl rfl ?_
        refine A.iconst (q := 239) (v := (2 : Int32)) at_238 rfl (by decide) ?_
        refine A.icmpT (r := 256) at_239 (by decide) (by decide) ?_
        refine A.iconst (q := 257) (v := (0 : Int32)) at_256 rfl (by decide) ?_
        exact J236_238 T  A
       refine A.iload (q := 215) at_213 rfl rfl ?_
       refine A.iconst (q := 216) (v := (1 : Int32)) at_215 rfl (by decide) ?_
       refine A.icmpT (r := 233) at_216 (by decide) (by decide) ?_
       refine A.iconst (q := 234) (v := (0 : Int32)) at_233 rfl (by decide) ?_
       exact J213_237 T  A
      refine A.iload (q := 193) at_191 rfl rfl ?_
      refine A.ifT (r := 210) at_193 (by decide) (by decide) ?_
      refine A.iconst (q := 211) (v := (0 : Int32)) at_210 rfl (by decide) ?_
      exact J191_236 T  A
    · have J191_246 : ∀ (T : State) (j246 : Int32), j246 = (if ((FC v8 v12)) = (0 : Int32) then (0 : Int32) else (1 : Int32)) → Here p l e room_1 s m ([(.long sl), (.int pp), (.int qq), (.int rr), (.int sh)] : List Value).toArray below meth c Z a0 tables_1 x.cls x.name code 24 (some .boolean) n0 T [(b11, .inr (.int, [(.int v12), (.int v13), (.int v14)])), (b4, .inr (.int, [(.int v5), (.int v6), (.int v7), (.int v8), (.int v9), (.int v10)]))] 2 9 → Go p e below (EndS below s n0 Z 16 128 (fun v _ => v = some (.int 1))) (T.setTop (mkF m 211 #[.val (.long sl), .second, .val (.int pp), .val (.int qq), .val (.int rr), .val (.int sh), .val (.int (1 : Int32)), .val (.int (3 : Int32)), .val (.ref b4), .val (.ref b11), .val (.int v12), .val (.int v13), .val (.int v14), .val (.int v8), .val (.int v9), .val (.int v10), .unset, .unset, .unset, .unset, .unset, .unset, .unset, .unset] [(.int j246)])) := by
       intro T j246 ej246 A
       have z_j246 : nar .boolean j246 = j246 := by rw [ej246]; (repeat' split) <;> first | decide | assumption
       refine A.istore (q := 213) (l' := #[.val (.long sl), .second, .val (.int pp), .val (.int qq), .val (.int rr), .val (.int sh), .val (.int (1 : Int32)), .val (.int (3 : Int32)), .val (.ref b4), .val (.ref b11), .val (.int v12), .val (.int v13), .val (.int v14), .val (.int v8), .val (.int v9), .val (.int v10), .val (.int j246), .unset, .unset, .unset, .unset, .unset, .unset, .unset]) at_211 rfl rfl ?_
       have J213_247 : ∀ (T : State), Here p l e room_1 s m ([(.long sl), (.int pp), (.int qq), (.int rr), (.int sh)] : List Value).toArray below meth c Z a0 tables_1 x.cls x.name code 24 (some .boolean) n0 T [(b11, .inr (.int, [(.int v12), (.int v13), (.int v14)])), (b4, .inr (.int, [(.int v5), (.int v6), (.int v7), (.int v8), (.int v9), (.int v10)]))] 2 9 → Go p e below (EndS below s n0 Z 16 128 (fun v _ => v = some (.int 1))) (T.setTop (mkF m 234 #[.val (.long sl), .second, .val (.int pp), .val (.int qq), .val (.int rr), .val (.int sh), .val (.int (1 : Int32)), .val (.int (3 : Int32)), .val (.ref b4), .val (.ref b11), .val (.int v12), .val (.int v13), .val (.int v14), .val (.int v8), .val (.int v9), .val (.int v10), .val (.int j246), .unset, .unset, .unset, .unset, .unset, .unset, .unset] [(.int (0 : Int32))])) := by
        intro T  A
        refine A.istore (q := 236) (l' := #[.val (.long sl), .second, .val (.int pp), .val (.int qq), .val (.int rr), .val (.int sh), .val (.int (1 : Int32)), .val (.int (3 : Int32)), .val (.ref b4), .val (.ref b11), .val (.int v12), .val (.int v13), .val (.int v14), .val (.int v8), .val (.int v9), .val (.int v10), .val (.int j246), .val (.int (0 : Int32)), .unset, .unset, .unset, .unset, .unset, .unset]) at_234 rfl rfl ?_
        have J236_248 : ∀ (T : State), Here p l e room_1 s m ([(.long sl), (.int pp), (.int qq), (.int rr), (.int sh)] : List Value).toArray below meth c Z a0 tables_1 x.cls x.name code 24 (some .boolean) n0 T [(b11, .inr (.int, [(.int v12), (.int v13), (.int v14)])), (b4, .inr (.int, [(.int v5), (.int v6), (.int v7), (.int v8), (.int v9), (.int v10)]))] 2 9 → Go p e below (EndS below s n0 Z 16 128 (fun v _ => v = some (.int 1))) (T.setTop (mkF m 257 #[.val (.long sl), .second, .val (.int pp), .val (.int qq), .val (.int rr), .val (.int sh), .val (.int (1 : Int32)), .val (.int (3 : Int32)), .val (.ref b4), .val (.ref b11), .val (.int v12), .val (.int v13), .val (.int v14), .val (.int v8), .val (.int v9), .val (.int v10), .val (.int j246), .val (.int (0 : Int32)), .unset, .unset, .unset, .unset, .unset, .unset] [(.int (0 : Int32))])) := by
         intro T  A
         refine A.istore (q := 259) (l' := #[.val (.long sl), .second, .val (.int pp), .val (.int qq), .val (.int rr), .val (.int sh), .val (.int (1 : Int32)), .val (.int (3 : Int32)), .val (.ref b4), .val (.ref b11), .val (.int v12), .val (.int v13), .val (.int v14), .val (.int v8), .val (.int v9), .val (.int v10), .val (.int j246), .val (.int (0 : Int32)), .val (.int (0 : Int32)), .unset, .unset, .unset, .unset, .unset]) at_257 rfl rfl ?_
         have J259_251 : ∀ (T : State) (j251 : Int32), j251 = (if j246 = (0 : Int32) then (1 : Int32) else (0 : Int32)) → Here p l e room_1 s m ([(.long sl), (.int pp), (.int qq), (.int rr), (.int sh)] : List Value).toArray below meth c Z a0 tables_1 x.cls x.name code 24 (some .boolean) n0 T [(b11, .inr (.int, [(.int v12), (.int v13), (.int v14)])), (b4, .inr (.int, [(.int v5), (.int v6), (.int v7), (.int v8), (.int v9), (.int v10)]))] 2 9 → Go p e below (EndS below s n0 Z 16 128 (fun v _ => v = some (.int 1))) (T.setTop (mkF m 279 #[.val (.long sl), .second, .val (.int pp), .val (.int qq), .val (.int rr), .val (.int sh), .val (.int (1 : Int32)), .val (.int (3 : Int32)), .val (.ref b4), .val (.ref b11), .val (.int v12), .val (.int v13), .val (.int v14), .val (.int v8), .val (.int v9), .val (.int v10), .val (.int j246), .val (.int (0 : Int32)), .val (.int (0 : Int32)), .unset, .unset, .unset, .unset, .unset] [(.int j251)])) := by
          intro T j251 ej251 A
          have z_j251 : nar .boolean j251 = j251 := by rw [ej251]; (repeat' split) <;> first | decide | assumption
          refine A.istore (q := 281) (l' := #[.val (.long sl), .second, .val (.int pp), .val (.int qq), .val (.int rr), .val (.int sh), .val (.int (1 : Int32)), .val (.int (3 : Int32)), .val (.ref b4), .val (.ref b11), .val (.int v12), .val (.int v13), .val (.int v14), .val (.int v8), .val (.int v9), .val (.int v10), .val (.int j246), .val (.int (0 : Int32)), .val (.int (0 : Int32)), .val (.int j251), .unset, .unset, .unset, .unset]) at_279 rfl rfl ?_
          have J281_254 : ∀ (T : State) (j254 : Int32), j254 = ((FG v8 v12)) → Here p l e room_1 s m ([(.long sl), (.int pp), (.int qq), (.int rr), (.int sh)] : List Value).toArray below meth c Z a0 tables_1 x.cls x.name code 24 (some .boolean) n0 T [(b11, .inr (.int, [(.int v12), (.int v13), (.int v14)])), (b4, .inr (.int, [(.int v5), (.int v6), (.int v7), (.int v8), (.int v9), (.int v10)]))] 2 9 → Go p e below (EndS below s n0 Z 16 128 (fun v _ => v = some (.int 1))) (T.setTop (mkF m 298 #[.val (.long sl), .second, .val (.int pp), .val (.int qq), .val (.int rr), .val (.int sh), .val (.int (1 : Int32)), .val (.int (3 : Int32)), .val (.ref b4), .val (.ref b11), .val (.int v12), .val (.int v13), .val (.int v14), .val (.int v8), .val (.int v9), .val (.int v10), .val (.int j246), .val (.int (0 : Int32)), .val (.int (0 : Int32)), .val (.int j251), .unset, .unset, .unset, .unset] [(.int j254)])) := by
           intro T j254 ej254 A
           refine A.istore (q := 300) (l' := #[.val (.long sl), .second, .val (.int pp), .val (.int qq), .val (.int rr), .val (.int sh), .val (.int (1 : Int32)), .val (.int (3 : Int32)), .val (.ref b4), .val (.ref b11), .val (.int v12), .val (.int v13), .val (.int v14), .val (.int v8), .val (.int v9), .val (.int v10), .val (.int j246), .val (.int (0 : Int32)), .val (.int (0 : Int32)), .val (.int j251), .val (.int j254), .unset, .unset, .unset]) at_298 rfl rfl ?_
           have J300_255 : ∀ (T : State), Here p l e room_1 s m ([(.long sl), (.int pp), (.int qq), (.int rr), (.int sh)] : List Value).toArray below meth c Z a0 tables_1 x.cls x.name code 24 (some .boolean) n0 T [(b11, .inr (.int, [(.int v12), (.int v13), (.int v14)])), (b4, .inr (.int, [(.int v5), (.int v6), (.int v7), (.int v8), (.int v9), (.int v10)]))] 2 9 → Go p e below (EndS below s n0 Z 16 128 (fun v _ => v = some (.int 1))) (T.setTop (mkF m 323 #[.val (.long sl), .second, .val (.int pp), .val (.int qq), .val (.int rr), .val (.int sh), .val (.int (1 : Int32)), .val (.int (3 : Int32)), .val (.ref b4), .val (.ref b11), .val (.int v12), .val (.int v13), .val (.int v14), .val (.int v8), .val (.int v9), .val (.int v10), .val (.int j246), .val (.int (0 : Int32)), .val (.int (0 : Int32)), .val (.int j251), .val (.int j254), .unset, .unset, .unset] [(.int v13)])) := by
            intro T  A
            refine A.istore (q := 325) (l' := #[.val (.long sl), .second, .val (.int pp), .val (.int qq), .val (.int rr), .val (.int sh), .val (.int (1 : Int32)), .val (.int (3 : Int32)), .val (.ref b4), .val (.ref b11), .val (.int v12), .val (.int v13), .val (.int v14), .val (.int v8), .val (.int v9), .val (.int v10), .val (.int j246), .val (.int (0 : Int32)), .val (.int (0 : Int32)), .val (.int j251), .val (.int j254), .val (.int v13), .unset, .unset]) at_323 rfl rfl ?_
            have J325_256 : ∀ (T : State), Here p l e room_1 s m ([(.long sl), (.int pp), (.int qq), (.int rr), (.int sh)] : List Value).toArray below meth c Z a0 tables_1 x.cls x.name code 24 (some .boolean) n0 T [(b11, .inr (.int, [(.int v12), (.int v13), (.int v14)])), (b4, .inr (.int, [(.int v5), (.int v6), (.int v7), (.int v8), (.int v9), (.int v10)]))] 2 9 → Go p e below (EndS below s n0 Z 16 128 (fun v _ => v = some (.int 1))) (T.setTop (mkF m 353 #[.val (.long sl), .second, .val (.int pp), .val (.int qq), .val (.int rr), .val (.int sh), .val (.int (1 : Int32)), .val (.int (3 : Int32)), .val (.ref b4), .val (.ref b11), .val (.int v12), .val (.int v13), .val (.int v14), .val (.int v8), .val (.int v9), .val (.int v10), .val (.int j246), .val (.int (0 : Int32)), .val (.int (0 : Int32)), .val (.int j251), .val (.int j254), .val (.int v13), .unset, .unset] [(.int v14)])) := by
             intro T  A
             refine A.istore (q := 355) (l' := #[.val (.long sl), .second, .val (.int pp), .val (.int qq), .val (.int rr), .val (.int sh), .val (.int (1 : Int32)), .val (.int (3 : Int32)), .val (.ref b4), .val (.ref b11), .val (.int v12), .val (.int v13), .val (.int v14), .val (.int v8), .val (.int v9), .val (.int v10), .val (.int j246), .val (.int (0 : Int32)), .val (.int (0 : Int32)), .val (.int j251), .val (.int j254), .val (.int v13), .val (.int v14), .unset]) at_353 rfl rfl ?_
             refine A.aload (q := 357) at_355 rfl rfl rfl ?_
             refine A.iload (q := 359) at_357 rfl rfl ?_
             refine A.iload (q := 361) at_359 rfl rfl ?_
             refine A.aload (q := 363) at_361 rfl rfl rfl ?_
             have A := A.front (i := 1) (L' := [(b4, .inr (.int, [(.int v5), (.int v6), (.int v7), (.int v8), (.int v9), (.int v10)])), (b11, .inr (.int, [(.int v12), (.int v13), (.int v14)]))]) rfl rfl
             refine A.callS (q := 366) (w1 := 12) (w2 := 13) (w3 := 14) (w4 := 15) (as := [(.ref b4), (.int (3 : Int32)), (.int (1 : Int32)), (.ref b11)]) (st := []) (W := 0) at_363 rfl rfl rfl rfl rfl (rmI_14 l Z a0 hw n0 b4 b11 v5 v6 v7 v8 v9 v10 v12 v13 v14 _) (by decide) ⟨_, _, pd_1, rfl⟩ rfl rfl rfl (by decide) (by decide) (by decide) (by decide) ?_
             rintro _ T _ ⟨rfl, rfl⟩ A
             show Go p e below _ (T.setTop (mkF m 366 #[.val (.long sl), .second, .val (.int pp), .val (.int qq), .val (.int rr), .val (.int sh), .val (.int (1 : Int32)), .val (.int (3 : Int32)), .val (.ref b4), .val (.ref b11), .val (.int v12), .val (.int v13), .val (.int v14), .val (.int v8), .val (.int v9), .val (.int v10), .val (.int j246), .val (.int (0 : Int32)), .val (.int (0 : Int32)), .val (.int j251), .val (.int j254), .val (.int v13), .val (.int v14), .unset] [(.int (FI_14 v8 v12))]))
             obtain ⟨v258, e258⟩ : ∃ v : Int32, (FI_14 v8 v12) = v := ⟨_, rfl⟩
             rw [e258]
             refine A.istore (q := 368) (l' := #[.val (.long sl), .second, .val (.int pp), .val (.int qq), .val (.int rr), .val (.int sh), .val (.int (1 : Int32)), .val (.int (3 : Int32)), .val (.ref b4), .val (.ref b11), .val (.int v12), .val (.int v13), .val (.int v14), .val (.int v8), .val (.int v9), .val (.int v10), .val (.int j246), .val (.int (0 : Int32)), .val (.int (0 : Int32)), .val (.int j251), .val (.int j254), .val (.int v13), .val (.int v14), .val (.int v258)]) at_366 rfl rfl ?_
             refine A.iload (q := 370) at_368 rfl rfl ?_
             refine A.iload (q := 372) at_370 rfl rfl ?_
             refine A.icmpF (q := 375) at_372 rfl (teq (by subst e2 e5 e6 e7 e8 e9 e10 e12 e13 e14 ej246 ej251 ej254 e258; exact own_w1_0 _ 0 0 _ 0 0 : v258 = j251)).2 ?_
             refine A.aload (q := 377) at_375 rfl rfl rfl ?_
             refine A.iconst (q := 378) (v := (0 : Int32)) at_377 rfl (by decide) ?_
             refine A.iaload (q := 379) (i := 1) (v := (.int (if (v8 = (-1 : Int32)) ∨ (¬ (v8 = (-1 : Int32)) ∧ ¬ (v12 = (-1 : Int32)) ∧ v12 = v8) ∨ (¬ (v8 = (-1 : Int32)) ∧ v12 = (-1 : Int32)) then ((if v8 = (-1 : Int32) then v12 else (if v12 = (-1 : Int32) then v8 else v12))) else v12))) at_378 rfl rfl (by decide) rfl ?_
             refine A.iload (q := 381) at_379 rfl rfl ?_
             refine A.icmpF (q := 384) at_381 rfl (teq (by subst e2 e5 e6 e7 e8 e9 e10 e12 e13 e14 ej246 ej251 ej254 e258; exact own_w1_1 _ 0 0 _ 0 0 : (if (v8 = (-1 : Int32)) ∨ (¬ (v8 = (-1 : Int32)) ∧ ¬ (v12 = (-1 : Int32)) ∧ v12 = v8) ∨ (¬ (v8 = (-1 : Int32)) ∧ v12 = (-1 : Int32)) then ((if v8 = (-1 : Int32) then v12 else (if v12 = (-1 : Int32) then v8 else v12))) else v12) = j254)).2 ?_
             refine A.aload (q := 386) at_384 rfl rfl rfl ?_
             refine A.iconst (q := 387) (v := (1 : Int32)) at_386 rfl (by decide) ?_
             refine A.iaload (q := 388) (i := 1) (v := (.int v13)) at_387 rfl rfl (by decide) rfl ?_
             refine A.iload (q := 390) at_388 rfl rfl ?_
             refine A.icmpF (q := 393) at_390 rfl (teq rfl).2 ?_
             refine A.aload (q := 395) at_393 rfl rfl rfl ?_
             refine A.iconst (q := 396) (v := (2 : Int32)) at_395 rfl (by decide) ?_
             refine A.iaload (q := 397) (i := 1) (v := (.int v14)) at_396 rfl rfl (by decide) rfl ?_
             refine A.iload (q := 399) at_397 rfl rfl ?_
             refine A.icmpF (q := 402) at_399 rfl (teq rfl).2 ?_
             refine A.iconst (q := 403) (v := (1 : Int32)) at_402 rfl (by decide) ?_
             refine A.goto (r := 407) at_403 (by decide) ?_
             exact A.retZ (v := 1) at_407 (by decide) (by decide) (by decide) rfl
            refine A.iload (q := 327) at_325 rfl rfl ?_
            refine A.iconst (q := 328) (v := (2 : Int32)) at_327 rfl (by decide) ?_
            refine A.icmpT (r := 351) at_328 (by decide) (by decide) ?_
            refine A.iload (q := 353) at_351 rfl rfl ?_
            exact J325_256 T  A
           refine A.iload (q := 302) at_300 rfl rfl ?_
           refine A.iconst (q := 303) (v := (1 : Int32)) at_302 rfl (by decide) ?_
           refine A.icmpT (r := 321) at_303 (by decide) (by decide) ?_
           refine A.iload (q := 323) at_321 rfl rfl ?_
           exact J300_255 T  A
          refine A.iload (q := 283) at_281 rfl rfl ?_
          refine A.ifF (q := 286) at_283 rfl (by decide) ?_
          refine A.iload (q := 288) at_286 rfl rfl ?_
          refine A.iload (q := 290) at_288 rfl rfl ?_
          refine A.callS (q := 293) (w1 := 9) (w2 := 10) (w3 := 3) (w4 := 11) (as := [(.int v8), (.int v12)]) (st := []) (W := 0) at_290 rfl rfl rfl rfl rfl (rmG l Z a0 hw n0 v8 v12 _) (by decide) ⟨_, _, pd_3, rfl⟩ rfl rfl rfl (by decide) (by decide) (by decide) (by decide) ?_
          rintro _ T _ ⟨rfl, rfl⟩ A
          show Go p e below _ (T.setTop (mkF m 293 #[.val (.long sl), .second, .val (.int pp), .val (.int qq), .val (.int rr), .val (.int sh), .val (.int (1 : Int32)), .val (.int (3 : Int32)), .val (.ref b4), .val (.ref b11), .val (.int v12), .val (.int v13), .val (.int v14), .val (.int v8), .val (.int v9), .val (.int v10), .val (.int j246), .val (.int (0 : Int32)), .val (.int (0 : Int32)), .val (.int j251), .unset, .unset, .unset, .unset] [(.int (FG v8 v12))]))
          obtain ⟨v253, e253⟩ : ∃ v : Int32, (FG v8 v12) = v := ⟨_, rfl⟩
          rw [e253]
          refine A.goto (r := 298) at_293 (by decide) ?_
          exact J281_254 T _ (by simp only [e253]) A
         refine A.iload (q := 261) at_259 rfl rfl ?_
         refine A.if_ne (q := 264) (r := 278) at_261 rfl (by decide) (fun h250 => ?_) (fun h250 => ?_)
         · refine A.iconst (q := 279) (v := (0 : Int32)) at_278 rfl (by decide) ?_
           exact J259_251 T _ (by simp only [if_neg h250]) A
         · refine A.iload (q := 266) at_264 rfl rfl ?_
           refine A.ifF (q := 269) at_266 rfl (by decide) ?_
           refine A.iload (q := 271) at_269 rfl rfl ?_
           refine A.ifF (q := 274) at_271 rfl (by decide) ?_
           refine A.iconst (q := 275) (v := (1 : Int32)) at_274 rfl (by decide) ?_
           refine A.goto (r := 279) at_275 (by decide) ?_
           exact J259_251 T _ (by simp only [if_pos h250]) A
        refine A.iload (q := 238) at_236 rfl rfl ?_
        refine A.iconst (q := 239) (v := (2 : Int32)) at_238 rfl (by decide) ?_
        refine A.icmpT (r := 256) at_239 (by decide) (by decide) ?_
        refine A.iconst (q := 257) (v := (0 : Int32)) at_256 rfl (by decide) ?_
        exact J236_248 T  A
       refine A.iload (q := 215) at_213 rfl rfl ?_
       refine A.iconst (q := 216) (v := (1 : Int32)) at_215 rfl (by decide) ?_
       refine A.icmpT (r := 233) at_216 (by decide) (by decide) ?_
       refine A.iconst (q := 234) (v := (0 : Int32)) at_233 rfl (by decide) ?_
       exact J213_247 T  A
      refine A.iload (q := 193) at_191 rfl rfl ?_
      refine A.ifF (q := 196) at_193 rfl (by decide) ?_
      refine A.iload (q := 198) at_196 rfl rfl ?_
      refine A.iload (q := 200) at_198 rfl rfl ?_
      refine A.callS (q := 203) (w1 := 6) (w2 := 7) (w3 := 3) (w4 := 8) (as := [(.int v8), (.int v12)]) (st := []) (W := 0) at_200 rfl rfl rfl rfl rfl (rmC l Z a0 hw n0 v8 v12 _) (by decide) ⟨_, _, pd_2, rfl⟩ rfl rfl rfl (by decide) (by decide) (by decide) (by decide) ?_
      rintro _ T _ ⟨rfl, rfl⟩ A
      show Go p e below _ (T.setTop (mkF m 203 #[.val (.long sl), .second, .val (.int pp), .val (.int qq), .val (.int rr), .val (.int sh), .val (.int (1 : Int32)), .val (.int (3 : Int32)), .val (.ref b4), .val (.ref b11), .val (.int v12), .val (.int v13), .val (.int v14), .val (.int v8), .val (.int v9), .val (.int v10), .unset, .unset, .unset, .unset, .unset, .unset, .unset, .unset] [(.int (FC v8 v12))]))
      obtain ⟨v244, e244⟩ : ∃ v : Int32, (FC v8 v12) = v := ⟨_, rfl⟩
      rw [e244]
      refine A.if_eq (q := 206) (r := 210) at_203 rfl (by decide) (fun h245 => ?_) (fun h245 => ?_)
      · refine A.iconst (q := 211) (v := (0 : Int32)) at_210 rfl (by decide) ?_
        exact J191_246 T _ (by simp only [e244, if_pos h245]) A
      · refine A.iconst (q := 207) (v := (1 : Int32)) at_206 rfl (by decide) ?_
        refine A.goto (r := 211) at_207 (by decide) ?_
        exact J191_246 T _ (by simp only [e244, if_neg h245]) A
    · have J191_261 : ∀ (T : State) (j261 : Int32), j261 = (if ((FC v8 v12)) = (0 : Int32) then (0 : Int32) else (1 : Int32)) → Here p l e room_1 s m ([(.long sl), (.int pp), (.int qq), (.int rr), (.int sh)] : List Value).toArray below meth c Z a0 tables_1 x.cls x.name code 24 (some .boolean) n0 T [(b11, .inr (.int, [(.int v12), (.int v13), (.int v14)])), (b4, .inr (.int, [(.int v5), (.int v6), (.int v7), (.int v8), (.int v9), (.int v10)]))] 2 9 → Go p e below (EndS below s n0 Z 16 128 (fun v _ => v = some (.int 1))) (T.setTop (mkF m 211 #[.val (.long sl), .second, .val (.int pp), .val (.int qq), .val (.int rr), .val (.int sh), .val (.int (2 : Int32)), .val (.int (3 : Int32)), .val (.ref b4), .val (.ref b11), .val (.int v12), .val (.int v13), .val (.int v14), .val (.int v8), .val (.int v9), .val (.int v10), .unset, .unset, .unset, .unset, .unset, .unset, .unset, .unset] [(.int j261)])) := by
       intro T j261 ej261 A
       have z_j261 : nar .boolean j261 = j261 := by rw [ej261]; (repeat' split) <;> first | decide | assumption
       refine A.istore (q := 213) (l' := #[.val (.long sl), .second, .val (.int pp), .val (.int qq), .val (.int rr), .val (.int sh), .val (.int (2 : Int32)), .val (.int (3 : Int32)), .val (.ref b4), .val (.ref b11), .val (.int v12), .val (.int v13), .val (.int v14), .val (.int v8), .val (.int v9), .val (.int v10), .val (.int j261), .unset, .unset, .unset, .unset, .unset, .unset, .unset]) at_211 rfl rfl ?_
       have J213_265 : ∀ (T : State) (j265 : Int32), j265 = (if ((FC v9 v13)) = (0 : Int32) then (0 : Int32) else (1 : Int32)) → Here p l e room_1 s m ([(.long sl), (.int pp), (.int qq), (.int rr), (.int sh)] : List Value).toArray below meth c Z a0 tables_1 x.cls x.name code 24 (some .boolean) n0 T [(b11, .inr (.int, [(.int v12), (.int v13), (.int v14)])), (b4, .inr (.int, [(.int v5), (.int v6), (.int v7), (.int v8), (.int v9), (.int v10)]))] 2 9 → Go p e below (EndS below s n0 Z 16 128 (fun v _ => v = some (.int 1))) (T.setTop (mkF m 234 #[.val (.long sl), .second, .val (.int pp), .val (.int qq), .val (.int rr), .val (.int sh), .val (.int (2 : Int32)), .val (.int (3 : Int32)), .val (.ref b4), .val (.ref b11), .val (.int v12), .val (.int v13), .val (.int v14), .val (.int v8), .val (.int v9), .val (.int v10), .val (.int j261), .unset, .unset, .unset, .unset, .unset, .unset, .unset] [(.int j265)])) := by
        intro T j265 ej265 A
        have z_j265 : nar .boolean j265 = j265 := by rw [ej265]; (repeat' split) <;> first | decide | assumption
        refine A.istore (q := 236) (l' := #[.val (.long sl), .second, .val (.int pp), .val (.int qq), .val (.int rr), .val (.int sh), .val (.int (2 : Int32)), .val (.int (3 : Int32)), .val (.ref b4), .val (.ref b11), .val (.int v12), .val (.int v13), .val (.int v14), .val (.int v8), .val (.int v9), .val (.int v10), .val (.int j261), .val (.int j265), .unset, .unset, .unset, .unset, .unset, .unset]) at_234 rfl rfl ?_
        have J236_266 : ∀ (T : State), Here p l e room_1 s m ([(.long sl), (.int pp), (.int qq), (.int rr), (.int sh)] : List Value).toArray below meth c Z a0 tables_1 x.cls x.name code 24 (some .boolean) n0 T [(b11, .inr (.int, [(.int v12), (.int v13), (.int v14)])), (b4, .inr (.int, [(.int v5), (.int v6), (.int v7), (.int v8), (.int v9), (.int v10)]))] 2 9 → Go p e below (EndS below s n0 Z 16 128 (fun v _ => v = some (.int 1))) (T.setTop (mkF m 257 #[.val (.long sl), .second, .val (.int pp), .val (.int qq), .val (.int rr), .val (.int sh), .val (.int (2 : Int32)), .val (.int (3 : Int32)), .val (.ref b4), .val (.ref b11), .val (.int v12), .val (.int v13), .val (.int v14), .val (.int v8), .val (.int v9), .val (.int v10), .val (.int j261), .val (.int j265), .unset, .unset, .unset, .unset, .unset, .unset] [(.int (0 : Int32))])) := by
         intro T  A
         refine A.istore (q := 259) (l' := #[.val (.long sl), .second, .val (.int pp), .val (.int qq), .val (.int rr), .val (.int sh), .val (.int (2 : Int32)), .val (.int (3 : Int32)), .val (.ref b4), .val (.ref b11), .val (.int v12), .val (.int v13), .val (.int v14), .val (.int v8), .val (.int v9), .val (.int v10), .val (.int j261), .val (.int j265), .val (.int (0 : Int32)), .unset, .unset, .unset, .unset, .unset]) at_257 rfl rfl ?_
         have J259_270 : ∀ (T : State) (j270 : Int32), j270 = (if j261 = (0 : Int32) then (if j265 = (0 : Int32) then (1 : Int32) else (0 : Int32)) else (0 : Int32)) → Here p l e room_1 s m ([(.long sl), (.int pp), (.int qq), (.int rr), (.int sh)] : List Value).toArray below meth c Z a0 tables_1 x.cls x.name code 24 (some .boolean) n0 T [(b11, .inr (.int, [(.int v12), (.int v13), (.int v14)])), (b4, .inr (.int, [(.int v5), (.int v6), (.int v7), (.int v8), (.int v9), (.int v10)]))] 2 9 → Go p e below (EndS below s n0 Z 16 128 (fun v _ => v = some (.int 1))) (T.setTop (mkF m 279 #[.val (.long sl), .second, .val (.int pp), .val (.int qq), .val (.int rr), .val (.int sh), .val (.int (2 : Int32)), .val (.int (3 : Int32)), .val (.ref b4), .val (.ref b11), .val (.int v12), .val (.int v13), .val (.int v14), .val (.int v8), .val (.int v9), .val (.int v10), .val (.int j261), .val (.int j265), .val (.int (0 : Int32)), .unset, .unset, .unset, .unset, .unset] [(.int j270)])) := by
          intro T j270 ej270 A
          have z_j270 : nar .boolean j270 = j270 := by rw [ej270]; (repeat' split) <;> first | decide | assumption
          refine A.istore (q := 281) (l' := #[.val (.long sl), .second, .val (.int pp), .val (.int qq), .val (.int rr), .val (.int sh), .val (.int (2 : Int32)), .val (.int (3 : Int32)), .val (.ref b4), .val (.ref b11), .val (.int v12), .val (.int v13), .val (.int v14), .val (.int v8), .val (.int v9), .val (.int v10), .val (.int j261), .val (.int j265), .val (.int (0 : Int32)), .val (.int j270), .unset, .unset, .unset, .unset]) at_279 rfl rfl ?_
          have J281_273 : ∀ (T : State) (j273 : Int32), j273 = ((FG v8 v12)) → Here p l e room_1 s m ([(.long sl), (.int pp), (.int qq), (.int rr), (.int sh)] : List Value).toArray below meth c Z a0 tables_1 x.cls x.name code 24 (some .boolean) n0 T [(b11, .inr (.int, [(.int v12), (.int v13), (.int v14)])), (b4, .inr (.int, [(.int v5), (.int v6), (.int v7), (.int v8), (.int v9), (.int v10)]))] 2 9 → Go p e below (EndS below s n0 Z 16 128 (fun v _ => v = some (.int 1))) (T.setTop (mkF m 298 #[.val (.long sl), .second, .val (.int pp), .val (.int qq), .val (.int rr), .val (.int sh), .val (.int (2 : Int32)), .val (.int (3 : Int32)), .val (.ref b4), .val (.ref b11), .val (.int v12), .val (.int v13), .val (.int v14), .val (.int v8), .val (.int v9), .val (.int v10), .val (.int j261), .val (.int j265), .val (.int (0 : Int32)), .val (.int j270), .unset, .unset, .unset, .unset] [(.int j273)])) := by
           intro T j273 ej273 A
           refine A.istore (q := 300) (l' := #[.val (.long sl), .second, .val (.int pp), .val (.int qq), .val (.int rr), .val (.int sh), .val (.int (2 : Int32)), .val (.int (3 : Int32)), .val (.ref b4), .val (.ref b11), .val (.int v12), .val (.int v13), .val (.int v14), .val (.int v8), .val (.int v9), .val (.int v10), .val (.int j261), .val (.int j265), .val (.int (0 : Int32)), .val (.int j270), .val (.int j273), .unset, .unset, .unset]) at_298 rfl rfl ?_
           have J300_277 : ∀ (T : State) (j277 : Int32), j277 = (if j261 = (0 : Int32) then ((FG v9 v13)) else v13) → Here p l e room_1 s m ([(.long sl), (.int pp), (.int qq), (.int rr), (.int sh)] : List Value).toArray below meth c Z a0 tables_1 x.cls x.name code 24 (some .boolean) n0 T [(b11, .inr (.int, [(.int v12), (.int v13), (.int v14)])), (b4, .inr (.int, [(.int v5), (.int v6), (.int v7), (.int v8), (.int v9), (.int v10)]))] 2 9 → Go p e below (EndS below s n0 Z 16 128 (fun v _ => v = some (.int 1))) (T.setTop (mkF m 323 #[.val (.long sl), .second, .val (.int pp), .val (.int qq), .val (.int rr), .val (.int sh), .val (.int (2 : Int32)), .val (.int (3 : Int32)), .val (.ref b4), .val (.ref b11), .val (.int v12), .val (.int v13), .val (.int v14), .val (.int v8), .val (.int v9), .val (.int v10), .val (.int j261), .val (.int j265), .val (.int (0 : Int32)), .val (.int j270), .val (.int j273), .unset, .unset, .unset] [(.int j277)])) := by
            intro T j277 ej277 A
            refine A.istore (q := 325) (l' := #[.val (.long sl), .second, .val (.int pp), .val (.int qq), .val (.int rr), .val (.int sh), .val (.int (2 : Int32)), .val (.int (3 : Int32)), .val (.ref b4), .val (.ref b11), .val (.int v12), .val (.int v13), .val (.int v14), .val (.int v8), .val (.int v9), .val (.int v10), .val (.int j261), .val (.int j265), .val (.int (0 : Int32)), .val (.int j270), .val (.int j273), .val (.int j277), .unset, .unset]) at_323 rfl rfl ?_
            have J325_278 : ∀ (T : State), Here p l e room_1 s m ([(.long sl), (.int pp), (.int qq), (.int rr), (.int sh)] : List Value).toArray below meth c Z a0 tables_1 x.cls x.name code 24 (some .boolean) n0 T [(b11, .inr (.int, [(.int v12), (.int v13), (.int v14)])), (b4, .inr (.int, [(.int v5), (.int v6), (.int v7), (.int v8), (.int v9), (.int v10)]))] 2 9 → Go p e below (EndS below s n0 Z 16 128 (fun v _ => v = some (.int 1))) (T.setTop (mkF m 353 #[.val (.long sl), .second, .val (.int pp), .val (.int qq), .val (.int rr), .val (.int sh), .val (.int (2 : Int32)), .val (.int (3 : Int32)), .val (.ref b4), .val (.ref b11), .val (.int v12), .val (.int v13), .val (.int v14), .val (.int v8), .val (.int v9), .val (.int v10), .val (.int j261), .val (.int j265), .val (.int (0 : Int32)), .val (.int j270), .val (.int j273), .val (.int j277), .unset, .unset] [(.int v14)])) := by
             intro T  A
             refine A.istore (q := 355) (l' := #[.val (.long sl), .second, .val (.int pp), .val (.int qq), .val (.int rr), .val (.int sh), .val (.int (2 : Int32)), .val (.int (3 : Int32)), .val (.ref b4), .val (.ref b11), .val (.int v12), .val (.int v13), .val (.int v14), .val (.int v8), .val (.int v9), .val (.int v10), .val (.int j261), .val (.int j265), .val (.int (0 : Int32)), .val (.int j270), .val (.int j273), .val (.int j277), .val (.int v14), .unset]) at_353 rfl rfl ?_
             refine A.aload (q := 357) at_355 rfl rfl rfl ?_
             refine A.iload (q := 359) at_357 rfl rfl ?_
             refine A.iload (q := 361) at_359 rfl rfl ?_
             refine A.aload (q := 363) at_361 rfl rfl rfl ?_
             have A := A.front (i := 1) (L' := [(b4, .inr (.int, [(.int v5), (.int v6), (.int v7), (.int v8), (.int v9), (.int v10)])), (b11, .inr (.int, [(.int v12), (.int v13), (.int v14)]))]) rfl rfl
             refine A.callS (q := 366) (w1 := 12) (w2 := 13) (w3 := 14) (w4 := 15) (as := [(.ref b4), (.int (3 : Int32)), (.int (2 : Int32)), (.ref b11)]) (st := []) (W := 0) at_363 rfl rfl rfl rfl rfl (rmI_15 l Z a0 hw n0 b4 b11 v5 v6 v7 v8 v9 v10 v12 v13 v14 _) (by decide) ⟨_, _, pd_1, rfl⟩ rfl rfl rfl (by decide) (by decide) (by decide) (by decide) ?_
             rintro _ T _ ⟨rfl, rfl⟩ A
             show Go p e below _ (T.setTop (mkF m 366 #[.val (.long sl), .second, .val (.int pp), .val (.int qq), .val (.int rr), .val (.int sh), .val (.int (2 : Int32)), .val (.int (3 : Int32)), .val (.ref b4), .val (.ref b11), .val (.int v12), .val (.int v13), .val (.int v14), .val (.int v8), .val (.int v9), .val (.int v10), .val (.int j261), .val (.int j265), .val (.int (0 : Int32)), .val (.int j270), .val (.int j273), .val (.int j277), .val (.int v14), .unset] [(.int (FI_15 v8 v9 v12 v13))]))
             obtain ⟨v280, e280⟩ : ∃ v : Int32, (FI_15 v8 v9 v12 v13) = v := ⟨_, rfl⟩
             rw [e280]
             refine A.istore (q := 368) (l' := #[.val (.long sl), .second, .val (.int pp), .val (.int qq), .val (.int rr), .val (.int sh), .val (.int (2 : Int32)), .val (.int (3 : Int32)), .val (.ref b4), .val (.ref b11), .val (.int v12), .val (.int v13), .val (.int v14), .val (.int v8), .val (.int v9), .val (.int v10), .val (.int j261), .val (.int j265), .val (.int (0 : Int32)), .val (.int j270), .val (.int j273), .val (.int j277), .val (.int v14), .val (.int v280)]) at_366 rfl rfl ?_
             refine A.iload (q := 370) at_368 rfl rfl ?_
             refine A.iload (q := 372) at_370 rfl rfl ?_
             refine A.icmpF (q := 375) at_372 rfl (teq (by subst e2 e5 e6 e7 e8 e9 e10 e12 e13 e14 ej261 ej265 ej270 ej273 ej277 e280; exact own_w2_0 _ _ 0 _ _ 0 : v280 = j270)).2 ?_
             refine A.aload (q := 377) at_375 rfl rfl rfl ?_
             refine A.iconst (q := 378) (v := (0 : Int32)) at_377 rfl (by decide) ?_
             refine A.iaload (q := 379) (i := 1) (v := (.int (if (v8 = (-1 : Int32)) ∨ (¬ (v8 = (-1 : Int32)) ∧ ¬ (v12 = (-1 : Int32)) ∧ v12 = v8) ∨ (¬ (v8 = (-1 : Int32)) ∧ v12 = (-1 : Int32)) then ((if v8 = (-1 : Int32) then v12 else (if v12 = (-1 : Int32) then v8 else v12))) else v12))) at_378 rfl rfl (by decide) rfl ?_
             refine A.iload (q := 381) at_379 rfl rfl ?_
             refine A.icmpF (q := 384) at_381 rfl (teq (by subst e2 e5 e6 e7 e8 e9 e10 e12 e13 e14 ej261 ej265 ej270 ej273 ej277 e280; exact own_w2_1 _ 0 0 _ 0 0 : (if (v8 = (-1 : Int32)) ∨ (¬ (v8 = (-1 : Int32)) ∧ ¬ (v12 = (-1 : Int32)) ∧ v12 = v8) ∨ (¬ (v8 = (-1 : Int32)) ∧ v12 = (-1 : Int32)) then ((if v8 = (-1 : Int32) then v12 else (if v12 = (-1 : Int32) then v8 else v12))) else v12) = j273)).2 ?_
             refine A.aload (q := 386) at_384 rfl rfl rfl ?_
             refine A.iconst (q := 387) (v := (1 : Int32)) at_386 rfl (by decide) ?_
             refine A.iaload (q := 388) (i := 1) (v := (.int (if (v8 = (-1 : Int32)) ∨ (¬ (v8 = (-1 : Int32)) ∧ ¬ (v12 = (-1 : Int32)) ∧ v12 = v8) ∨ (¬ (v8 = (-1 : Int32)) ∧ v12 = (-1 : Int32)) then (if (v9 = (-1 : Int32)) ∨ (¬ (v9 = (-1 : Int32)) ∧ ¬ (v13 = (-1 : Int32)) ∧ v13 = v9) ∨ (¬ (v9 = (-1 : Int32)) ∧ v13 = (-1 : Int32)) then ((if v9 = (-1 : Int32) then v13 else (if v13 = (-1 : Int32) then v9 else v13))) else v13) else v13))) at_387 rfl rfl (by decide) rfl ?_
             refine A.iload (q := 390) at_388 rfl rfl ?_
             refine A.icmpF (q := 393) at_390 rfl (teq (by subst e2 e5 e6 e7 e8 e9 e10 e12 e13 e14 ej261 ej265 ej270 ej273 ej277 e280; exact own_w2_2 _ _ 0 _ _ 0 : (if (v8 = (-1 : Int32)) ∨ (¬ (v8 = (-1 : Int32)) ∧ ¬ (v12 = (-1 : Int32)) ∧ v12 = v8) ∨ (¬ (v8 = (-1 : Int32)) ∧ v12 = (-1 : Int32)) then (if (v9 = (-1 : Int32)) ∨ (¬ (v9 = (-1 : Int32)) ∧ ¬ (v13 = (-1 : Int32)) ∧ v13 = v9) ∨ (¬ (v9 = (-1 : Int32)) ∧ v13 = (-1 : Int32)) then ((if v9 = (-1 : Int32) then v13 else (if v13 = (-1 : Int32) then v9 else v13))) else v13) else v13) = j277)).2 ?_
             refine A.aload (q := 395) at_393 rfl rfl rfl ?_
             refine A.iconst (q := 396) (v := (2 : Int32)) at_395 rfl (by decide) ?_
             refine A.iaload (q := 397) (i := 1) (v := (.int v14)) at_396 rfl rfl (by decide) rfl ?_
             refine A.iload (q := 399) at_397 rfl rfl ?_
             refine A.icmpF (q := 402) at_399 rfl (teq rfl).2 ?_
             refine A.iconst (q := 403) (v := (1 : Int32)) at_402 rfl (by decide) ?_
             refine A.goto (r := 407) at_403 (by decide) ?_
             exact A.retZ (v := 1) at_407 (by decide) (by decide) (by decide) rfl
            refine A.iload (q := 327) at_325 rfl rfl ?_
            refine A.iconst (q := 328) (v := (2 : Int32)) at_327 rfl (by decide) ?_
            refine A.icmpT (r := 351) at_328 (by decide) (by decide) ?_
            refine A.iload (q := 353) at_351 rfl rfl ?_
            exact J325_278 T  A
           refine A.iload (q := 302) at_300 rfl rfl ?_
           refine A.iconst (q := 303) (v := (1 : Int32)) at_302 rfl (by decide) ?_
           refine A.icmpF (q := 306) at_303 rfl (by decide) ?_
           refine A.iload (q := 308) at_306 rfl rfl ?_
           refine A.if_ne (q := 311) (r := 321) at_308 rfl (by decide) (fun h275 => ?_) (fun h275 => ?_)
           · refine A.iload (q := 323) at_321 rfl rfl ?_
             exact J300_277 T _ (by simp only [if_neg h275]) A
           · refine A.iload (q := 313) at_311 rfl rfl ?_
             refine A.iload (q := 315) at_313 rfl rfl ?_
             refine A.callS (q := 318) (w1 := 9) (w2 := 10) (w3 := 3) (w4 := 11) (as := [(.int v9), (.int v13)]) (st := []) (W := 0) at_315 rfl rfl rfl rfl rfl (rmG l Z a0 hw n0 v9 v13 _) (by decide) ⟨_, _, pd_3, rfl⟩ rfl rfl rfl (by decide) (by decide) (by decide) (by decide) ?_
             rintro _ T _ ⟨rfl, rfl⟩ A
             show Go p e below _ (T.setTop (mkF m 318 #[.val (.long sl), .second, .val (.int pp), .val (.int qq), .val (.int rr), .val (.int sh), .val (.int (2 : Int32)), .val (.int (3 : Int32)), .val (.ref b4), .val (.ref b11), .val (.int v12), .val (.int v13), .val (.int v14), .val (.int v8), .val (.int v9), .val (.int v10), .val (.int j261), .val (.int j265), .val (.int (0 : Int32)), .val (.int j270), .val (.int j273), .unset, .unset, .unset] [(.int (FG v9 v13))]))
             obtain ⟨v276, e276⟩ : ∃ v : Int32, (FG v9 v13) = v := ⟨_, rfl⟩
             rw [e276]
             refine A.goto (r := 323) at_318 (by decide) ?_
             exact J300_277 T _ (by simp only [e276, if_pos h275]) A
          refine A.iload (q := 283) at_281 rfl rfl ?_
          refine A.ifF (q := 286) at_283 rfl (by decide) ?_
          refine A.iload (q := 288) at_286 rfl rfl ?_
          refine A.iload (q := 290) at_288 rfl rfl ?_
          refine A.callS (q := 293) (w1 := 9) (w2 := 10) (w3 := 3) (w4 := 11) (as := [(.int v8), (.int v12)]) (st := []) (W := 0) at_290 rfl rfl rfl rfl rfl (rmG l Z a0 hw n0 v8 v12 _) (by decide) ⟨_, _, pd_3, rfl⟩ rfl rfl rfl (by decide) (by decide) (by decide) (by decide) ?_
          rintro _ T _ ⟨rfl, rfl⟩ A
          show Go p e below _ (T.setTop (mkF m 293 #[.val (.long sl), .second, .val (.int pp), .val (.int qq), .val (.int rr), .val (.int sh), .val (.int (2 : Int32)), .val (.int (3 : Int32)), .val (.ref b4), .val (.ref b11), .val (.int v12), .val (.int v13), .val (.int v14), .val (.int v8), .val (.int v9), .val (.int v10), .val (.int j261), .val (.int j265), .val (.int (0 : Int32)), .val (.int j270), .unset, .unset, .unset, .unset] [(.int (FG v8 v12))]))
          obtain ⟨v272, e272⟩ : ∃ v : Int32, (FG v8 v12) = v := ⟨_, rfl⟩
          rw [e272]
          refine A.goto (r := 298) at_293 (by decide) ?_
          exact J281_273 T _ (by simp only [e272]) A
         refine A.iload (q := 261) at_259 rfl rfl ?_
         refine A.if_ne (q := 264) (r := 278) at_261 rfl (by decide) (fun h268 => ?_) (fun h268 => ?_)
         · refine A.iconst (q := 279) (v := (0 : Int32)) at_278 rfl (by decide) ?_
           exact J259_270 T _ (by simp only [if_neg h268]) A
         · refine A.iload (q := 266) at_264 rfl rfl ?_
           refine A.if_ne (q := 269) (r := 278) at_266 rfl (by decide) (fun h269 => ?_) (fun h269 => ?_)
           · refine A.iconst (q := 279) (v := (0 : Int32)) at_278 rfl (by decide) ?_
             exact J259_270 T _ (by simp only [if_neg h269, if_pos h268]) A
           · refine A.iload (q := 271) at_269 rfl rfl ?_
             refine A.ifF (q := 274) at_271 rfl (by decide) ?_
             refine A.iconst (q := 275) (v := (1 : Int32)) at_274 rfl (by decide) ?_
             refine A.goto (r := 279) at_275 (by decide) ?_
             exact J259_270 T _ (by simp only [if_pos h268, if_pos h269]) A
        refine A.iload (q := 238) at_236 rfl rfl ?_
        refine A.iconst (q := 239) (v := (2 : Int32)) at_238 rfl (by decide) ?_
        refine A.icmpT (r := 256) at_239 (by decide) (by decide) ?_
        refine A.iconst (q := 257) (v := (0 : Int32)) at_256 rfl (by decide) ?_
        exact J236_266 T  A
       refine A.iload (q := 215) at_213 rfl rfl ?_
       refine A.iconst (q := 216) (v := (1 : Int32)) at_215 rfl (by decide) ?_
       refine A.icmpF (q := 219) at_216 rfl (by decide) ?_
       refine A.iload (q := 221) at_219 rfl rfl ?_
       refine A.iload (q := 223) at_221 rfl rfl ?_
       refine A.callS (q := 226) (w1 := 6) (w2 := 7) (w3 := 3) (w4 := 8) (as := [(.int v9), (.int v13)]) (st := []) (W := 0) at_223 rfl rfl rfl rfl rfl (rmC l Z a0 hw n0 v9 v13 _) (by decide) ⟨_, _, pd_2, rfl⟩ rfl rfl rfl (by decide) (by decide) (by decide) (by decide) ?_
       rintro _ T _ ⟨rfl, rfl⟩ A
       show Go p e below _ (T.setTop (mkF m 226 #[.val (.long sl), .second, .val (.int pp), .val (.int qq), .val (.int rr), .val (.int sh), .val (.int (2 : Int32)), .val (.int (3 : Int32)), .val (.ref b4), .val (.ref b11), .val (.int v12), .val (.int v13), .val (.int v14), .val (.int v8), .val (.int v9), .val (.int v10), .val (.int j261), .unset, .unset, .unset, .unset, .unset, .unset, .unset] [(.int (FC v9 v13))]))
       obtain ⟨v263, e263⟩ : ∃ v : Int32, (FC v9 v13) = v := ⟨_, rfl⟩
       rw [e263]
       refine A.if_eq (q := 229) (r := 233) at_226 rfl (by decide) (fun h264 => ?_) (fun h264 => ?_)
       · refine A.iconst (q := 234) (v := (0 : Int32)) at_233 rfl (by decide) ?_
         exact J213_265 T _ (by simp only [e263, if_pos h264]) A
       · refine A.iconst (q := 230) (v := (1 : Int32)) at_229 rfl (by decide) ?_
         refine A.goto (r := 234) at_230 (by decide) ?_
         exact J213_265 T _ (by simp only [e263, if_neg h264]) A
      refine A.iload (q := 193) at_191 rfl rfl ?_
      refine A.ifF (q := 196) at_193 rfl (by decide) ?_
      refine A.iload (q := 198) at_196 rfl rfl ?_
      refine A.iload (q := 200) at_198 rfl rfl ?_
      refine A.callS (q := 203) (w1 := 6) (w2 := 7) (w3 := 3) (w4 := 8) (as := [(.int v8), (.int v12)]) (st := []) (W := 0) at_200 rfl rfl rfl rfl rfl (rmC l Z a0 hw n0 v8 v12 _) (by decide) ⟨_, _, pd_2, rfl⟩ rfl rfl rfl (by decide) (by decide) (by decide) (by decide) ?_
      rintro _ T _ ⟨rfl, rfl⟩ A
      show Go p e below _ (T.setTop (mkF m 203 #[.val (.long sl), .second, .val (.int pp), .val (.int qq), .val (.int rr), .val (.int sh), .val (.int (2 : Int32)), .val (.int (3 : Int32)), .val (.ref b4), .val (.ref b11), .val (.int v12), .val (.int v13), .val (.int v14), .val (.int v8), .val (.int v9), .val (.int v10), .unset, .unset, .unset, .unset, .unset, .unset, .unset, .unset] [(.int (FC v8 v12))]))
      obtain ⟨v259, e259⟩ : ∃ v : Int32, (FC v8 v12) = v := ⟨_, rfl⟩
      rw [e259]
      refine A.if_eq (q := 206) (r := 210) at_203 rfl (by decide) (fun h260 => ?_) (fun h260 => ?_)
      · refine A.iconst (q := 211) (v := (0 : Int32)) at_210 rfl (by decide) ?_
        exact J191_261 T _ (by simp only [e259, if_pos h260]) A
      · refine A.iconst (q := 207) (v := (1 : Int32)) at_206 rfl (by decide) ?_
        refine A.goto (r := 211) at_207 (by decide) ?_
        exact J191_261 T _ (by simp only [e259, if_neg h260]) A
    · have J191_283 : ∀ (T : State) (j283 : Int32), j283 = (if ((FC v8 v12)) = (0 : Int32) then (0 : Int32) else (1 : Int32)) → Here p l e room_1 s m ([(.long sl), (.int pp), (.int qq), (.int rr), (.int sh)] : List Value).toArray below meth c Z a0 tables_1 x.cls x.name code 24 (some .boolean) n0 T [(b11, .inr (.int, [(.int v12), (.int v13), (.int v14)])), (b4, .inr (.int, [(.int v5), (.int v6), (.int v7), (.int v8), (.int v9), (.int v10)]))] 2 9 → Go p e below (EndS below s n0 Z 16 128 (fun v _ => v = some (.int 1))) (T.setTop (mkF m 211 #[.val (.long sl), .second, .val (.int pp), .val (.int qq), .val (.int rr), .val (.int sh), .val (.int (3 : Int32)), .val (.int (3 : Int32)), .val (.ref b4), .val (.ref b11), .val (.int v12), .val (.int v13), .val (.int v14), .val (.int v8), .val (.int v9), .val (.int v10), .unset, .unset, .unset, .unset, .unset, .unset, .unset, .unset] [(.int j283)])) := by
       intro T j283 ej283 A
       have z_j283 : nar .boolean j283 = j283 := by rw [ej283]; (repeat' split) <;> first | decide | assumption
       refine A.istore (q := 213) (l' := #[.val (.long sl), .second, .val (.int pp), .val (.int qq), .val (.int rr), .val (.int sh), .val (.int (3 : Int32)), .val (.int (3 : Int32)), .val (.ref b4), .val (.ref b11), .val (.int v12), .val (.int v13), .val (.int v14), .val (.int v8), .val (.int v9), .val (.int v10), .val (.int j283), .unset, .unset, .unset, .unset, .unset, .unset, .unset]) at_211 rfl rfl ?_
       have J213_287 : ∀ (T : State) (j287 : Int32), j287 = (if ((FC v9 v13)) = (0 : Int32) then (0 : Int32) else (1 : Int32)) → Here p l e room_1 s m ([(.long sl), (.int pp), (.int qq), (.int rr), (.int sh)] : List Value).toArray below meth c Z a0 tables_1 x.cls x.name code 24 (some .boolean) n0 T [(b11, .inr (.int, [(.int v12), (.int v13), (.int v14)])), (b4, .inr (.int, [(.int v5), (.int v6), (.int v7), (.int v8), (.int v9), (.int v10)]))] 2 9 → Go p e below (EndS below s n0 Z 16 128 (fun v _ => v = some (.int 1))) (T.setTop (mkF m 234 #[.val (.long sl), .second, .val (.int pp), .val (.int qq), .val (.int rr), .val (.int sh), .val (.int (3 : Int32)), .val (.int (3 : Int32)), .val (.ref b4), .val (.ref b11), .val (.int v12), .val (.int v13), .val (.int v14), .val (.int v8), .val (.int v9), .val (.int v10), .val (.int j283), .unset, .unset, .unset, .unset, .unset, .unset, .unset] [(.int j287)])) := by
        intro T j287 ej287 A
        have z_j287 : nar .boolean j287 = j287 := by rw [ej287]; (repeat' split) <;> first | decide | assumption
        refine A.istore (q := 236) (l' := #[.val (.long sl), .second, .val (.int pp), .val (.int qq), .val (.int rr), .val (.int sh), .val (.int (3 : Int32)), .val (.int (3 : Int32)), .val (.ref b4), .val (.ref b11), .val (.int v12), .val (.int v13), .val (.int v14), .val (.int v8), .val (.int v9), .val (.int v10), .val (.int j283), .val (.int j287), .unset, .unset, .unset, .unset, .unset, .unset]) at_234 rfl rfl ?_
        have J236_291 : ∀ (T : State) (j291 : Int32), j291 = (if ((FC v10 v14)) = (0 : Int32) then (0 : Int32) else (1 : Int32)) → Here p l e room_1 s m ([(.long sl), (.int pp), (.int qq), (.int rr), (.int sh)] : List Value).toArray below meth c Z a0 tables_1 x.cls x.name code 24 (some .boolean) n0 T [(b11, .inr (.int, [(.int v12), (.int v13), (.int v14)])), (b4, .inr (.int, [(.int v5), (.int v6), (.int v7), (.int v8), (.int v9), (.int v10)]))] 2 9 → Go p e below (EndS below s n0 Z 16 128 (fun v _ => v = some (.int 1))) (T.setTop (mkF m 257 #[.val (.long sl), .second, .val (.int pp), .val (.int qq), .val (.int rr), .val (.int sh), .val (.int (3 : Int32)), .val (.int (3 : Int32)), .val (.ref b4), .val (.ref b11), .val (.int v12), .val (.int v13), .val (.int v14), .val (.int v8), .val (.int v9), .val (.int v10), .val (.int j283), .val (.int j287), .unset, .unset, .unset, .unset, .unset, .unset] [(.int j291)])) := by
         intro T j291 ej291 A
         have z_j291 : nar .boolean j291 = j291 := by rw [ej291]; (repeat' split) <;> first | decide | assumption
         refine A.istore (q := 259) (l' := #[.val (.long sl), .second, .val (.int pp), .val (.int qq), .val (.int rr), .val (.int sh), .val (.int (3 : Int32)), .val (.int (3 : Int32)), .val (.ref b4), .val (.ref b11), .val (.int v12), .val (.int v13), .val (.int v14), .val (.int v8), .val (.int v9), .val (.int v10), .val (.int j283), .val (.int j287), .val (.int j291), .unset, .unset, .unset, .unset, .unset]) at_257 rfl rfl ?_
         have J259_296 : ∀ (T : State) (j296 : Int32), j296 = (if j283 = (0 : Int32) then (if j287 = (0 : Int32) then (if j291 = (0 : Int32) then (1 : Int32) else (0 : Int32)) else (0 : Int32)) else (0 : Int32)) → Here p l e room_1 s m ([(.long sl), (.int pp), (.int qq), (.int rr), (.int sh)] : List Value).toArray below meth c Z a0 tables_1 x.cls x.name code 24 (some .boolean) n0 T [(b11, .inr (.int, [(.int v12), (.int v13), (.int v14)])), (b4, .inr (.int, [(.int v5), (.int v6), (.int v7), (.int v8), (.int v9), (.int v10)]))] 2 9 → Go p e below (EndS below s n0 Z 16 128 (fun v _ => v = some (.int 1))) (T.setTop (mkF m 279 #[.val (.long sl), .second, .val (.int pp), .val (.int qq), .val (.int rr), .val (.int sh), .val (.int (3 : Int32)), .val (.int (3 : Int32)), .val (.ref b4), .val (.ref b11), .val (.int v12), .val (.int v13), .val (.int v14), .val (.int v8), .val (.int v9), .val (.int v10), .val (.int j283), .val (.int j287), .val (.int j291), .unset, .unset, .unset, .unset, .unset] [(.int j296)])) := by
          intro T j296 ej296 A
          have z_j296 : nar .boolean j296 = j296 := by rw [ej296]; (repeat' split) <;> first | decide | assumption
          refine A.istore (q := 281) (l' := #[.val (.long sl), .second, .val (.int pp), .val (.int qq), .val (.int rr), .val (.int sh), .val (.int (3 : Int32)), .val (.int (3 : Int32)), .val (.ref b4), .val (.ref b11), .val (.int v12), .val (.int v13), .val (.int v14), .val (.int v8), .val (.int v9), .val (.int v10), .val (.int j283), .val (.int j287), .val (.int j291), .val (.int j296), .unset, .unset, .unset, .unset]) at_279 rfl rfl ?_
          have J281_299 : ∀ (T : State) (j299 : Int32), j299 = ((FG v8 v12)) → Here p l e room_1 s m ([(.long sl), (.int pp), (.int qq), (.int rr), (.int sh)] : List Value).toArray below meth c Z a0 tables_1 x.cls x.name code 24 (some .boolean) n0 T [(b11, .inr (.int, [(.int v12), (.int v13), (.int v14)])), (b4, .inr (.int, [(.int v5), (.int v6), (.int v7), (.int v8), (.int v9), (.int v10)]))] 2 9 → Go p e below (EndS below s n0 Z 16 128 (fun v _ => v = some (.int 1))) (T.setTop (mkF m 298 #[.val (.long sl), .second, .val (.int pp), .val (.int qq), .val (.int rr), .val (.int sh), .val (.int (3 : Int32)), .val (.int (3 : Int32)), .val (.ref b4), .val (.ref b11), .val (.int v12), .val (.int v13), .val (.int v14), .val (.int v8), .val (.int v9), .val (.int v10), .val (.int j283), .val (.int j287), .val (.int j291), .val (.int j296), .unset, .unset, .unset, .unset] [(.int j299)])) := by
           intro T j299 ej299 A
           refine A.istore (q := 300) (l' := #[.val (.long sl), .second, .val (.int pp), .val (.int qq), .val (.int rr), .val (.int sh), .val (.int (3 : Int32)), .val (.int (3 : Int32)), .val (.ref b4), .val (.ref b11), .val (.int v12), .val (.int v13), .val (.int v14), .val (.int v8), .val (.int v9), .val (.int v10), .val (.int j283), .val (.int j287), .val (.int j291), .val (.int j296), .val (.int j299), .unset, .unset, .unset]) at_298 rfl rfl ?_
           have J300_303 : ∀ (T : State) (j303 : Int32), j303 = (if j283 = (0 : Int32) then ((FG v9 v13)) else v13) → Here p l e room_1 s m ([(.long sl), (.int pp), (.int qq), (.int rr), (.int sh)] : List Value).toArray below meth c Z a0 tables_1 x.cls x.name code 24 (some .boolean) n0 T [(b11, .inr (.int, [(.int v12), (.int v13), (.int v14)])), (b4, .inr (.int, [(.int v5), (.int v6), (.int v7), (.int v8), (.int v9), (.int v10)]))] 2 9 → Go p e below (EndS below s n0 Z 16 128 (fun v _ => v = some (.int 1))) (T.setTop (mkF m 323 #[.val (.long sl), .second, .val (.int pp), .val (.int qq), .val (.int rr), .val (.int sh), .val (.int (3 : Int32)), .val (.int (3 : Int32)), .val (.ref b4), .val (.ref b11), .val (.int v12), .val (.int v13), .val (.int v14), .val (.int v8), .val (.int v9), .val (.int v10), .val (.int j283), .val (.int j287), .val (.int j291), .val (.int j296), .val (.int j299), .unset, .unset, .unset] [(.int j303)])) := by
            intro T j303 ej303 A
            refine A.istore (q := 325) (l' := #[.val (.long sl), .second, .val (.int pp), .val (.int qq), .val (.int rr), .val (.int sh), .val (.int (3 : Int32)), .val (.int (3 : Int32)), .val (.ref b4), .val (.ref b11), .val (.int v12), .val (.int v13), .val (.int v14), .val (.int v8), .val (.int v9), .val (.int v10), .val (.int j283), .val (.int j287), .val (.int j291), .val (.int j296), .val (.int j299), .val (.int j303), .unset, .unset]) at_323 rfl rfl ?_
            have J325_308 : ∀ (T : State) (j308 : Int32), j308 = (if j283 = (0 : Int32) then (if j287 = (0 : Int32) then ((FG v10 v14)) else v14) else v14) → Here p l e room_1 s m ([(.long sl), (.int pp), (.int qq), (.int rr), (.int sh)] : List Value).toArray below meth c Z a0 tables_1 x.cls x.name code 24 (some .boolean) n0 T [(b11, .inr (.int, [(.int v12), (.int v13), (.int v14)])), (b4, .inr (.int, [(.int v5), (.int v6), (.int v7), (.int v8), (.int v9), (.int v10)]))] 2 9 → Go p e below (EndS below s n0 Z 16 128 (fun v _ => v = some (.int 1))) (T.setTop (mkF m 353 #[.val (.long sl), .second, .val (.int pp), .val (.int qq), .val (.int rr), .val (.int sh), .val (.int (3 : Int32)), .val (.int (3 : Int32)), .val (.ref b4), .val (.ref b11), .val (.int v12), .val (.int v13), .val (.int v14), .val (.int v8), .val (.int v9), .val (.int v10), .val (.int j283), .val (.int j287), .val (.int j291), .val (.int j296), .val (.int j299), .val (.int j303), .unset, .unset] [(.int j308)])) := by
             intro T j308 ej308 A
             refine A.istore (q := 355) (l' := #[.val (.long sl), .second, .val (.int pp), .val (.int qq), .val (.int rr), .val (.int sh), .val (.int (3 : Int32)), .val (.int (3 : Int32)), .val (.ref b4), .val (.ref b11), .val (.int v12), .val (.int v13), .val (.int v14), .val (.int v8), .val (.int v9), .val (.int v10), .val (.int j283), .val (.int j287), .val (.int j291), .val (.int j296), .val (.int j299), .val (.int j303), .val (.int j308), .unset]) at_353 rfl rfl ?_
             refine A.aload (q := 357) at_355 rfl rfl rfl ?_
             refine A.iload (q := 359) at_357 rfl rfl ?_
             refine A.iload (q := 361) at_359 rfl rfl ?_
             refine A.aload (q := 363) at_361 rfl rfl rfl ?_
             have A := A.front (i := 1) (L' := [(b4, .inr (.int, [(.int v5), (.int v6), (.int v7), (.int v8), (.int v9), (.int v10)])), (b11, .inr (.int, [(.int v12), (.int v13), (.int v14)]))]) rfl rfl
             refine A.callS (q := 366) (w1 := 12) (w2 := 13) (w3 := 14) (w4 := 15) (as := [(.ref b4), (.int (3 : Int32)), (.int (3 : Int32)), (.ref b11)]) (st := []) (W := 0) at_363 rfl rfl rfl rfl rfl (rmI_16 l Z a0 hw n0 b4 b11 v5 v6 v7 v8 v9 v10 v12 v13 v14 _) (by decide) ⟨_, _, pd_1, rfl⟩ rfl rfl rfl (by decide) (by decide) (by decide) (by decide) ?_
             rintro _ T _ ⟨rfl, rfl⟩ A
             show Go p e below _ (T.setTop (mkF m 366 #[.val (.long sl), .second, .val (.int pp), .val (.int qq), .val (.int rr), .val (.int sh), .val (.int (3 : Int32)), .val (.int (3 : Int32)), .val (.ref b4), .val (.ref b11), .val (.int v12), .val (.int v13), .val (.int v14), .val (.int v8), .val (.int v9), .val (.int v10), .val (.int j283), .val (.int j287), .val (.int j291), .val (.int j296), .val (.int j299), .val (.int j303), .val (.int j308), .unset] [(.int (FI_16 v8 v9 v10 v12 v13 v14))]))
             obtain ⟨v310, e310⟩ : ∃ v : Int32, (FI_16 v8 v9 v10 v12 v13 v14) = v := ⟨_, rfl⟩
             rw [e310]
             refine A.istore (q := 368) (l' := #[.val (.long sl), .second, .val (.int pp), .val (.int qq), .val (.int rr), .val (.int sh), .val (.int (3 : Int32)), .val (.int (3 : Int32)), .val (.ref b4), .val (.ref b11), .val (.int v12), .val (.int v13), .val (.int v14), .val (.int v8), .val (.int v9), .val (.int v10), .val (.int j283), .val (.int j287), .val (.int j291), .val (.int j296), .val (.int j299), .val (.int j303), .val (.int j308), .val (.int v310)]) at_366 rfl rfl ?_
             refine A.iload (q := 370) at_368 rfl rfl ?_
             refine A.iload (q := 372) at_370 rfl rfl ?_
             refine A.icmpF (q := 375) at_372 rfl (teq (by subst e2 e5 e6 e7 e8 e9 e10 e12 e13 e14 ej283 ej287 ej291 ej296 ej299 ej303 ej308 e310; exact own_w3_0 _ _ _ _ _ _ : v310 = j296)).2 ?_
             refine A.aload (q := 377) at_375 rfl rfl rfl ?_
             refine A.iconst (q := 378) (v := (0 : Int32)) at_377 rfl (by decide) ?_
             refine A.iaload (q := 379) (i := 1) (v := (.int (if (v8 = (-1 : Int32)) ∨ (¬ (v8 = (-1 : Int32)) ∧ ¬ (v12 = (-1 : Int32)) ∧ v12 = v8) ∨ (¬ (v8 = (-1 : Int32)) ∧ v12 = (-1 : Int32)) then ((if v8 = (-1 : Int32) then v12 else (if v12 = (-1 : Int32) then v8 else v12))) else v12))) at_378 rfl rfl (by decide) rfl ?_
             refine A.iload (q := 381) at_379 rfl rfl ?_
             refine A.icmpF (q := 384) at_381 rfl (teq (by subst e2 e5 e6 e7 e8 e9 e10 e12 e13 e14 ej283 ej287 ej291 ej296 ej299 ej303 ej308 e310; exact own_w3_1 _ 0 0 _ 0 0 : (if (v8 = (-1 : Int32)) ∨ (¬ (v8 = (-1 : Int32)) ∧ ¬ (v12 = (-1 : Int32)) ∧ v12 = v8) ∨ (¬ (v8 = (-1 : Int32)) ∧ v12 = (-1 : Int32)) then ((if v8 = (-1 : Int32) then v12 else (if v12 = (-1 : Int32) then v8 else v12))) else v12) = j299)).2 ?_
             refine A.aload (q := 386) at_384 rfl rfl rfl ?_
             refine A.iconst (q := 387) (v := (1 : Int32)) at_386 rfl (by decide) ?_
             refine A.iaload (q := 388) (i := 1) (v := (.int (if (v8 = (-1 : Int32)) ∨ (¬ (v8 = (-1 : Int32)) ∧ ¬ (v12 = (-1 : Int32)) ∧ v12 = v8) ∨ (¬ (v8 = (-1 : Int32)) ∧ v12 = (-1 : Int32)) then (if (v9 = (-1 : Int32)) ∨ (¬ (v9 = (-1 : Int32)) ∧ ¬ (v13 = (-1 : Int32)) ∧ v13 = v9) ∨ (¬ (v9 = (-1 : Int32)) ∧ v13 = (-1 : Int32)) then ((if v9 = (-1 : Int32) then v13 else (if v13 = (-1 : Int32) then v9 else v13))) else v13) else v13))) at_387 rfl rfl (by decide) rfl ?_
             refine A.iload (q := 390) at_388 rfl rfl ?_
             refine A.icmpF (q := 393) at_390 rfl (teq (by subst e2 e5 e6 e7 e8 e9 e10 e12 e13 e14 ej283 ej287 ej291 ej296 ej299 ej303 ej308 e310; exact own_w3_2 _ _ 0 _ _ 0 : (if (v8 = (-1 : Int32)) ∨ (¬ (v8 = (-1 : Int32)) ∧ ¬ (v12 = (-1 : Int32)) ∧ v12 = v8) ∨ (¬ (v8 = (-1 : Int32)) ∧ v12 = (-1 : Int32)) then (if (v9 = (-1 : Int32)) ∨ (¬ (v9 = (-1 : Int32)) ∧ ¬ (v13 = (-1 : Int32)) ∧ v13 = v9) ∨ (¬ (v9 = (-1 : Int32)) ∧ v13 = (-1 : Int32)) then ((if v9 = (-1 : Int32) then v13 else (if v13 = (-1 : Int32) then v9 else v13))) else v13) else v13) = j303)).2 ?_
             refine A.aload (q := 395) at_393 rfl rfl rfl ?_
             refine A.iconst (q := 396) (v := (2 : Int32)) at_395 rfl (by decide) ?_
             refine A.iaload (q := 397) (i := 1) (v := (.int (if (v8 = (-1 : Int32)) ∨ (¬ (v8 = (-1 : Int32)) ∧ ¬ (v12 = (-1 : Int32)) ∧ v12 = v8) ∨ (¬ (v8 = (-1 : Int32)) ∧ v12 = (-1 : Int32)) then (if (v9 = (-1 : Int32)) ∨ (¬ (v9 = (-1 : Int32)) ∧ ¬ (v13 = (-1 : Int32)) ∧ v13 = v9) ∨ (¬ (v9 = (-1 : Int32)) ∧ v13 = (-1 : Int32)) then (if (v10 = (-1 : Int32)) ∨ (¬ (v10 = (-1 : Int32)) ∧ ¬ (v14 = (-1 : Int32)) ∧ v14 = v10) ∨ (¬ (v10 = (-1 : Int32)) ∧ v14 = (-1 : Int32)) then ((if v10 = (-1 : Int32) then v14 else (if v14 = (-1 : Int32) then v10 else v14))) else v14) else v14) else v14))) at_396 rfl rfl (by decide) rfl ?_
             refine A.iload (q := 399) at_397 rfl rfl ?_
             refine A.icmpF (q := 402) at_399 rfl (teq (by subst e2 e5 e6 e7 e8 e9 e10 e12 e13 e14 ej283 ej287 ej291 ej296 ej299 ej303 ej308 e310; exact own_w3_3 _ _ _ _ _ _ : (if (v8 = (-1 : Int32)) ∨ (¬ (v8 = (-1 : Int32)) ∧ ¬ (v12 = (-1 : Int32)) ∧ v12 = v8) ∨ (¬ (v8 = (-1 : Int32)) ∧ v12 = (-1 : Int32)) then (if (v9 = (-1 : Int32)) ∨ (¬ (v9 = (-1 : Int32)) ∧ ¬ (v13 = (-1 : Int32)) ∧ v13 = v9) ∨ (¬ (v9 = (-1 : Int32)) ∧ v13 = (-1 : Int32)) then (if (v10 = (-1 : Int32)) ∨ (¬ (v10 = (-1 : Int32)) ∧ ¬ (v14 = (-1 : Int32)) ∧ v14 = v10) ∨ (¬ (v10 = (-1 : Int32)) ∧ v14 = (-1 : Int32)) then ((if v10 = (-1 : Int32) then v14 else (if v14 = (-1 : Int32) then v10 else v14))) else v14) else v14) else v14) = j308)).2 ?_
             refine A.iconst (q := 403) (v := (1 : Int32)) at_402 rfl (by decide) ?_
             refine A.goto (r := 407) at_403 (by decide) ?_
             exact A.retZ (v := 1) at_407 (by decide) (by decide) (by decide) rfl
            refine A.iload (q := 327) at_325 rfl rfl ?_
            refine A.iconst (q := 328) (v := (2 : Int32)) at_327 rfl (by decide) ?_
            refine A.icmpF (q := 331) at_328 rfl (by decide) ?_
            refine A.iload (q := 333) at_331 rfl rfl ?_
            refine A.if_ne (q := 336) (r := 351) at_333 rfl (by decide) (fun h305 => ?_) (fun h305 => ?_)
            · refine A.iload (q := 353) at_351 rfl rfl ?_
              exact J325_308 T _ (by simp only [if_neg h305]) A
            · refine A.iload (q := 338) at_336 rfl rfl ?_
              refine A.if_ne (q := 341) (r := 351) at_338 rfl (by decide) (fun h306 => ?_) (fun h306 => ?_)
              · refine A.iload (q := 353) at_351 rfl rfl ?_
                exact J325_308 T _ (by simp only [if_neg h306, if_pos h305]) A
              · refine A.iload (q := 343) at_341 rfl rfl ?_
                refine A.iload (q := 345) at_343 rfl rfl ?_
                refine A.callS (q := 348) (w1 := 9) (w2 := 10) (w3 := 3) (w4 := 11) (as := [(.int v10), (.int v14)]) (st := []) (W := 0) at_345 rfl rfl rfl rfl rfl (rmG l Z a0 hw n0 v10 v14 _) (by decide) ⟨_, _, pd_3, rfl⟩ rfl rfl rfl (by decide) (by decide) (by decide) (by decide) ?_
                rintro _ T _ ⟨rfl, rfl⟩ A
                show Go p e below _ (T.setTop (mkF m 348 #[.val (.long sl), .second, .val (.int pp), .val (.int qq), .val (.int rr), .val (.int sh), .val (.int (3 : Int32)), .val (.int (3 : Int32)), .val (.ref b4), .val (.ref b11), .val (.int v12), .val (.int v13), .val (.int v14), .val (.int v8), .val (.int v9), .val (.int v10), .val (.int j283), .val (.int j287), .val (.int j291), .val (.int j296), .val (.int j299), .val (.int j303), .unset, .unset] [(.int (FG v10 v14))]))
                obtain ⟨v307, e307⟩ : ∃ v : Int32, (FG v10 v14) = v := ⟨_, rfl⟩
                rw [e307]
                refine A.goto (r := 353) at_348 (by decide) ?_
                exact J325_308 T _ (by simp only [e307, if_pos h305, if_pos h306]) A
           refine A.iload (q := 302) at_300 rfl rfl ?_
           refine A.iconst (q := 303) (v := (1 : Int32)) at_302 rfl (by decide) ?_
           refine A.icmpF (q := 306) at_303 rfl (by decide) ?_
           refine A.iload (q := 308) at_306 rfl rfl ?_
           refine A.if_ne (q := 311) (r := 321) at_308 rfl (by decide) (fun h301 => ?_) (fun h301 => ?_)
           · refine A.iload (q := 323) at_321 rfl rfl ?_
             exact J300_303 T _ (by simp only [if_neg h301]) A
           · refine A.iload (q := 313) at_311 rfl rfl ?_
             refine A.iload (q := 315) at_313 rfl rfl ?_
             refine A.callS (q := 318) (w1 := 9) (w2 := 10) (w3 := 3) (w4 := 11) (as := [(.int v9), (.int v13)]) (st := []) (W := 0) at_315 rfl rfl rfl rfl rfl (rmG l Z a0 hw n0 v9 v13 _) (by decide) ⟨_, _, pd_3, rfl⟩ rfl rfl rfl (by decide) (by decide) (by decide) (by decide) ?_
             rintro _ T _ ⟨rfl, rfl⟩ A
             show Go p e below _ (T.setTop (mkF m 318 #[.val (.long sl), .second, .val (.int pp), .val (.int qq), .val (.int rr), .val (.int sh), .val (.int (3 : Int32)), .val (.int (3 : Int32)), .val (.ref b4), .val (.ref b11), .val (.int v12), .val (.int v13), .val (.int v14), .val (.int v8), .val (.int v9), .val (.int v10), .val (.int j283), .val (.int j287), .val (.int j291), .val (.int j296), .val (.int j299), .unset, .unset, .unset] [(.int (FG v9 v13))]))
             obtain ⟨v302, e302⟩ : ∃ v : Int32, (FG v9 v13) = v := ⟨_, rfl⟩
             rw [e302]
             refine A.goto (r := 323) at_318 (by decide) ?_
             exact J300_303 T _ (by simp only [e302, if_pos h301]) A
          refine A.iload (q := 283) at_281 rfl rfl ?_
          refine A.ifF (q := 286) at_283 rfl (by decide) ?_
          refine A.iload (q := 288) at_286 rfl rfl ?_
          refine A.iload (q := 290) at_288 rfl rfl ?_
          refine A.callS (q := 293) (w1 := 9) (w2 := 10) (w3 := 3) (w4 := 11) (as := [(.int v8), (.int v12)]) (st := []) (W := 0) at_290 rfl rfl rfl rfl rfl (rmG l Z a0 hw n0 v8 v12 _) (by decide) ⟨_, _, pd_3, rfl⟩ rfl rfl rfl (by decide) (by decide) (by decide) (by decide) ?_
          rintro _ T _ ⟨rfl, rfl⟩ A
          show Go p e below _ (T.setTop (mkF m 293 #[.val (.long sl), .second, .val (.int pp), .val (.int qq), .val (.int rr), .val (.int sh), .val (.int (3 : Int32)), .val (.int (3 : Int32)), .val (.ref b4), .val (.ref b11), .val (.int v12), .val (.int v13), .val (.int v14), .val (.int v8), .val (.int v9), .val (.int v10), .val (.int j283), .val (.int j287), .val (.int j291), .val (.int j296), .unset, .unset, .unset, .unset] [(.int (FG v8 v12))]))
          obtain ⟨v298, e298⟩ : ∃ v : Int32, (FG v8 v12) = v := ⟨_, rfl⟩
          rw [e298]
          refine A.goto (r := 298) at_293 (by decide) ?_
          exact J281_299 T _ (by simp only [e298]) A
         refine A.iload (q := 261) at_259 rfl rfl ?_
         refine A.if_ne (q := 264) (r := 278) at_261 rfl (by decide) (fun h293 => ?_) (fun h293 => ?_)
         · refine A.iconst (q := 279) (v := (0 : Int32)) at_278 rfl (by decide) ?_
           exact J259_296 T _ (by simp only [if_neg h293]) A
         · refine A.iload (q := 266) at_264 rfl rfl ?_
           refine A.if_ne (q := 269) (r := 278) at_266 rfl (by decide) (fun h294 => ?_) (fun h294 => ?_)
           · refine A.iconst (q := 279) (v := (0 : Int32)) at_278 rfl (by decide) ?_
             exact J259_296 T _ (by simp only [if_neg h294, if_pos h293]) A
           · refine A.iload (q := 271) at_269 rfl rfl ?_
             refine A.if_ne (q := 274) (r := 278) at_271 rfl (by decide) (fun h295 => ?_) (fun h295 => ?_)
             · refine A.iconst (q := 279) (v := (0 : Int32)) at_278 rfl (by decide) ?_
               exact J259_296 T _ (by simp only [if_neg h295, if_pos h293, if_pos h294]) A
             · refine A.iconst (q := 275) (v := (1 : Int32)) at_274 rfl (by decide) ?_
               refine A.goto (r := 279) at_275 (by decide) ?_
               exact J259_296 T _ (by simp only [if_pos h293, if_pos h294, if_pos h295]) A
        refine A.iload (q := 238) at_236 rfl rfl ?_
        refine A.iconst (q := 239) (v := (2 : Int32)) at_238 rfl (by decide) ?_
        refine A.icmpF (q := 242) at_239 rfl (by decide) ?_
        refine A.iload (q := 244) at_242 rfl rfl ?_
        refine A.iload (q := 246) at_244 rfl rfl ?_
        refine A.callS (q := 249) (w1 := 6) (w2 := 7) (w3 := 3) (w4 := 8) (as := [(.int v10), (.int v14)]) (st := []) (W := 0) at_246 rfl rfl rfl rfl rfl (rmC l Z a0 hw n0 v10 v14 _) (by decide) ⟨_, _, pd_2, rfl⟩ rfl rfl rfl (by decide) (by decide) (by decide) (by decide) ?_
        rintro _ T _ ⟨rfl, rfl⟩ A
        show Go p e below _ (T.setTop (mkF m 249 #[.val (.long sl), .second, .val (.int pp), .val (.int qq), .val (.int rr), .val (.int sh), .val (.int (3 : Int32)), .val (.int (3 : Int32)), .val (.ref b4), .val (.ref b11), .val (.int v12), .val (.int v13), .val (.int v14), .val (.int v8), .val (.int v9), .val (.int v10), .val (.int j283), .val (.int j287), .unset, .unset, .unset, .unset, .unset, .unset] [(.int (FC v10 v14))]))
        obtain ⟨v289, e289⟩ : ∃ v : Int32, (FC v10 v14) = v := ⟨_, rfl⟩
        rw [e289]
        refine A.if_eq (q := 252) (r := 256) at_249 rfl (by decide) (fun h290 => ?_) (fun h290 => ?_)
        · refine A.iconst (q := 257) (v := (0 : Int32)) at_256 rfl (by decide) ?_
          exact J236_291 T _ (by simp only [e289, if_pos h290]) A
        · refine A.iconst (q := 253) (v := (1 : Int32)) at_252 rfl (by decide) ?_
          refine A.goto (r := 257) at_253 (by decide) ?_
          exact J236_291 T _ (by simp only [e289, if_neg h290]) A
       refine A.iload (q := 215) at_213 rfl rfl ?_
       refine A.iconst (q := 216) (v := (1 : Int32)) at_215 rfl (by decide) ?_
       refine A.icmpF (q := 219) at_216 rfl (by decide) ?_
       refine A.iload (q := 221) at_219 rfl rfl ?_
       refine A.iload (q := 223) at_221 rfl rfl ?_
       refine A.callS (q := 226) (w1 := 6) (w2 := 7) (w3 := 3) (w4 := 8) (as := [(.int v9), (.int v13)]) (st := []) (W := 0) at_223 rfl rfl rfl rfl rfl (rmC l Z a0 hw n0 v9 v13 _) (by decide) ⟨_, _, pd_2, rfl⟩ rfl rfl rfl (by decide) (by decide) (by decide) (by decide) ?_
       rintro _ T _ ⟨rfl, rfl⟩ A
       show Go p e below _ (T.setTop (mkF m 226 #[.val (.long sl), .second, .val (.int pp), .val (.int qq), .val (.int rr), .val (.int sh), .val (.int (3 : Int32)), .val (.int (3 : Int32)), .val (.ref b4), .val (.ref b11), .val (.int v12), .val (.int v13), .val (.int v14), .val (.int v8), .val (.int v9), .val (.int v10), .val (.int j283), .unset, .unset, .unset, .unset, .unset, .unset, .unset] [(.int (FC v9 v13))]))
       obtain ⟨v285, e285⟩ : ∃ v : Int32, (FC v9 v13) = v := ⟨_, rfl⟩
       rw [e285]
       refine A.if_eq (q := 229) (r := 233) at_226 rfl (by decide) (fun h286 => ?_) (fun h286 => ?_)
       · refine A.iconst (q := 234) (v := (0 : Int32)) at_233 rfl (by decide) ?_
         exact J213_287 T _ (by simp only [e285, if_pos h286]) A
       · refine A.iconst (q := 230) (v := (1 : Int32)) at_229 rfl (by decide) ?_
         refine A.goto (r := 234) at_230 (by decide) ?_
         exact J213_287 T _ (by simp only [e285, if_neg h286]) A
      refine A.iload (q := 193) at_191 rfl rfl ?_
      refine A.ifF (q := 196) at_193 rfl (by decide) ?_
      refine A.iload (q := 198) at_196 rfl rfl ?_
      refine A.iload (q := 200) at_198 rfl rfl ?_
      refine A.callS (q := 203) (w1 := 6) (w2 := 7) (w3 := 3) (w4 := 8) (as := [(.int v8), (.int v12)]) (st := []) (W := 0) at_200 rfl rfl rfl rfl rfl (rmC l Z a0 hw n0 v8 v12 _) (by decide) ⟨_, _, pd_2, rfl⟩ rfl rfl rfl (by decide) (by decide) (by decide) (by decide) ?_
      rintro _ T _ ⟨rfl, rfl⟩ A
      show Go p e below _ (T.setTop (mkF m 203 #[.val (.long sl), .second, .val (.int pp), .val (.int qq), .val (.int rr), .val (.int sh), .val (.int (3 : Int32)), .val (.int (3 : Int32)), .val (.ref b4), .val (.ref b11), .val (.int v12), .val (.int v13), .val (.int v14), .val (.int v8), .val (.int v9), .val (.int v10), .unset, .unset, .unset, .unset, .unset, .unset, .unset, .unset] [(.int (FC v8 v12))]))
      obtain ⟨v281, e281⟩ : ∃ v : Int32, (FC v8 v12) = v := ⟨_, rfl⟩
      rw [e281]
      refine A.if_eq (q := 206) (r := 210) at_203 rfl (by decide) (fun h282 => ?_) (fun h282 => ?_)
      · refine A.iconst (q := 211) (v := (0 : Int32)) at_210 rfl (by decide) ?_
        exact J191_283 T _ (by simp only [e281, if_pos h282]) A
      · refine A.iconst (q := 207) (v := (1 : Int32)) at_206 rfl (by decide) ?_
        refine A.goto (r := 211) at_207 (by decide) ?_
        exact J191_283 T _ (by simp only [e281, if_neg h282]) A
set_option maxRecDepth 65536 in
set_option maxHeartbeats 8000000 in
theorem comes_1 {Post : Tables → Env → Array Value → State → Outcome → State → Prop} (hpost : ∀ tb e args s v u, (limb_1_1.after args s (.returned v) u = true ∧ limb_1_2.after args s (.returned v) u = true ∧ True) → FrameEnd s (.returned v) u (Jvm.fieldLocs frame_1_writes args s ++ Jvm.arrayLocs frame_1_arrays args s ++ Jvm.staticLocs frame_1_statics s) 16 128 → Post tb e args s (.returned v) u) :
    ArmFor flags0 classFile x code maxLocals ret World_1 tables_1 room_1 Calls_1 rest_1 Pre_1 Post := by
  intro l hfl _ _ p e ha hc hk s m args below hf hA hF happ hP
  obtain ⟨hcalls, hrest, hpre⟩ := hP
  obtain ⟨-, -, -, hnamed, -, -, -, hat⟩ := (Spec.applies_iff hf).mp happ
  obtain ⟨hg, hn⟩ := and_e (Cond.before_iff.mp (show (Jvm.Cond.and given_1 narrow_1).before args s = true from hpre))
  obtain ⟨g1, hg⟩ := and_e hg
  obtain ⟨gv0, hg⟩ := and_e hg
  obtain ⟨gv1, hg⟩ := and_e hg
  obtain ⟨gv2, hg⟩ := and_e hg
  obtain ⟨gv3, hg⟩ := and_e hg
  have gv4 := hg
  obtain ⟨w0, w1, w2, w3, w4, rfl⟩ : ∃ w0 w1 w2 w3 w4 : Value, args = #[w0, w1, w2, w3, w4] := by
    have hs : args.size = 5 := by simpa [Cond.value, given_1] using g1
    obtain ⟨L⟩ := args
    match L, hs with
    | [w0, w1, w2, w3, w4], _ => exact ⟨w0, w1, w2, w3, w4, rfl⟩
  have hw := fun d (hd : d ∈ tables_1) => atoms_spec (ws := Jvm.Cond.code x code maxLocals ret :: tables_1) hat d (List.mem_cons_of_mem _ hd)
  obtain ⟨i0, ei0⟩ := isL_v gv0
  obtain rfl : w0 = (.long i0) := Option.some.inj ei0
  obtain ⟨i1, ei1⟩ := is_v gv1
  obtain rfl : w1 = (.int i1) := Option.some.inj ei1
  obtain ⟨i2, ei2⟩ := is_v gv2
  obtain rfl : w2 = (.int i2) := Option.some.inj ei2
  obtain ⟨i3, ei3⟩ := is_v gv3
  obtain rfl : w3 = (.int i3) := Option.some.inj ei3
  obtain ⟨i4, ei4⟩ := is_v gv4
  obtain rfl : w4 = (.int i4) := Option.some.inj ei4
  obtain ⟨n, o, h1, h2, h3, _, L, rfl, ⟨N, _, L', rfl, _⟩, hq⟩ := rm0 l s _ hw s.heap.size i0 i1 i2 i3 i4 s.heap tables_1 (Nat.le_refl _) ⟨fun _ q => (nomatch q), List.nodup_nil⟩ p e ha hc hk s m _ below hf ((Spec.applies_iff_loose hf).mp happ).1 ⟨rfl, State.Warmed39.refl s, rfl⟩ trivial
  refine ⟨n, _, h1, h2, h3, hpost _ _ _ _ _ _ ⟨Cond.after_iff.mpr rfl, Cond.after_iff.mpr (eq_i res_at (Term.int_eval (1)) rfl), trivial⟩ ⟨hq.1, hq.2.1, hq.2.2.sift fun y hy => Or.inr (N y hy)⟩⟩
theorem main_1_1 : Claimed_1_1 := comes_1 fun _ _ _ _ _ _ h hF => ⟨h.1, hF⟩
theorem main_1_2 : Claimed_1_2 := comes_1 fun _ _ _ _ _ _ h hF => ⟨h.2.1, hF⟩
end Jvm.Pilot.@@N@@
namespace Jvm.Pilot.@@N@@
open Jvm Jvm.ClassFile Sem Op Lib Jvm.Free Jvm.Stand Jvm.Pilot.@@N@@.Jvm.D
/-! MADE BY PROGRAM (witnessworld.py) out of the Statement's table words and the real class files: 9 classes; the members and pool entries that the words name. The judged class is class 1, her method 4. -/
namespace start1
open Jvm.ClassFile
def u (s : String) : CpInfo := .utf8 (stringToUtf16 s)
/-- a pool by its gaps: so many unusable entries, then the entry; so many at the end -/
def gap : Nat → List CpInfo → List CpInfo
  | 0, r => r
  | n + 1, r => .unusable :: gap n r
def poolList (es : List (Nat × CpInfo)) (last : Nat) : List CpInfo := es.foldr (fun e r => gap e.1 (e.2 :: r)) (gap last [])
def pool (es : List (Nat × CpInfo)) (last : Nat) : Array CpInfo := ⟨poolList es last⟩
def fileOf (pool : Array CpInfo) (this : Nat) (attrs : Array Attribute := #[]) (ms : Array MethodInfo := #[]) (fl : Nat := 33) (sup : Nat := 0) (ifs : Array Nat := #[]) (fds : Array FieldInfo := #[]) : ClassFile where
  minorVersion := 0
  majorVersion := 65
  constantPool := pool
  accessFlags := fl
  thisClass := this
  superClass := sup
  interfaces := ifs
  fields := fds
  methods := ms
  attributes := attrs
def plain (name : String) (sup : Option ClassId) : Class where
  name := name
  kind := .ordinary
  loader := none
  accessFlags := 33
  super := sup
  interfaces := #[]
  cf := none
  fields := #[]
  methods := #[]
  instanceTypes := #[]
  staticTypes := #[]
  resolved := #[]
  callSites := []
  init := .initialized
  statics := none
  mirror := none

def pool0 : Array CpInfo := pool [(5, u "<init>"), (0, u "()V"), (1, .class_ 10), (1, u "java/lang/Object")] 113

def k0m0 : Method := { name := "<init>", desc := "()V", sig := { parameters := [], returnType := none }, accessFlags := 1, code := none }
/-- java/lang/Object -/
def k0 : Class := { plain "java/lang/Object" none with
  accessFlags := 33
  interfaces := #[]
  cf := some (fileOf pool0 8 #[] #[{ accessFlags := 1, nameIndex := 5, descriptorIndex := 6, attributes := #[] }] 33 0 #[] #[])
  fields := #[]
  methods := #[k0m0]
  instanceTypes := #[]
  staticTypes := #[]
  resolved := Array.replicate 124 none
  statics := none }

def pool1 : Array CpInfo := pool [(2, .class_ 4), (1, u "java/lang/Object"), (0, u "<init>"), (0, u "()V"), (0, .long 3), (1, .methodref 10 11), (0, .class_ 12), (0, .nameAndType 13 14), (0, u "com/example/triplemill/triplemill/engine/RowBufferMergeIntoPinLaw"), (0, u "pick"), (0, u "(JIIII)I"), (0, .methodref 10 16), (0, .nameAndType 17 18), (0, u "conflict"), (0, u "(II)Z"), (0, .methodref 10 20), (0, .nameAndType 21 22), (0, u "merged"), (0, u "(II)I"), (0, .methodref 24 25), (0, .class_ 26), (0, .nameAndType 27 28), (0, u "com/example/triplemill/triplemill/engine/RowBuffer"), (0, u "mergeInto"), (0, u "([III[I)Z"), (3, u "law"), (0, u "(JIIII)Z")] 4

def k1m0 : Method := { name := "<init>", desc := "()V", sig := { parameters := [], returnType := none }, accessFlags := 1, code := none }
def k1c1 : Code := { maxStack := 4, maxLocals := 7, code := method_2_code, exceptionTable := #[], attributes := #[] }
def k1m1 : Method := { name := "pick", desc := "(JIIII)I", sig := { parameters := [.long, .int, .int, .int, .int], returnType := some .int }, accessFlags := 10, code := some k1c1 }
def k1c2 : Code := { maxStack := 2, maxLocals := 2, code := method_3_code, exceptionTable := #[], attributes := #[] }
def k1m2 : Method := { name := "conflict", desc := "(II)Z", sig := { parameters := [.int, .int], returnType := some .boolean }, accessFlags := 10, code := some k1c2 }
def k1c3 : Code := { maxStack := 2, maxLocals := 2, code := method_4_code, exceptionTable := #[], attributes := #[] }
def k1m3 : Method := { name := "merged", desc := "(II)I", sig := { parameters := [.int, .int], returnType := some .int }, accessFlags := 10, code := some k1c3 }
def k1c4 : Code := { maxStack := 8, maxLocals := 24, code := code, exceptionTable := #[], attributes := #[] }
def k1m4 : Method := { name := "law", desc := "(JIIII)Z", sig := { parameters := [.long, .int, .int, .int, .int], returnType := some .boolean }, accessFlags := 9, code := some k1c4 }
/-- com/example/triplemill/triplemill/engine/RowBufferMergeIntoPinLaw -/
def k1 : Class := { plain "com/example/triplemill/triplemill/engine/RowBufferMergeIntoPinLaw" (some 0) with
  accessFlags := 49
  interfaces := #[]
  cf := some (fileOf pool1 10 #[] #[{ accessFlags := 1, nameIndex := 5, descriptorIndex := 6, attributes := #[] }, { accessFlags := 10, nameIndex := 13, descriptorIndex := 14, attributes := #[] }, { accessFlags := 10, nameIndex := 17, descriptorIndex := 18, attributes := #[] }, { accessFlags := 10, nameIndex := 21, descriptorIndex := 22, attributes := #[] }, { accessFlags := 9, nameIndex := 32, descriptorIndex := 33, attributes := #[] }] 49 2 #[] #[])
  fields := #[]
  methods := #[k1m0, k1m1, k1m2, k1m3, k1m4]
  instanceTypes := #[]
  staticTypes := #[]
  resolved := Array.replicate 38 none
  statics := none }

def pool2 : Array CpInfo := pool [(4, .class_ 6), (1, u "java/lang/Object"), (2, .class_ 10), (0, u "com/example/triplemill/triplemill/engine/RowBuffer"), (2, u "values"), (0, u "[I"), (2, u "width"), (0, u "I"), (2, u "workspace"), (0, u "Lcom/example/triplemill/triplemill/spill/Workspace;"), (4, u "bytesPerRow"), (0, u "J"), (6, u "reserved"), (14, u "size"), (44, .class_ 96), (0, u "com/example/triplemill/triplemill/engine/RowBuffer$1"), (5, u "mergeInto"), (0, u "([III[I)Z"), (2, u "MAX_VALUES"), (1, u "FIRST_VALUES")] 36

def k2c0 : Code := { maxStack := 3, maxLocals := 6, code := prog_59_method_15_code, exceptionTable := #[], attributes := #[] }
def k2m0 : Method := { name := "mergeInto", desc := "([III[I)Z", sig := { parameters := [(.array .int), .int, .int, (.array .int)], returnType := some .boolean }, accessFlags := 8, code := some k2c0 }
/-- com/example/triplemill/triplemill/engine/RowBuffer -/
def k2 : Class := { plain "com/example/triplemill/triplemill/engine/RowBuffer" (some 0) with
  accessFlags := 48
  interfaces := #[]
  cf := some (fileOf pool2 9 #[.nestMembers #[95]] #[{ accessFlags := 8, nameIndex := 102, descriptorIndex := 103, attributes := #[] }] 48 4 #[] #[{ accessFlags := 26, nameIndex := 106, descriptorIndex := 18, attributes := #[] }, { accessFlags := 26, nameIndex := 108, descriptorIndex := 18, attributes := #[] }, { accessFlags := 18, nameIndex := 17, descriptorIndex := 18, attributes := #[] }, { accessFlags := 18, nameIndex := 21, descriptorIndex := 22, attributes := #[] }, { accessFlags := 18, nameIndex := 27, descriptorIndex := 28, attributes := #[] }, { accessFlags := 2, nameIndex := 35, descriptorIndex := 28, attributes := #[] }, { accessFlags := 2, nameIndex := 13, descriptorIndex := 14, attributes := #[] }, { accessFlags := 2, nameIndex := 50, descriptorIndex := 18, attributes := #[] }])
  fields := #[{ name := "MAX_VALUES", type := .int, accessFlags := 26, slot := 0, constantValue := 0 }, { name := "FIRST_VALUES", type := .int, accessFlags := 26, slot := 1, constantValue := 0 }, { name := "width", type := .int, accessFlags := 18, slot := 0, constantValue := 0 }, { name := "workspace", type := (.object "com/example/triplemill/triplemill/spill/Workspace"), accessFlags := 18, slot := 1, constantValue := 0 }, { name := "bytesPerRow", type := .long, accessFlags := 18, slot := 2, constantValue := 0 }, { name := "reserved", type := .long, accessFlags := 2, slot := 3, constantValue := 0 }, { name := "values", type := (.array .int), accessFlags := 2, slot := 4, constantValue := 0 }, { name := "size", type := .int, accessFlags := 2, slot := 5, constantValue := 0 }]
  methods := #[k2m0]
  instanceTypes := #[.int, (.object "com/example/triplemill/triplemill/spill/Workspace"), .long, .long, (.array .int), .int]
  staticTypes := #[.int, .int]
  resolved := Array.replicate 145 none
  statics := none }

def pool3 : Array CpInfo := pool [(1, u "java/lang/Cloneable"), (0, .class_ 1), (0, u "java/lang/Object"), (0, .class_ 3)] 3

/-- java/lang/Cloneable -/
def k3 : Class := { plain "java/lang/Cloneable" (some 0) with
  accessFlags := 1537
  interfaces := #[]
  cf := some (fileOf pool3 2 #[] #[] 1537 4 #[] #[])
  fields := #[]
  methods := #[]
  instanceTypes := #[]
  staticTypes := #[]
  resolved := Array.replicate 8 none
  statics := none }

def pool4 : Array CpInfo := pool [(1, u "java/io/Serializable"), (0, .class_ 1), (0, u "java/lang/Object"), (0, .class_ 3)] 3

/-- java/io/Serializable -/
def k4 : Class := { plain "java/io/Serializable" (some 0) with
  accessFlags := 1537
  interfaces := #[]
  cf := some (fileOf pool4 2 #[] #[] 1537 4 #[] #[])
  fields := #[]
  methods := #[]
  instanceTypes := #[]
  staticTypes := #[]
  resolved := Array.replicate 8 none
  statics := none }

/-- the primitive byte -/
def k5 : Class := { plain "byte" none with kind := .primitive 'B', accessFlags := 0x411 }
/-- [B -/
def k6 : Class := { plain "[B" (some 0) with kind := .array 5 .byte, interfaces := #[3, 4], accessFlags := 1041 }

/-- the primitive int -/
def k7 : Class := { plain "int" none with kind := .primitive 'I', accessFlags := 0x411 }
/-- [I -/
def k8 : Class := { plain "[I" (some 0) with kind := .array 7 .int, interfaces := #[3, 4], accessFlags := 1041 }

def heap : Heap := #[]
def classes : Array Class := #[k0, k1, k2, k3, k4, k5, k6, k7, k8]
def interned : List (Array UInt16 × Addr) := []
def slotsUsed : Nat := 0
def theMethod : MethodId := ⟨1, 4⟩
def args0 : Array Value := #[.long 50, .int 51, .int 52, .int 5, .int 9]
def aboutOver (below : List Frame) : State where
  vm := { classes := classes, interned := interned.toArray }
  heap := heap
  slotsUsed := slotsUsed
  threads := #[{ frames := .invoking theMethod args0 :: below }]
def below0 : List Frame := [.native { method := ⟨0, 0⟩, args := #[] }]
def about1 : State := aboutOver below0
def p0 : Program := .bare "" "" ""
def e0 : Env := launch0.env 0 0 0
theorem w_frames : about1.frames = Frame.invoking theMethod args0 :: below0 := rfl
set_option maxRecDepth 65536 in
theorem w_args : argsFit about1.vm theMethod args0 = true := by decide +kernel
set_option maxRecDepth 65536 in
theorem w_heap : heapFits about1 = true := by decide +kernel
set_option maxRecDepth 65536 in
theorem w_runnable : about1.curStatus? = some .runnable := by decide +kernel
set_option maxRecDepth 65536 in
theorem w_alone : about1.alone = true := by decide +kernel
set_option maxRecDepth 65536 in
theorem w_named : about1.methodNamed? x = some theMethod := by decide +kernel
set_option maxRecDepth 65536 in
theorem w_hears : about1.hears theMethod below0 = true := by decide +kernel
set_option maxRecDepth 65536 in
theorem w_ripe : about1.ripe theMethod args0 below0 = true := by decide +kernel
theorem w_running : about1.status = .running := rfl
set_option maxRecDepth 65536 in
theorem w_room : about1.hasRoom e0.platform room_1 = true :=
  launch0.hasRoom_least _ room_1 (by decide +kernel) (by decide +kernel) (by decide +kernel) (by decide +kernel) (by decide +kernel) (by decide +kernel)
theorem allAtoms_all (ts : List Jvm.Cond) (a : Array Jvm.Value) (st : Jvm.State) : (allAtoms ts).before a st = ts.all (fun c => c.before a st) := by
  induction ts with
  | nil => rfl
  | cons c t ih =>
    show (Jvm.Cond.and c (allAtoms t)).before a st = _
    rw [Jvm.Cond.before_and, ih, List.all_cons]
def words1 : List Jvm.Cond := Jvm.Cond.code x code maxLocals ret :: tables_1
/-- a 'code' word, met by the world's own term for the bytes: nothing is compared byte by byte -/
theorem code_word {y : MethodName} {bytes : ByteArray} {mx : Nat} {rt : Option FieldType} {a : Array Value} {s : State} {m : MethodId} {meth : Method} {c : Code} (h1 : s.methodNamed? y = some m) (h2 : s.vm.method? m = some meth) (h3 : meth.code = some c) (h4 : c.code = bytes)
    (h5 : (c.maxLocals == mx && c.exceptionTable.isEmpty && decide (c.maxStack ≤ mostOperands) && decide (meth.sig.returnType = rt) && !meth.locks && decide (parseMethodDescriptor y.desc = some meth.sig)) = true) : (Jvm.Cond.code y bytes mx rt).before a s = true := by
  simp only [Bool.and_eq_true, beq_iff_eq, Bool.not_eq_true', decide_eq_true_eq] at h5
  obtain ⟨⟨⟨⟨⟨g1, g2⟩, g3⟩, g4⟩, g5⟩, g6⟩ := h5
  simp [Cond.before, Cond.holds, Cond.value, h1, h2, h3, h4, g1, g2, g3, g4, g5, g6]
def isCode : Jvm.Cond → Bool
  | .code _ _ _ _ => true
  | _ => false
theorem all_split {L : List Jvm.Cond} {P : Jvm.Cond → Bool} (h1 : L.all (fun c => isCode c || P c) = true) (h2 : ∀ c ∈ L.filter isCode, P c = true) : L.all P = true := by
  refine List.all_eq_true.mpr fun c hc => ?_
  have h := List.all_eq_true.mp h1 c hc
  rcases Bool.eq_false_or_eq_true (isCode c) with hi | hi
  · exact h2 c (List.mem_filter.mpr ⟨hc, hi⟩)
  · simpa [hi] using h
set_option maxRecDepth 65536 in
theorem w_c0 : (Jvm.Cond.code x code maxLocals ret).before args0 about1 = true := code_word (m := ⟨1, 4⟩) (meth := k1m4) (c := k1c4) (by decide +kernel) rfl rfl rfl (by decide +kernel)
set_option maxRecDepth 65536 in
theorem w_c1 : (Jvm.Cond.code ({ cls := "com/example/triplemill/triplemill/engine/RowBufferMergeIntoPinLaw", name := "pick", desc := "(JIIII)I" } : Jvm.MethodName) method_2_code (7 : Nat) (Option.some Jvm.ClassFile.FieldType.int)).before args0 about1 = true := code_word (m := ⟨1, 1⟩) (meth := k1m1) (c := k1c1) (by decide +kernel) rfl rfl rfl (by decide +kernel)
set_option maxRecDepth 65536 in
theorem w_c2 : (Jvm.Cond.code ({ cls := "com/example/triplemill/triplemill/engine/RowBufferMergeIntoPinLaw", name := "conflict", desc := "(II)Z" } : Jvm.MethodName) method_3_code (2 : Nat) (Option.some Jvm.ClassFile.FieldType.boolean)).before args0 about1 = true := code_word (m := ⟨1, 2⟩) (meth := k1m2) (c := k1c2) (by decide +kernel) rfl rfl rfl (by decide +kernel)
set_option maxRecDepth 65536 in
theorem w_c3 : (Jvm.Cond.code ({ cls := "com/example/triplemill/triplemill/engine/RowBufferMergeIntoPinLaw", name := "merged", desc := "(II)I" } : Jvm.MethodName) method_4_code (2 : Nat) (Option.some Jvm.ClassFile.FieldType.int)).before args0 about1 = true := code_word (m := ⟨1, 3⟩) (meth := k1m3) (c := k1c3) (by decide +kernel) rfl rfl rfl (by decide +kernel)
set_option maxRecDepth 65536 in
theorem w_c4 : (Jvm.Cond.code ({ cls := "com/example/triplemill/triplemill/engine/RowBuffer", name := "mergeInto", desc := "([III[I)Z" } : Jvm.MethodName) prog_59_method_15_code (6 : Nat) (Option.some Jvm.ClassFile.FieldType.boolean)).before args0 about1 = true := code_word (m := ⟨2, 0⟩) (meth := k2m0) (c := k2c0) (by decide +kernel) rfl rfl rfl (by decide +kernel)
def codes1 : List Jvm.Cond := [Jvm.Cond.code x code maxLocals ret, Jvm.Cond.code ({ cls := "com/example/triplemill/triplemill/engine/RowBufferMergeIntoPinLaw", name := "pick", desc := "(JIIII)I" } : Jvm.MethodName) method_2_code (7 : Nat) (Option.some Jvm.ClassFile.FieldType.int), Jvm.Cond.code ({ cls := "com/example/triplemill/triplemill/engine/RowBufferMergeIntoPinLaw", name := "conflict", desc := "(II)Z" } : Jvm.MethodName) method_3_code (2 : Nat) (Option.some Jvm.ClassFile.FieldType.boolean), Jvm.Cond.code ({ cls := "com/example/triplemill/triplemill/engine/RowBufferMergeIntoPinLaw", name := "merged", desc := "(II)I" } : Jvm.MethodName) method_4_code (2 : Nat) (Option.some Jvm.ClassFile.FieldType.int), Jvm.Cond.code ({ cls := "com/example/triplemill/triplemill/engine/RowBuffer", name := "mergeInto", desc := "([III[I)Z" } : Jvm.MethodName) prog_59_method_15_code (6 : Nat) (Option.some Jvm.ClassFile.FieldType.boolean)]
set_option maxRecDepth 65536 in
theorem codes_eq : words1.filter isCode = codes1 := rfl
theorem w_codes : ∀ c ∈ words1.filter isCode, c.before args0 about1 = true := by
  rw [codes_eq]
  intro c hc
  simp only [codes1, List.mem_cons, List.not_mem_nil, or_false] at hc
  rcases hc with rfl | rfl | rfl | rfl | rfl
  · exact w_c0
  · exact w_c1
  · exact w_c2
  · exact w_c3
  · exact w_c4
set_option maxRecDepth 65536 in
theorem w_t1 : words1.all (fun c => isCode c || c.before args0 about1) = true := by decide +kernel
theorem w_tables : (allAtoms (Jvm.Cond.code x code maxLocals ret :: tables_1)).before args0 about1 = true := by
  rw [allAtoms_all]
  show words1.all (fun c => c.before args0 about1) = true
  refine all_split ?_ w_codes
  rw [w_t1]
set_option maxRecDepth 65536 in
theorem w_case : (Jvm.Cond.and given_1 narrow_1).before args0 about1 = true := by decide +kernel
theorem w_applies : (headSpec (Jvm.Cond.code x code maxLocals ret :: tables_1) room_1).applies x e0.platform about1 = true :=
  (Spec.applies_iff w_frames).mpr ⟨w_running, w_runnable, w_alone, w_named, w_hears, w_ripe, w_room, w_tables⟩
theorem atStart : AtStart classFile x code maxLocals ret World_1 tables_1 room_1 Calls_1 rest_1 Pre_1 launch0 p0 e0 about1 theMethod args0 below0 :=
  ⟨lists_1, trivial, launch0.admits_env _ _ _, launch0.least_env, fairChoices_fair.cas, fairChoices_fair.clock, w_frames, w_args, w_heap, w_applies, trivial, trivial, w_case⟩
end start1
theorem witness_1 : WitnessClaimed_1 := ⟨start1.p0, start1.e0, start1.about1, start1.theMethod, start1.args0, start1.below0, start1.atStart⟩
end Jvm.Pilot.@@N@@
