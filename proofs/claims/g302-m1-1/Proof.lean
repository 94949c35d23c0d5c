import JvmDerived
import JvmDerived.Pilot.@@N@@Statement
import JvmDerived.Pilot.@@N@@Code
set_option linter.unusedVariables false
set_option linter.unusedSimpArgs false
namespace Jvm.Pilot.@@N@@
open Jvm Jvm.ClassFile Sem Op Lib Jvm.Free Jvm.Stand Jvm.LawKit Jvm.RoadKit Bundle Jvm.Pilot.@@N@@.Jvm.D
/-! ## the own layer: a picture of the heap, one fact for where a walk stands, steps in continuation form -/
abbrev Ob : Type := Sum (String × List ((String × String × String) × Value)) (FieldType × List Value)
abbrev Obs : Type := List (Addr × Ob)
def Ara (Z : State) (h : Heap) (a : Addr) (ty : FieldType) (vs : List Value) : Prop :=
  ∃ c : Cell, Arr Z h a c ty ∧ c.slots = vs.toArray ∧ vs.length < 2 ^ 31 ∧ (∀ v ∈ vs, fits ty v = true) ∧ Exa Z h a ("[" ++ ty.toString)
def Is (Z : State) (h : Heap) (a : Addr) (o : Ob) : Prop :=
  match o with
  | .inl q => Exa Z h a q.1 ∧ ∀ f ∈ q.2, Fld Z h a f.1.1 f.1.2.1 f.1.2.2 f.2
  | .inr q => Ara Z h a q.1 q.2
def Pic (Z : State) (n0 : Nat) (h : Heap) (L : Obs) : Prop := (∀ q ∈ L, n0 ≤ q.1 ∧ Is Z h q.1 q.2) ∧ (L.map Prod.fst).Nodup
def Lays (Z : State) (a0 : Array Value) (C : String) (fn : List (String × String × String)) : Prop :=
  (∀ q ∈ fn, Laid Z a0 C q.1 q.2.1 q.2.2 ∧ ∃ t, parseFieldDescriptor q.2.2 = some t) ∧ (fn.map fun q => q.2.1).Nodup
section Pics
variable {Z : State} {h h' : Heap} {a b : Addr} {o o' : Ob} {n0 : Nat} {L L' : Obs} {sl : Nat} {v : Value} {a0 : Array Value}
theorem Is.lt (I : Is Z h a o) : a < h.size := by
  cases o with
  | inl q => exact I.1.lt
  | inr q => obtain ⟨c, A, _⟩ := I; exact A.lt
theorem Is.ext (E : Ext h h') (I : Is Z h a o) : Is Z h' a o := by
  cases o with
  | inl q => exact ⟨I.1.ext E, fun f hf => (I.2 f hf).ext E⟩
  | inr q => obtain ⟨c, A, r1, r2, r3, r4⟩ := I; exact ⟨c, A.ext E, r1, r2, r3, r4.ext E⟩
theorem Is.other (W : Wr h h' b sl v) (ne : a ≠ b) (I : Is Z h a o) : Is Z h' a o := by
  cases o with
  | inl q => exact ⟨I.1.wr W, fun f hf => (I.2 f hf).other W (Or.inl ne)⟩
  | inr q => obtain ⟨c, A, r1, r2, r3, r4⟩ := I; exact ⟨c, A.other W ne, r1, r2, r3, r4.wr W⟩
theorem nodup_get {α : Type} : ∀ {l : List α} {i j : Nat} {x : α}, l.Nodup → l[i]? = some x → l[j]? = some x → i = j
  | [], i, j, x, _, h, _ => by simp at h
  | y :: t, 0, 0, x, _, _, _ => rfl
  | y :: t, 0, j + 1, x, hn, h1, h2 => by
    simp at h1 h2; subst h1
    exact absurd (List.mem_of_getElem? h2) (List.nodup_cons.mp hn).1
  | y :: t, i + 1, 0, x, hn, h1, h2 => by
    simp at h1 h2; subst h2
    exact absurd (List.mem_of_getElem? h1) (List.nodup_cons.mp hn).1
  | y :: t, i + 1, j + 1, x, hn, h1, h2 => by
    simp at h1 h2
    rw [nodup_get (List.nodup_cons.mp hn).2 h1 h2]
theorem mem_set_get {α : Type} {l : List α} {i : Nat} {x q : α} (h : q ∈ l.set i x) : q = x ∨ ∃ j, j ≠ i ∧ l[j]? = some q := by
  obtain ⟨j, hj⟩ := List.mem_iff_getElem?.mp h
  by_cases e : j = i
  · subst e
    rw [List.getElem?_set] at hj
    by_cases hl : j < l.length
    · simp [hl] at hj; exact Or.inl hj.symm
    · simp [hl] at hj
  · rw [List.getElem?_set_ne (Ne.symm e)] at hj
    exact Or.inr ⟨j, e, hj⟩
theorem Pic.new (P : Pic Z n0 h L) (E : Ext h h') (Z0 : n0 ≤ h.size) (I : Is Z h' h.size o) : Pic Z n0 h' ((h.size, o) :: L) := by
  refine ⟨fun q hq => ?_, ?_⟩
  · rcases List.mem_cons.mp hq with rfl | hq
    · exact ⟨Z0, I⟩
    · exact ⟨(P.1 q hq).1, (P.1 q hq).2.ext E⟩
  · show (h.size :: L.map Prod.fst).Nodup
    refine List.nodup_cons.mpr ⟨fun hm => ?_, P.2⟩
    obtain ⟨q, hq, e⟩ := List.mem_map.mp hm
    have lt := (P.1 q hq).2.lt
    rw [e] at lt
    exact Nat.lt_irrefl _ lt
theorem map_set_same {α β : Type} (f : α → β) : ∀ {l : List α} {i : Nat} {x y : α}, l[i]? = some x → f y = f x → (l.set i y).map f = l.map f
  | [], i, x, y, h, _ => by simp at h
  | z :: t, 0, x, y, h, e => by simp at h; subst h; simp [e]
  | z :: t, i + 1, x, y, h, e => by simp at h; simp [map_set_same f h e]
theorem Pic.set {i : Nat} (P : Pic Z n0 h L) (W : Wr h h' a sl v) (hi : L[i]? = some (a, o)) (I : Is Z h' a o') : Pic Z n0 h' (L.set i (a, o')) := by
  refine ⟨fun q hq => ?_, ?_⟩
  · rcases mem_set_get hq with rfl | ⟨j, ne, hj⟩
    · exact ⟨(P.1 _ (List.mem_of_getElem? hi)).1, I⟩
    · refine ⟨(P.1 _ (List.mem_of_getElem? hj)).1, (P.1 _ (List.mem_of_getElem? hj)).2.other W fun e => ne ?_⟩
      refine nodup_get P.2 (x := a) ?_ ?_
      · rw [List.getElem?_map, hj]; simp [e]
      · rw [List.getElem?_map, hi]; simp
  · rw [map_set_same Prod.fst (y := (a, o')) hi rfl]; exact P.2
theorem front_perm {α : Type} : ∀ {l : List α} {i : Nat} {x : α}, l[i]? = some x → List.Perm (x :: l.eraseIdx i) l
  | [], i, x, h => by simp at h
  | z :: t, 0, x, h => by simp at h; subst h; exact List.Perm.refl _
  | z :: t, i + 1, x, h => by
    simp at h
    exact (List.Perm.swap z x _).trans ((front_perm h).cons z)
theorem Pic.perm (P : Pic Z n0 h L) (q : List.Perm L' L) : Pic Z n0 h L' :=
  ⟨fun x hx => P.1 x (q.mem_iff.mp hx), ((q.map Prod.fst).nodup_iff).mpr P.2⟩
theorem Pic.front {i : Nat} {x : Addr × Ob} (P : Pic Z n0 h L) (hi : L[i]? = some x) : Pic Z n0 h (x :: L.eraseIdx i) := P.perm (front_perm hi)
theorem Pic.ne {i j : Nat} {x y : Ob} (P : Pic Z n0 h L) (hi : L[i]? = some (a, x)) (hj : L[j]? = some (b, y)) (hn : i ≠ j) : a ≠ b := fun e => hn (by
  subst e
  refine nodup_get P.2 (x := a) ?_ ?_
  · rw [List.getElem?_map, hi]; simp
  · rw [List.getElem?_map, hj]; simp)
theorem Is.put {C O n d : String} {fs : List ((String × String × String) × Value)} {j : Nat} {old : Value} (W : Wr h h' a (Jvm.RoadKit.slotOf Z O n d) v) (hl : Lays Z a0 C (fs.map Prod.fst)) (I : Is Z h a (.inl (C, fs))) (hf : fs[j]? = some ((O, n, d), old)) : Is Z h' a (.inl (C, fs.set j ((O, n, d), v))) := by
  refine ⟨I.1.wr W, fun f hm => ?_⟩
  rcases mem_set_get hm with rfl | ⟨i, ne, hi⟩
  · exact Fld.same W (I.2 ((O, n, d), old) (List.mem_of_getElem? hf))
  · have g1 : (fs.map Prod.fst)[i]? = some f.1 := by rw [List.getElem?_map, hi]; rfl
    have g2 : (fs.map Prod.fst)[j]? = some (O, n, d) := by rw [List.getElem?_map, hf]; rfl
    obtain ⟨l1, t1, p1⟩ := hl.1 _ (List.mem_of_getElem? g1)
    obtain ⟨l2, t2, p2⟩ := hl.1 _ (List.mem_of_getElem? g2)
    refine (I.2 _ (List.mem_of_getElem? hi)).other W (Or.inr (slot_ne l1 l2 (fun e => ne ?_) p1 p2))
    refine nodup_get hl.2 (x := n) ?_ ?_
    · rw [List.getElem?_map, g1]; simp [← e]
    · rw [List.getElem?_map, g2]; try rfl
theorem Ara.put {ty : FieldType} {vs : List Value} {j : Int32} (I : Ara Z h a ty vs) (W : Wr h h' a j.toNatClampNeg v) (hf : fits ty v = true) : Ara Z h' a ty (vs.set j.toNatClampNeg v) := by
  obtain ⟨c, A, r1, r2, r3, r4⟩ := I
  refine ⟨c.setSlot j.toNatClampNeg v, A.same W, ?_, by rw [List.length_set]; exact r2, fun x hx => ?_, r4.wr W⟩
  · show c.slots.setIfInBounds _ _ = _
    rw [r1]; simp
  · rcases mem_set_get hx with rfl | ⟨i, _, hi⟩
    · exact hf
    · exact r3 _ (List.mem_of_getElem? hi)
theorem fits_def (aty : ArrayType) : fits (newarray.typeOf aty) (defaultValue (newarray.typeOf aty)) = true := by cases aty <;> decide
theorem Is.keep {ws : List Addr} (K : Keep h h' ws) (hn : a ∉ ws) (I : Is Z h a o) : Is Z h' a o := by
  cases o with
  | inl q => exact ⟨I.1.keep K, fun f hf => (I.2 f hf).keep K hn⟩
  | inr q => obtain ⟨c, A, r1, r2, r3, r4⟩ := I; exact ⟨c, ⟨K.2.1 a c A.1 hn, A.2⟩, r1, r2, r3, r4.keep K⟩
theorem Pic.setK {i : Nat} (P : Pic Z n0 h L) (K : Keep h h' [a]) (hi : L[i]? = some (a, o)) (I : Is Z h' a o') : Pic Z n0 h' (L.set i (a, o')) := by
  refine ⟨fun q hq => ?_, ?_⟩
  · rcases mem_set_get hq with rfl | ⟨j, ne, hj⟩
    · exact ⟨(P.1 _ (List.mem_of_getElem? hi)).1, I⟩
    · refine ⟨(P.1 _ (List.mem_of_getElem? hj)).1, (P.1 _ (List.mem_of_getElem? hj)).2.keep K fun e => ne ?_⟩
      have e := List.mem_singleton.mp e
      refine nodup_get P.2 (x := a) ?_ ?_
      · rw [List.getElem?_map, hj]; simp [e]
      · rw [List.getElem?_map, hi]; simp
  · rw [map_set_same Prod.fst (y := (a, o')) hi rfl]; exact P.2
theorem Arv.toAra {k : ClassId} {ty : FieldType} {z : Int32} {vs : List Value} {dv : Value} (V : Arv Z h a k ty z vs dv) (hz : z.toNatClampNeg = vs.length) (hl : vs.length < 2 ^ 31) (E : Exa Z h a ("[" ++ ty.toString)) : Ara Z h a ty vs := by
  obtain ⟨c, A, q1, q2, q3, H, G⟩ := V
  refine ⟨c, A, ?_, hl, fun v hv => ?_, E⟩
  · refine Array.ext_getElem? fun i => ?_
    by_cases hi : i < c.slots.size
    · rw [H i hi, List.getElem?_toArray, List.getD_eq_getElem?_getD]
      have : i < vs.length := by omega
      rw [List.getElem?_eq_getElem this]; rfl
    · rw [Array.getElem?_eq_none (by omega), List.getElem?_toArray, List.getElem?_eq_none (by omega)]
  · obtain ⟨i, hi⟩ := List.mem_iff_getElem?.mp hv
    have hlt := (List.getElem?_eq_some_iff.mp hi).1
    have := G i (by omega)
    rw [List.getD_eq_getElem?_getD, hi] at this
    exact this
theorem Ara.toArv {ty : FieldType} {vs : List Value} (I : Ara Z h a ty vs) (dv : Value) : ∃ k, Arv Z h a k ty vs.length.toInt32 vs dv ∧ vs.length.toInt32.toNatClampNeg = vs.length ∧ ¬ vs.length.toInt32 < 0 := by
  obtain ⟨c, A, r1, r2, r3, r4⟩ := I
  have e1 : vs.length.toInt32.toInt = vs.length := len_toInt r2
  have e2 : vs.length.toInt32.toNatClampNeg = vs.length := by simp only [Int32.toNatClampNeg, e1]; omega
  have e3 : ¬ vs.length.toInt32 < 0 := by rw [Int32.lt_iff_toInt_lt, e1]; simp only [Int32.reduceToInt]; omega
  have e4 : c.slots.size = vs.length := by rw [r1]; simp
  refine ⟨c.cls, ⟨c, A, rfl, by omega, e3, fun k hk => ?_, fun k hk => ?_⟩, e2, e3⟩
  · have : k < vs.length := by omega
    rw [r1, List.getElem?_toArray, List.getElem?_eq_getElem this, List.getD_eq_getElem?_getD, List.getElem?_eq_getElem this]; rfl
  · have : k < vs.length := by omega
    rw [List.getD_eq_getElem?_getD, List.getElem?_eq_getElem this]
    exact r3 _ (List.getElem_mem this)
end Pics
def Go (p : Program) (e : Env) (below : List Frame) (F : State → Prop) (U : State) : Prop := ∃ t, Steps p.tables e below U t ∧ F t
theorem Go.st {p : Program} {e : Env} {below : List Frame} {F : State → Prop} {U U' : State} (h : ∀ t, Steps p.tables e below U' t → Steps p.tables e below U t) (g : Go p e below F U') : Go p e below F U := by
  obtain ⟨t, s, f⟩ := g; exact ⟨t, h t s, f⟩
def Here (p : Program) (l : Launch) (e : Env) (R : Room) (s : State) (m : MethodId) (args : Array Value) (below : List Frame) (meth : Method) (c : Code) (Z : State) (a0 : Array Value) (tbl : List Jvm.Cond) (own nm : String) (bc : ByteArray) (mxl : Nat) (rt : Option FieldType) (n0 : Nat) (T : State) (L : Obs) (cells slots : Nat) : Prop :=
  (p.tables.exec = Jvm.exec ∧ Z.Warmed39 s.vm ∧ s.vm.findClass own = some m.cls ∧ c.code = bc ∧ c.maxLocals = mxl ∧ (∀ d ∈ tbl, d.before a0 Z = true) ∧ meth.name = nm ∧ meth.sig.returnType = rt ∧ meth.locks = false) ∧
  ∃ locs, Stand p l e R s m args below meth c T locs cells slots ∧ Fr n0 locs ∧ n0 ≤ T.heap.size ∧ Pic Z n0 T.heap L
def EndS (below : List Frame) (s : State) (n0 : Nat) (Z : State) (kc ks : Nat) (Q : Option Value → Obs → Prop) (t : State) : Prop :=
  ∃ o, t.status = .running ∧ Ended t below o ∧ ∃ v Lc, o = .returned v ∧ (Fr n0 Lc ∧ n0 ≤ t.heap.size ∧ ∃ L', Q v L' ∧ Pic Z n0 t.heap L') ∧ FrameEnd s o t Lc kc ks
def Triple (l : Launch) (Z : State) (n0 : Nat) (y : MethodName) (bytes : ByteArray) (ml : Nat) (rt : Option FieldType) (rm : Room) (kc ks : Nat) (as : List Value) (L : Obs) (Q : Option Value → Obs → Prop) : Prop :=
  ∀ (h0 : Heap) (ws : List Jvm.Cond), n0 ≤ h0.size → Pic Z n0 h0 L →
    MetFree l y (head1 (Jvm.Cond.code y bytes ml rt :: ws) rm) (fun a U => a = as.toArray ∧ Z.Warmed39 U.vm ∧ U.heap = h0) (fun _ _ _ _ _ => True)
      (fun _ U o U' => ∃ v Lc, o = .returned v ∧ (Fr n0 Lc ∧ n0 ≤ U'.heap.size ∧ ∃ L', Q v L' ∧ Pic Z n0 U'.heap L') ∧ FrameEnd U o U' Lc kc ks)
theorem Triple.of_body {l : Launch} {Z : State} {a0 : Array Value} {tbl : List Jvm.Cond} {n0 : Nat} {y : MethodName} {bytes : ByteArray} {ml : Nat} {rt : Option FieldType} {rm : Room} {kc ks : Nat} {as : List Value} {L : Obs} {Q : Option Value → Obs → Prop} {Ls : Array Slot}
    (hp : plainFor y = true) (hw : ∀ d ∈ tbl, d.before a0 Z = true) (ef : ∀ m, entryFrame m as.toArray ml = mkF m 0 Ls [])
    (body : ∀ p e s m below meth c T, Here p l e rm s m as.toArray below meth c Z a0 tbl y.cls y.name bytes ml rt n0 T L 0 0 → Go p e below (EndS below s n0 Z kc ks Q) (T.setTop (mkF m 0 Ls []))) :
    Triple l Z n0 y bytes ml rt rm kc ks as L Q := by
  intro h0 ws Z0 P0
  refine MetFree.of_bodySF hp hisR ?_
  intro p e s m args below meth c s₁ Bd hml0 hP hK
  obtain ⟨rfl, hZ, hh⟩ := hP
  have e0 : s₁.heap = h0 := by rw [← hh, Bd.state]; rfl
  have A : Here p l e rm s m as.toArray below meth c Z a0 tbl y.cls y.name bytes ml rt n0 s₁ L 0 0 :=
    ⟨⟨Bd.exec, hZ, findClass_of_methodNamed Bd.named, Bd.bytes, hml0, hw, (name_of_methodNamed Bd.named Bd.method).1, Bd.returns, Bd.notSynchronized⟩, [], Stand.of_body Bd, Fr.nil n0, by rw [e0]; exact Z0, by rw [e0]; exact P0⟩
  obtain ⟨t, st, o, h1, h2, h3⟩ := body p e s m below meth c s₁ A
  exact ⟨t, o, castTop (ef m) st, h1, h2, h3⟩

section Walk
variable {p : Program} {l : Launch} {e : Env} {R : Room} {s : State} {m : MethodId} {args : Array Value} {below : List Frame} {meth : Method} {c : Code} {Z : State} {a0 : Array Value} {tbl : List Jvm.Cond} {own nm : String} {bc : ByteArray} {mxl : Nat} {rt : Option FieldType} {n0 : Nat} {T : State} {L : Obs} {cells slots : Nat} {F : State → Prop}
theorem Here.pt (A : Here p l e R s m args below meth c Z a0 tbl own nm bc mxl rt n0 T L cells slots) : At T m c below := by obtain ⟨_, X, _⟩ := A.2; exact X.here
theorem Here.iadd (A : Here p l e R s m args below meth c Z a0 tbl own nm bc mxl rt n0 T L cells slots) {pc q : Nat} {Ls : Array Slot} {st : List Value} {x y v : Int32} (hd : decode bc pc = .ok (.iadd, 1)) (hq : pc + 1 = q) (hv : x + y = v) (k : Go p e below F (T.setTop (mkF m q Ls (.int v :: st)))) : Go p e below F (T.setTop (mkF m pc Ls (.int y :: .int x :: st))) := by
  subst hq hv
  exact Go.st (fun t h => XS.iadd A.pt A.1.1 rfl (hb A.1.2.2.2.1 hd) rfl h) k
theorem Here.isub (A : Here p l e R s m args below meth c Z a0 tbl own nm bc mxl rt n0 T L cells slots) {pc q : Nat} {Ls : Array Slot} {st : List Value} {x y v : Int32} (hd : decode bc pc = .ok (.isub, 1)) (hq : pc + 1 = q) (hv : x - y = v) (k : Go p e below F (T.setTop (mkF m q Ls (.int v :: st)))) : Go p e below F (T.setTop (mkF m pc Ls (.int y :: .int x :: st))) := by
  subst hq hv
  exact Go.st (fun t h => XS.isub A.pt A.1.1 rfl (hb A.1.2.2.2.1 hd) rfl h) k
theorem Here.imul (A : Here p l e R s m args below meth c Z a0 tbl own nm bc mxl rt n0 T L cells slots) {pc q : Nat} {Ls : Array Slot} {st : List Value} {x y v : Int32} (hd : decode bc pc = .ok (.imul, 1)) (hq : pc + 1 = q) (hv : x * y = v) (k : Go p e below F (T.setTop (mkF m q Ls (.int v :: st)))) : Go p e below F (T.setTop (mkF m pc Ls (.int y :: .int x :: st))) := by
  subst hq hv
  exact Go.st (fun t h => XS.imul A.pt A.1.1 rfl (hb A.1.2.2.2.1 hd) rfl h) k
theorem Here.iand (A : Here p l e R s m args below meth c Z a0 tbl own nm bc mxl rt n0 T L cells slots) {pc q : Nat} {Ls : Array Slot} {st : List Value} {x y v : Int32} (hd : decode bc pc = .ok (.iand, 1)) (hq : pc + 1 = q) (hv : x &&& y = v) (k : Go p e below F (T.setTop (mkF m q Ls (.int v :: st)))) : Go p e below F (T.setTop (mkF m pc Ls (.int y :: .int x :: st))) := by
  subst hq hv
  exact Go.st (fun t h => XS.iand A.pt A.1.1 rfl (hb A.1.2.2.2.1 hd) rfl h) k
theorem Here.ior (A : Here p l e R s m args below meth c Z a0 tbl own nm bc mxl rt n0 T L cells slots) {pc q : Nat} {Ls : Array Slot} {st : List Value} {x y v : Int32} (hd : decode bc pc = .ok (.ior, 1)) (hq : pc + 1 = q) (hv : x ||| y = v) (k : Go p e below F (T.setTop (mkF m q Ls (.int v :: st)))) : Go p e below F (T.setTop (mkF m pc Ls (.int y :: .int x :: st))) := by
  subst hq hv
  exact Go.st (fun t h => XS.ior A.pt A.1.1 rfl (hb A.1.2.2.2.1 hd) rfl h) k
theorem Here.ixor (A : Here p l e R s m args below meth c Z a0 tbl own nm bc mxl rt n0 T L cells slots) {pc q : Nat} {Ls : Array Slot} {st : List Value} {x y v : Int32} (hd : decode bc pc = .ok (.ixor, 1)) (hq : pc + 1 = q) (hv : x ^^^ y = v) (k : Go p e below F (T.setTop (mkF m q Ls (.int v :: st)))) : Go p e below F (T.setTop (mkF m pc Ls (.int y :: .int x :: st))) := by
  subst hq hv
  exact Go.st (fun t h => XS.ixor A.pt A.1.1 rfl (hb A.1.2.2.2.1 hd) rfl h) k
theorem Here.ishl (A : Here p l e R s m args below meth c Z a0 tbl own nm bc mxl rt n0 T L cells slots) {pc q : Nat} {Ls : Array Slot} {st : List Value} {x y v : Int32} (hd : decode bc pc = .ok (.ishl, 1)) (hq : pc + 1 = q) (hv : x <<< (y &&& 31) = v) (k : Go p e below F (T.setTop (mkF m q Ls (.int v :: st)))) : Go p e below F (T.setTop (mkF m pc Ls (.int y :: .int x :: st))) := by
  subst hq hv
  exact Go.st (fun t h => XS.ishl A.pt A.1.1 rfl (hb A.1.2.2.2.1 hd) rfl h) k
theorem Here.ishr (A : Here p l e R s m args below meth c Z a0 tbl own nm bc mxl rt n0 T L cells slots) {pc q : Nat} {Ls : Array Slot} {st : List Value} {x y v : Int32} (hd : decode bc pc = .ok (.ishr, 1)) (hq : pc + 1 = q) (hv : x >>> (y &&& 31) = v) (k : Go p e below F (T.setTop (mkF m q Ls (.int v :: st)))) : Go p e below F (T.setTop (mkF m pc Ls (.int y :: .int x :: st))) := by
  subst hq hv
  exact Go.st (fun t h => XS.ishr A.pt A.1.1 rfl (hb A.1.2.2.2.1 hd) rfl h) k
theorem Here.iushr (A : Here p l e R s m args below meth c Z a0 tbl own nm bc mxl rt n0 T L cells slots) {pc q : Nat} {Ls : Array Slot} {st : List Value} {x y v : Int32} (hd : decode bc pc = .ok (.iushr, 1)) (hq : pc + 1 = q) (hv : (x.toUInt32 >>> (y &&& 31).toUInt32).toInt32 = v) (k : Go p e below F (T.setTop (mkF m q Ls (.int v :: st)))) : Go p e below F (T.setTop (mkF m pc Ls (.int y :: .int x :: st))) := by
  subst hq hv
  exact Go.st (fun t h => XS.iushr A.pt A.1.1 rfl (hb A.1.2.2.2.1 hd) rfl h) k
theorem Here.idiv (A : Here p l e R s m args below meth c Z a0 tbl own nm bc mxl rt n0 T L cells slots) {pc q : Nat} {Ls : Array Slot} {st : List Value} {x y v : Int32} (hd : decode bc pc = .ok (.idiv, 1)) (hq : pc + 1 = q) (hy : y ≠ 0) (hv : x / y = v) (k : Go p e below F (T.setTop (mkF m q Ls (.int v :: st)))) : Go p e below F (T.setTop (mkF m pc Ls (.int y :: .int x :: st))) := by
  subst hq hv
  exact Go.st (fun t h => XS.idiv A.pt A.1.1 rfl (hb A.1.2.2.2.1 hd) rfl hy h) k
theorem Here.irem (A : Here p l e R s m args below meth c Z a0 tbl own nm bc mxl rt n0 T L cells slots) {pc q : Nat} {Ls : Array Slot} {st : List Value} {x y v : Int32} (hd : decode bc pc = .ok (.irem, 1)) (hq : pc + 1 = q) (hy : y ≠ 0) (hv : x % y = v) (k : Go p e below F (T.setTop (mkF m q Ls (.int v :: st)))) : Go p e below F (T.setTop (mkF m pc Ls (.int y :: .int x :: st))) := by
  subst hq hv
  obtain ⟨_, X, _⟩ := A.2
  exact Go.st (fun t h => iremM X A.1.1 rfl (hb A.1.2.2.2.1 hd) rfl hy h) k
theorem Here.ineg (A : Here p l e R s m args below meth c Z a0 tbl own nm bc mxl rt n0 T L cells slots) {pc q : Nat} {Ls : Array Slot} {st : List Value} {x v : Int32} (hd : decode bc pc = .ok (.ineg, 1)) (hq : pc + 1 = q) (hv : -x = v) (k : Go p e below F (T.setTop (mkF m q Ls (.int v :: st)))) : Go p e below F (T.setTop (mkF m pc Ls (.int x :: st))) := by
  subst hq hv
  exact Go.st (fun t h => XS.ineg A.pt A.1.1 rfl (hb A.1.2.2.2.1 hd) rfl h) k
theorem Here.ladd (A : Here p l e R s m args below meth c Z a0 tbl own nm bc mxl rt n0 T L cells slots) {pc q : Nat} {Ls : Array Slot} {st : List Value} {x y v : Int64} (hd : decode bc pc = .ok (.ladd, 1)) (hq : pc + 1 = q) (hv : x + y = v) (k : Go p e below F (T.setTop (mkF m q Ls (.long v :: st)))) : Go p e below F (T.setTop (mkF m pc Ls (.long y :: .long x :: st))) := by
  subst hq hv
  exact Go.st (fun t h => XS.ladd A.pt A.1.1 rfl (hb A.1.2.2.2.1 hd) rfl h) k
theorem Here.lsub (A : Here p l e R s m args below meth c Z a0 tbl own nm bc mxl rt n0 T L cells slots) {pc q : Nat} {Ls : Array Slot} {st : List Value} {x y v : Int64} (hd : decode bc pc = .ok (.lsub, 1)) (hq : pc + 1 = q) (hv : x - y = v) (k : Go p e below F (T.setTop (mkF m q Ls (.long v :: st)))) : Go p e below F (T.setTop (mkF m pc Ls (.long y :: .long x :: st))) := by
  subst hq hv
  exact Go.st (fun t h => XS.lsub A.pt A.1.1 rfl (hb A.1.2.2.2.1 hd) rfl h) k
theorem Here.lmul (A : Here p l e R s m args below meth c Z a0 tbl own nm bc mxl rt n0 T L cells slots) {pc q : Nat} {Ls : Array Slot} {st : List Value} {x y v : Int64} (hd : decode bc pc = .ok (.lmul, 1)) (hq : pc + 1 = q) (hv : x * y = v) (k : Go p e below F (T.setTop (mkF m q Ls (.long v :: st)))) : Go p e below F (T.setTop (mkF m pc Ls (.long y :: .long x :: st))) := by
  subst hq hv
  exact Go.st (fun t h => XS.lmul A.pt A.1.1 rfl (hb A.1.2.2.2.1 hd) rfl h) k
theorem Here.land (A : Here p l e R s m args below meth c Z a0 tbl own nm bc mxl rt n0 T L cells slots) {pc q : Nat} {Ls : Array Slot} {st : List Value} {x y v : Int64} (hd : decode bc pc = .ok (.land, 1)) (hq : pc + 1 = q) (hv : x &&& y = v) (k : Go p e below F (T.setTop (mkF m q Ls (.long v :: st)))) : Go p e below F (T.setTop (mkF m pc Ls (.long y :: .long x :: st))) := by
  subst hq hv
  exact Go.st (fun t h => XS.land A.pt A.1.1 rfl (hb A.1.2.2.2.1 hd) rfl h) k
theorem Here.lor (A : Here p l e R s m args below meth c Z a0 tbl own nm bc mxl rt n0 T L cells slots) {pc q : Nat} {Ls : Array Slot} {st : List Value} {x y v : Int64} (hd : decode bc pc = .ok (.lor, 1)) (hq : pc + 1 = q) (hv : x ||| y = v) (k : Go p e below F (T.setTop (mkF m q Ls (.long v :: st)))) : Go p e below F (T.setTop (mkF m pc Ls (.long y :: .long x :: st))) := by
  subst hq hv
  exact Go.st (fun t h => XS.lor A.pt A.1.1 rfl (hb A.1.2.2.2.1 hd) rfl h) k
theorem Here.lxor (A : Here p l e R s m args below meth c Z a0 tbl own nm bc mxl rt n0 T L cells slots) {pc q : Nat} {Ls : Array Slot} {st : List Value} {x y v : Int64} (hd : decode bc pc = .ok (.lxor, 1)) (hq : pc + 1 = q) (hv : x ^^^ y = v) (k : Go p e below F (T.setTop (mkF m q Ls (.long v :: st)))) : Go p e below F (T.setTop (mkF m pc Ls (.long y :: .long x :: st))) := by
  subst hq hv
  exact Go.st (fun t h => XS.lxor A.pt A.1.1 rfl (hb A.1.2.2.2.1 hd) rfl h) k
theorem Here.lshl (A : Here p l e R s m args below meth c Z a0 tbl own nm bc mxl rt n0 T L cells slots) {pc q : Nat} {Ls : Array Slot} {st : List Value} {x v : Int64} {y : Int32} (hd : decode bc pc = .ok (.lshl, 1)) (hq : pc + 1 = q) (hv : x <<< (y &&& 0x3f).toInt64 = v) (k : Go p e below F (T.setTop (mkF m q Ls (.long v :: st)))) : Go p e below F (T.setTop (mkF m pc Ls (.int y :: .long x :: st))) := by
  subst hq hv
  exact Go.st (fun t h => XS.lshl A.pt A.1.1 rfl (hb A.1.2.2.2.1 hd) rfl h) k
theorem Here.lshr (A : Here p l e R s m args below meth c Z a0 tbl own nm bc mxl rt n0 T L cells slots) {pc q : Nat} {Ls : Array Slot} {st : List Value} {x v : Int64} {y : Int32} (hd : decode bc pc = .ok (.lshr, 1)) (hq : pc + 1 = q) (hv : x >>> (y &&& 0x3f).toInt64 = v) (k : Go p e below F (T.setTop (mkF m q Ls (.long v :: st)))) : Go p e below F (T.setTop (mkF m pc Ls (.int y :: .long x :: st))) := by
  subst hq hv
  exact Go.st (fun t h => XS.lshr A.pt A.1.1 rfl (hb A.1.2.2.2.1 hd) rfl h) k
theorem Here.lushr (A : Here p l e R s m args below meth c Z a0 tbl own nm bc mxl rt n0 T L cells slots) {pc q : Nat} {Ls : Array Slot} {st : List Value} {x v : Int64} {y : Int32} (hd : decode bc pc = .ok (.lushr, 1)) (hq : pc + 1 = q) (hv : (x.toUInt64 >>> (y &&& 0x3f).toInt64.toUInt64).toInt64 = v) (k : Go p e below F (T.setTop (mkF m q Ls (.long v :: st)))) : Go p e below F (T.setTop (mkF m pc Ls (.int y :: .long x :: st))) := by
  subst hq hv
  exact Go.st (fun t h => XS.lushr A.pt A.1.1 rfl (hb A.1.2.2.2.1 hd) rfl h) k
theorem Here.ldiv (A : Here p l e R s m args below meth c Z a0 tbl own nm bc mxl rt n0 T L cells slots) {pc q : Nat} {Ls : Array Slot} {st : List Value} {x y v : Int64} (hd : decode bc pc = .ok (.ldiv, 1)) (hq : pc + 1 = q) (hy : y ≠ 0) (hv : x / y = v) (k : Go p e below F (T.setTop (mkF m q Ls (.long v :: st)))) : Go p e below F (T.setTop (mkF m pc Ls (.long y :: .long x :: st))) := by
  subst hq hv
  exact Go.st (fun t h => XS.ldiv A.pt A.1.1 rfl (hb A.1.2.2.2.1 hd) rfl hy h) k
theorem Here.lrem (A : Here p l e R s m args below meth c Z a0 tbl own nm bc mxl rt n0 T L cells slots) {pc q : Nat} {Ls : Array Slot} {st : List Value} {x y v : Int64} (hd : decode bc pc = .ok (.lrem, 1)) (hq : pc + 1 = q) (hy : y ≠ 0) (hv : x - (x / y) * y = v) (k : Go p e below F (T.setTop (mkF m q Ls (.long v :: st)))) : Go p e below F (T.setTop (mkF m pc Ls (.long y :: .long x :: st))) := by
  subst hq hv
  exact Go.st (fun t h => XS.lrem A.pt A.1.1 rfl (hb A.1.2.2.2.1 hd) rfl hy h) k
theorem Here.lneg (A : Here p l e R s m args below meth c Z a0 tbl own nm bc mxl rt n0 T L cells slots) {pc q : Nat} {Ls : Array Slot} {st : List Value} {x v : Int64} (hd : decode bc pc = .ok (.lneg, 1)) (hq : pc + 1 = q) (hv : -x = v) (k : Go p e below F (T.setTop (mkF m q Ls (.long v :: st)))) : Go p e below F (T.setTop (mkF m pc Ls (.long x :: st))) := by
  subst hq hv
  exact Go.st (fun t h => XS.lneg A.pt A.1.1 rfl (hb A.1.2.2.2.1 hd) rfl h) k
theorem Here.i2l (A : Here p l e R s m args below meth c Z a0 tbl own nm bc mxl rt n0 T L cells slots) {pc q : Nat} {Ls : Array Slot} {st : List Value} {x : Int32} {v : Int64} (hd : decode bc pc = .ok (.i2l, 1)) (hq : pc + 1 = q) (hv : x.toInt64 = v) (k : Go p e below F (T.setTop (mkF m q Ls (.long v :: st)))) : Go p e below F (T.setTop (mkF m pc Ls (.int x :: st))) := by
  subst hq hv
  exact Go.st (fun t h => XS.i2l A.pt A.1.1 rfl (hb A.1.2.2.2.1 hd) rfl h) k
theorem Here.l2i (A : Here p l e R s m args below meth c Z a0 tbl own nm bc mxl rt n0 T L cells slots) {pc q : Nat} {Ls : Array Slot} {st : List Value} {x : Int64} {v : Int32} (hd : decode bc pc = .ok (.l2i, 1)) (hq : pc + 1 = q) (hv : x.toInt32 = v) (k : Go p e below F (T.setTop (mkF m q Ls (.int v :: st)))) : Go p e below F (T.setTop (mkF m pc Ls (.long x :: st))) := by
  subst hq hv
  exact Go.st (fun t h => XS.l2i A.pt A.1.1 rfl (hb A.1.2.2.2.1 hd) rfl h) k
theorem Here.i2b (A : Here p l e R s m args below meth c Z a0 tbl own nm bc mxl rt n0 T L cells slots) {pc q : Nat} {Ls : Array Slot} {st : List Value} {x v : Int32} (hd : decode bc pc = .ok (.i2b, 1)) (hq : pc + 1 = q) (hv : x.toInt8.toInt32 = v) (k : Go p e below F (T.setTop (mkF m q Ls (.int v :: st)))) : Go p e below F (T.setTop (mkF m pc Ls (.int x :: st))) := by
  subst hq hv
  exact Go.st (fun t h => XS.i2b A.pt A.1.1 rfl (hb A.1.2.2.2.1 hd) rfl h) k
theorem Here.i2c (A : Here p l e R s m args below meth c Z a0 tbl own nm bc mxl rt n0 T L cells slots) {pc q : Nat} {Ls : Array Slot} {st : List Value} {x v : Int32} (hd : decode bc pc = .ok (.i2c, 1)) (hq : pc + 1 = q) (hv : x.toUInt32.toUInt16.toUInt32.toInt32 = v) (k : Go p e below F (T.setTop (mkF m q Ls (.int v :: st)))) : Go p e below F (T.setTop (mkF m pc Ls (.int x :: st))) := by
  subst hq hv
  exact Go.st (fun t h => XS.i2c A.pt A.1.1 rfl (hb A.1.2.2.2.1 hd) rfl h) k
theorem Here.i2s (A : Here p l e R s m args below meth c Z a0 tbl own nm bc mxl rt n0 T L cells slots) {pc q : Nat} {Ls : Array Slot} {st : List Value} {x v : Int32} (hd : decode bc pc = .ok (.i2s, 1)) (hq : pc + 1 = q) (hv : x.toInt16.toInt32 = v) (k : Go p e below F (T.setTop (mkF m q Ls (.int v :: st)))) : Go p e below F (T.setTop (mkF m pc Ls (.int x :: st))) := by
  subst hq hv
  exact Go.st (fun t h => XS.i2s A.pt A.1.1 rfl (hb A.1.2.2.2.1 hd) rfl h) k
theorem Here.iloadN (A : Here p l e R s m args below meth c Z a0 tbl own nm bc mxl rt n0 T L cells slots) {pc q : Nat} {Ls : Array Slot} {st : List Value} {k : Fin 4} {v : Int32} (hd : decode bc pc = .ok (.iload_n k, 1)) (hq : pc + 1 = q) (hl : Ls[k.val]? = some (.val (.int v))) (k : Go p e below F (T.setTop (mkF m q Ls (.int v :: st)))) : Go p e below F (T.setTop (mkF m pc Ls st)) := by
  subst hq
  exact Go.st (fun t h => XS.iloadN A.pt A.1.1 rfl (hb A.1.2.2.2.1 hd) hl h) k
theorem Here.iload (A : Here p l e R s m args below meth c Z a0 tbl own nm bc mxl rt n0 T L cells slots) {pc q : Nat} {Ls : Array Slot} {st : List Value} {k : Nat} {v : Int32} (hd : decode bc pc = .ok (.iload k, 2)) (hq : pc + 2 = q) (hl : Ls[k]? = some (.val (.int v))) (k : Go p e below F (T.setTop (mkF m q Ls (.int v :: st)))) : Go p e below F (T.setTop (mkF m pc Ls st)) := by
  subst hq
  exact Go.st (fun t h => XS.iload A.pt A.1.1 rfl (hb A.1.2.2.2.1 hd) hl h) k
theorem Here.istoreN (A : Here p l e R s m args below meth c Z a0 tbl own nm bc mxl rt n0 T L cells slots) {pc q : Nat} {Ls : Array Slot} {st : List Value} {k : Fin 4} {v : Int32} {l' : Array Slot} (hd : decode bc pc = .ok (.istore_n k, 1)) (hq : pc + 1 = q) (hl : storeLocals Ls k.val (.int v) = some l') (k : Go p e below F (T.setTop (mkF m q l' st))) : Go p e below F (T.setTop (mkF m pc Ls (.int v :: st))) := by
  subst hq
  exact Go.st (fun t h => XS.istoreN A.pt A.1.1 rfl (hb A.1.2.2.2.1 hd) rfl hl h) k
theorem Here.istore (A : Here p l e R s m args below meth c Z a0 tbl own nm bc mxl rt n0 T L cells slots) {pc q : Nat} {Ls : Array Slot} {st : List Value} {k : Nat} {v : Int32} {l' : Array Slot} (hd : decode bc pc = .ok (.istore k, 2)) (hq : pc + 2 = q) (hl : storeLocals Ls k (.int v) = some l') (k : Go p e below F (T.setTop (mkF m q l' st))) : Go p e below F (T.setTop (mkF m pc Ls (.int v :: st))) := by
  subst hq
  exact Go.st (fun t h => XS.istore A.pt A.1.1 rfl (hb A.1.2.2.2.1 hd) rfl hl h) k
theorem Here.lloadN (A : Here p l e R s m args below meth c Z a0 tbl own nm bc mxl rt n0 T L cells slots) {pc q : Nat} {Ls : Array Slot} {st : List Value} {k : Fin 4} {v : Int64} (hd : decode bc pc = .ok (.lload_n k, 1)) (hq : pc + 1 = q) (hl : Ls[k.val]? = some (.val (.long v))) (k : Go p e below F (T.setTop (mkF m q Ls (.long v :: st)))) : Go p e below F (T.setTop (mkF m pc Ls st)) := by
  subst hq
  exact Go.st (fun t h => XS.lloadN A.pt A.1.1 rfl (hb A.1.2.2.2.1 hd) hl h) k
theorem Here.lload (A : Here p l e R s m args below meth c Z a0 tbl own nm bc mxl rt n0 T L cells slots) {pc q : Nat} {Ls : Array Slot} {st : List Value} {k : Nat} {v : Int64} (hd : decode bc pc = .ok (.lload k, 2)) (hq : pc + 2 = q) (hl : Ls[k]? = some (.val (.long v))) (k : Go p e below F (T.setTop (mkF m q Ls (.long v :: st)))) : Go p e below F (T.setTop (mkF m pc Ls st)) := by
  subst hq
  exact Go.st (fun t h => XS.lload A.pt A.1.1 rfl (hb A.1.2.2.2.1 hd) hl h) k
theorem Here.lstoreN (A : Here p l e R s m args below meth c Z a0 tbl own nm bc mxl rt n0 T L cells slots) {pc q : Nat} {Ls : Array Slot} {st : List Value} {k : Fin 4} {v : Int64} {l' : Array Slot} (hd : decode bc pc = .ok (.lstore_n k, 1)) (hq : pc + 1 = q) (hl : storeLocals Ls k.val (.long v) = some l') (k : Go p e below F (T.setTop (mkF m q l' st))) : Go p e below F (T.setTop (mkF m pc Ls (.long v :: st))) := by
  subst hq
  exact Go.st (fun t h => XS.lstoreN A.pt A.1.1 rfl (hb A.1.2.2.2.1 hd) rfl hl h) k
theorem Here.lstore (A : Here p l e R s m args below meth c Z a0 tbl own nm bc mxl rt n0 T L cells slots) {pc q : Nat} {Ls : Array Slot} {st : List Value} {k : Nat} {v : Int64} {l' : Array Slot} (hd : decode bc pc = .ok (.lstore k, 2)) (hq : pc + 2 = q) (hl : storeLocals Ls k (.long v) = some l') (k : Go p e below F (T.setTop (mkF m q l' st))) : Go p e below F (T.setTop (mkF m pc Ls (.long v :: st))) := by
  subst hq
  exact Go.st (fun t h => XS.lstore A.pt A.1.1 rfl (hb A.1.2.2.2.1 hd) rfl hl h) k
theorem Here.aloadN (A : Here p l e R s m args below meth c Z a0 tbl own nm bc mxl rt n0 T L cells slots) {pc q : Nat} {Ls : Array Slot} {st : List Value} {k : Fin 4} {v : Value} (hd : decode bc pc = .ok (.aload_n k, 1)) (hq : pc + 1 = q) (hl : Ls[k.val]? = some (.val v)) (hr : v.isRef = true) (k : Go p e below F (T.setTop (mkF m q Ls (v :: st)))) : Go p e below F (T.setTop (mkF m pc Ls st)) := by
  subst hq
  exact Go.st (fun t h => XS.aloadN A.pt A.1.1 rfl (hb A.1.2.2.2.1 hd) hl hr h) k
theorem Here.aload (A : Here p l e R s m args below meth c Z a0 tbl own nm bc mxl rt n0 T L cells slots) {pc q : Nat} {Ls : Array Slot} {st : List Value} {k : Nat} {v : Value} (hd : decode bc pc = .ok (.aload k, 2)) (hq : pc + 2 = q) (hl : Ls[k]? = some (.val v)) (hr : v.isRef = true) (k : Go p e below F (T.setTop (mkF m q Ls (v :: st)))) : Go p e below F (T.setTop (mkF m pc Ls st)) := by
  subst hq
  exact Go.st (fun t h => XS.aload A.pt A.1.1 rfl (hb A.1.2.2.2.1 hd) hl hr h) k
theorem Here.astoreN (A : Here p l e R s m args below meth c Z a0 tbl own nm bc mxl rt n0 T L cells slots) {pc q : Nat} {Ls : Array Slot} {st : List Value} {k : Fin 4} {v : Value} {l' : Array Slot} (hd : decode bc pc = .ok (.astore_n k, 1)) (hq : pc + 1 = q) (hr : v.isRef = true) (hl : storeLocals Ls k.val v = some l') (k : Go p e below F (T.setTop (mkF m q l' st))) : Go p e below F (T.setTop (mkF m pc Ls (v :: st))) := by
  subst hq
  exact Go.st (fun t h => XS.astoreN A.pt A.1.1 rfl (hb A.1.2.2.2.1 hd) rfl hr hl h) k
theorem Here.astore (A : Here p l e R s m args below meth c Z a0 tbl own nm bc mxl rt n0 T L cells slots) {pc q : Nat} {Ls : Array Slot} {st : List Value} {k : Nat} {v : Value} {l' : Array Slot} (hd : decode bc pc = .ok (.astore k, 2)) (hq : pc + 2 = q) (hr : v.isRef = true) (hl : storeLocals Ls k v = some l') (k : Go p e below F (T.setTop (mkF m q l' st))) : Go p e below F (T.setTop (mkF m pc Ls (v :: st))) := by
  subst hq
  exact Go.st (fun t h => XS.astore A.pt A.1.1 rfl (hb A.1.2.2.2.1 hd) rfl hr hl h) k
theorem Here.iconst (A : Here p l e R s m args below meth c Z a0 tbl own nm bc mxl rt n0 T L cells slots) {pc q : Nat} {Ls : Array Slot} {st : List Value} {i : Int} {v : Int32} (hd : decode bc pc = .ok (.iconst i, 1)) (hq : pc + 1 = q) (hv : Int32.ofInt i = v) (k : Go p e below F (T.setTop (mkF m q Ls (.int v :: st)))) : Go p e below F (T.setTop (mkF m pc Ls st)) := by
  subst hq hv
  exact Go.st (fun t h => XS.iconst A.pt A.1.1 rfl (hb A.1.2.2.2.1 hd)  h) k
theorem Here.bipush (A : Here p l e R s m args below meth c Z a0 tbl own nm bc mxl rt n0 T L cells slots) {pc q : Nat} {Ls : Array Slot} {st : List Value} {i : Int} {v : Int32} (hd : decode bc pc = .ok (.bipush i, 2)) (hq : pc + 2 = q) (hv : (Int8.ofInt i).toInt32 = v) (k : Go p e below F (T.setTop (mkF m q Ls (.int v :: st)))) : Go p e below F (T.setTop (mkF m pc Ls st)) := by
  subst hq hv
  exact Go.st (fun t h => XS.bipush A.pt A.1.1 rfl (hb A.1.2.2.2.1 hd)  h) k
theorem Here.sipush (A : Here p l e R s m args below meth c Z a0 tbl own nm bc mxl rt n0 T L cells slots) {pc q : Nat} {Ls : Array Slot} {st : List Value} {i : Int} {v : Int32} (hd : decode bc pc = .ok (.sipush i, 3)) (hq : pc + 3 = q) (hv : (Int16.ofInt i).toInt32 = v) (k : Go p e below F (T.setTop (mkF m q Ls (.int v :: st)))) : Go p e below F (T.setTop (mkF m pc Ls st)) := by
  subst hq hv
  exact Go.st (fun t h => XS.sipush A.pt A.1.1 rfl (hb A.1.2.2.2.1 hd)  h) k
theorem Here.lconst (A : Here p l e R s m args below meth c Z a0 tbl own nm bc mxl rt n0 T L cells slots) {pc q : Nat} {Ls : Array Slot} {st : List Value} {i : Fin 2} {v : Int64} (hd : decode bc pc = .ok (.lconst i, 1)) (hq : pc + 1 = q) (hv : Int64.ofNat i = v) (k : Go p e below F (T.setTop (mkF m q Ls (.long v :: st)))) : Go p e below F (T.setTop (mkF m pc Ls st)) := by
  subst hq hv
  exact Go.st (fun t h => XS.lconst A.pt A.1.1 rfl (hb A.1.2.2.2.1 hd)  h) k
theorem Here.aconst_null (A : Here p l e R s m args below meth c Z a0 tbl own nm bc mxl rt n0 T L cells slots) {pc q : Nat} {Ls : Array Slot} {st : List Value}  (hd : decode bc pc = .ok (.aconst_null, 1)) (hq : pc + 1 = q)  (k : Go p e below F (T.setTop (mkF m q Ls (.null :: st)))) : Go p e below F (T.setTop (mkF m pc Ls st)) := by
  subst hq
  exact Go.st (fun t h => XS.aconstNull A.pt A.1.1 rfl (hb A.1.2.2.2.1 hd)  h) k
theorem Here.dup (A : Here p l e R s m args below meth c Z a0 tbl own nm bc mxl rt n0 T L cells slots) {pc q : Nat} {Ls : Array Slot} {st : List Value} {v : Value} (hd : decode bc pc = .ok (.dup, 1)) (hq : pc + 1 = q) (hc : v.category = 1) (k : Go p e below F (T.setTop (mkF m q Ls (v :: v :: st)))) : Go p e below F (T.setTop (mkF m pc Ls (v :: st))) := by
  subst hq
  exact Go.st (fun t h => XS.dup A.pt A.1.1 rfl (hb A.1.2.2.2.1 hd) rfl hc h) k
theorem Here.dup_x1 (A : Here p l e R s m args below meth c Z a0 tbl own nm bc mxl rt n0 T L cells slots) {pc q : Nat} {Ls : Array Slot} {st : List Value} {v w : Value} (hd : decode bc pc = .ok (.dup_x1, 1)) (hq : pc + 1 = q) (hc : v.category = 1) (hc' : w.category = 1) (k : Go p e below F (T.setTop (mkF m q Ls (v :: w :: v :: st)))) : Go p e below F (T.setTop (mkF m pc Ls (v :: w :: st))) := by
  subst hq
  exact Go.st (fun t h => XS.dupX1 A.pt A.1.1 rfl (hb A.1.2.2.2.1 hd) rfl hc hc' h) k
theorem Here.dup2 (A : Here p l e R s m args below meth c Z a0 tbl own nm bc mxl rt n0 T L cells slots) {pc q : Nat} {Ls : Array Slot} {st : List Value} {v w : Value} (hd : decode bc pc = .ok (.dup2, 1)) (hq : pc + 1 = q) (hc : v.category = 1) (hc' : w.category = 1) (k : Go p e below F (T.setTop (mkF m q Ls (v :: w :: v :: w :: st)))) : Go p e below F (T.setTop (mkF m pc Ls (v :: w :: st))) := by
  subst hq
  exact Go.st (fun t h => XT.dup2 A.pt A.1.1 rfl (hb A.1.2.2.2.1 hd) rfl hc hc' h) k
theorem Here.pop (A : Here p l e R s m args below meth c Z a0 tbl own nm bc mxl rt n0 T L cells slots) {pc q : Nat} {Ls : Array Slot} {st : List Value} {v : Value} (hd : decode bc pc = .ok (.pop, 1)) (hq : pc + 1 = q) (hc : v.category = 1) (k : Go p e below F (T.setTop (mkF m q Ls st))) : Go p e below F (T.setTop (mkF m pc Ls (v :: st))) := by
  subst hq
  exact Go.st (fun t h => XS.pop A.pt A.1.1 rfl (hb A.1.2.2.2.1 hd) rfl hc h) k
theorem Here.iinc (A : Here p l e R s m args below meth c Z a0 tbl own nm bc mxl rt n0 T L cells slots) {pc q : Nat} {Ls : Array Slot} {st : List Value} {k : Nat} {cst : Int} {x v : Int32} {l' : Array Slot} (hd : decode bc pc = .ok (.iinc k cst, 3)) (hq : pc + 3 = q) (hl : Ls[k]? = some (.val (.int x))) (hv : x + Int32.ofInt cst = v) (hl' : storeLocals Ls k (.int v) = some l') (k : Go p e below F (T.setTop (mkF m q l' st))) : Go p e below F (T.setTop (mkF m pc Ls st)) := by
  subst hq hv
  exact Go.st (fun t h => XS.iinc A.pt A.1.1 rfl (hb A.1.2.2.2.1 hd) hl hl' h) k
theorem Here.goto (A : Here p l e R s m args below meth c Z a0 tbl own nm bc mxl rt n0 T L cells slots) {pc r : Nat} {Ls : Array Slot} {st : List Value} {o : Int} (hd : decode bc pc = .ok (.goto o, 3)) (hr : (pc : Int) + o = (r : Int)) (k : Go p e below F (T.setTop (mkF m r Ls st))) : Go p e below F (T.setTop (mkF m pc Ls st)) :=
  Go.st (fun t h => XS.goto A.pt A.1.1 rfl (pc0 := pc) (pc' := r) rfl (hb A.1.2.2.2.1 hd) (by omega) (by omega) h) k
theorem Here.icmp_lt (A : Here p l e R s m args below meth c Z a0 tbl own nm bc mxl rt n0 T L cells slots) {pc q r : Nat} {Ls : Array Slot} {st : List Value} {x y : Int32} {o : Int} (hd : decode bc pc = .ok (.if_icmp .lt o, 3)) (hq : pc + 3 = q) (hr : (pc : Int) + o = (r : Int)) (kt : x < y → Go p e below F (T.setTop (mkF m r Ls st))) (kf : ¬ (x < y) → Go p e below F (T.setTop (mkF m q Ls st))) : Go p e below F (T.setTop (mkF m pc Ls (.int y :: .int x :: st))) := by
  by_cases hc : x < y
  · exact Go.st (fun t h => XS.icmpYes A.pt A.1.1 rfl (pc0 := pc) (pc' := r) rfl (hb A.1.2.2.2.1 hd) rfl (tlt hc).1 (by omega) (by omega) h) (kt hc)
  · subst hq; exact Go.st (fun t h => XS.icmpNo A.pt A.1.1 rfl (hb A.1.2.2.2.1 hd) rfl (flt hc).1 h) (kf hc)
theorem Here.if_lt (A : Here p l e R s m args below meth c Z a0 tbl own nm bc mxl rt n0 T L cells slots) {pc q r : Nat} {Ls : Array Slot} {st : List Value} {x : Int32} {o : Int} (hd : decode bc pc = .ok (.ifCond .lt o, 3)) (hq : pc + 3 = q) (hr : (pc : Int) + o = (r : Int)) (kt : x < (0 : Int32) → Go p e below F (T.setTop (mkF m r Ls st))) (kf : ¬ (x < (0 : Int32)) → Go p e below F (T.setTop (mkF m q Ls st))) : Go p e below F (T.setTop (mkF m pc Ls (.int x :: st))) := by
  by_cases hc : x < (0 : Int32)
  · exact Go.st (fun t h => XS.ifYes A.pt A.1.1 rfl (pc0 := pc) (pc' := r) rfl (hb A.1.2.2.2.1 hd) rfl ((if0 _ _).trans (tlt hc).1) (by omega) (by omega) h) (kt hc)
  · subst hq; exact Go.st (fun t h => XS.ifNo A.pt A.1.1 rfl (hb A.1.2.2.2.1 hd) rfl ((if0 _ _).trans (flt hc).1) h) (kf hc)
theorem Here.icmp_ge (A : Here p l e R s m args below meth c Z a0 tbl own nm bc mxl rt n0 T L cells slots) {pc q r : Nat} {Ls : Array Slot} {st : List Value} {x y : Int32} {o : Int} (hd : decode bc pc = .ok (.if_icmp .ge o, 3)) (hq : pc + 3 = q) (hr : (pc : Int) + o = (r : Int)) (kt : ¬ (x < y) → Go p e below F (T.setTop (mkF m r Ls st))) (kf : x < y → Go p e below F (T.setTop (mkF m q Ls st))) : Go p e below F (T.setTop (mkF m pc Ls (.int y :: .int x :: st))) := by
  by_cases hc : x < y
  · subst hq; exact Go.st (fun t h => XS.icmpNo A.pt A.1.1 rfl (hb A.1.2.2.2.1 hd) rfl (tlt hc).2.1 h) (kf hc)
  · exact Go.st (fun t h => XS.icmpYes A.pt A.1.1 rfl (pc0 := pc) (pc' := r) rfl (hb A.1.2.2.2.1 hd) rfl (flt hc).2.1 (by omega) (by omega) h) (kt hc)
theorem Here.if_ge (A : Here p l e R s m args below meth c Z a0 tbl own nm bc mxl rt n0 T L cells slots) {pc q r : Nat} {Ls : Array Slot} {st : List Value} {x : Int32} {o : Int} (hd : decode bc pc = .ok (.ifCond .ge o, 3)) (hq : pc + 3 = q) (hr : (pc : Int) + o = (r : Int)) (kt : ¬ (x < (0 : Int32)) → Go p e below F (T.setTop (mkF m r Ls st))) (kf : x < (0 : Int32) → Go p e below F (T.setTop (mkF m q Ls st))) : Go p e below F (T.setTop (mkF m pc Ls (.int x :: st))) := by
  by_cases hc : x < (0 : Int32)
  · subst hq; exact Go.st (fun t h => XS.ifNo A.pt A.1.1 rfl (hb A.1.2.2.2.1 hd) rfl ((if0 _ _).trans (tlt hc).2.1) h) (kf hc)
  · exact Go.st (fun t h => XS.ifYes A.pt A.1.1 rfl (pc0 := pc) (pc' := r) rfl (hb A.1.2.2.2.1 hd) rfl ((if0 _ _).trans (flt hc).2.1) (by omega) (by omega) h) (kt hc)
theorem Here.icmp_gt (A : Here p l e R s m args below meth c Z a0 tbl own nm bc mxl rt n0 T L cells slots) {pc q r : Nat} {Ls : Array Slot} {st : List Value} {x y : Int32} {o : Int} (hd : decode bc pc = .ok (.if_icmp .gt o, 3)) (hq : pc + 3 = q) (hr : (pc : Int) + o = (r : Int)) (kt : y < x → Go p e below F (T.setTop (mkF m r Ls st))) (kf : ¬ (y < x) → Go p e below F (T.setTop (mkF m q Ls st))) : Go p e below F (T.setTop (mkF m pc Ls (.int y :: .int x :: st))) := by
  by_cases hc : y < x
  · exact Go.st (fun t h => XS.icmpYes A.pt A.1.1 rfl (pc0 := pc) (pc' := r) rfl (hb A.1.2.2.2.1 hd) rfl (tlt hc).2.2.1 (by omega) (by omega) h) (kt hc)
  · subst hq; exact Go.st (fun t h => XS.icmpNo A.pt A.1.1 rfl (hb A.1.2.2.2.1 hd) rfl (flt hc).2.2.1 h) (kf hc)
theorem Here.if_gt (A : Here p l e R s m args below meth c Z a0 tbl own nm bc mxl rt n0 T L cells slots) {pc q r : Nat} {Ls : Array Slot} {st : List Value} {x : Int32} {o : Int} (hd : decode bc pc = .ok (.ifCond .gt o, 3)) (hq : pc + 3 = q) (hr : (pc : Int) + o = (r : Int)) (kt : (0 : Int32) < x → Go p e below F (T.setTop (mkF m r Ls st))) (kf : ¬ ((0 : Int32) < x) → Go p e below F (T.setTop (mkF m q Ls st))) : Go p e below F (T.setTop (mkF m pc Ls (.int x :: st))) := by
  by_cases hc : (0 : Int32) < x
  · exact Go.st (fun t h => XS.ifYes A.pt A.1.1 rfl (pc0 := pc) (pc' := r) rfl (hb A.1.2.2.2.1 hd) rfl ((if0 _ _).trans (tlt hc).2.2.1) (by omega) (by omega) h) (kt hc)
  · subst hq; exact Go.st (fun t h => XS.ifNo A.pt A.1.1 rfl (hb A.1.2.2.2.1 hd) rfl ((if0 _ _).trans (flt hc).2.2.1) h) (kf hc)
theorem Here.icmp_le (A : Here p l e R s m args below meth c Z a0 tbl own nm bc mxl rt n0 T L cells slots) {pc q r : Nat} {Ls : Array Slot} {st : List Value} {x y : Int32} {o : Int} (hd : decode bc pc = .ok (.if_icmp .le o, 3)) (hq : pc + 3 = q) (hr : (pc : Int) + o = (r : Int)) (kt : ¬ (y < x) → Go p e below F (T.setTop (mkF m r Ls st))) (kf : y < x → Go p e below F (T.setTop (mkF m q Ls st))) : Go p e below F (T.setTop (mkF m pc Ls (.int y :: .int x :: st))) := by
  by_cases hc : y < x
  · subst hq; exact Go.st (fun t h => XS.icmpNo A.pt A.1.1 rfl (hb A.1.2.2.2.1 hd) rfl (tlt hc).2.2.2 h) (kf hc)
  · exact Go.st (fun t h => XS.icmpYes A.pt A.1.1 rfl (pc0 := pc) (pc' := r) rfl (hb A.1.2.2.2.1 hd) rfl (flt hc).2.2.2 (by omega) (by omega) h) (kt hc)
theorem Here.if_le (A : Here p l e R s m args below meth c Z a0 tbl own nm bc mxl rt n0 T L cells slots) {pc q r : Nat} {Ls : Array Slot} {st : List Value} {x : Int32} {o : Int} (hd : decode bc pc = .ok (.ifCond .le o, 3)) (hq : pc + 3 = q) (hr : (pc : Int) + o = (r : Int)) (kt : ¬ ((0 : Int32) < x) → Go p e below F (T.setTop (mkF m r Ls st))) (kf : (0 : Int32) < x → Go p e below F (T.setTop (mkF m q Ls st))) : Go p e below F (T.setTop (mkF m pc Ls (.int x :: st))) := by
  by_cases hc : (0 : Int32) < x
  · subst hq; exact Go.st (fun t h => XS.ifNo A.pt A.1.1 rfl (hb A.1.2.2.2.1 hd) rfl ((if0 _ _).trans (tlt hc).2.2.2) h) (kf hc)
  · exact Go.st (fun t h => XS.ifYes A.pt A.1.1 rfl (pc0 := pc) (pc' := r) rfl (hb A.1.2.2.2.1 hd) rfl ((if0 _ _).trans (flt hc).2.2.2) (by omega) (by omega) h) (kt hc)
theorem Here.icmp_eq (A : Here p l e R s m args below meth c Z a0 tbl own nm bc mxl rt n0 T L cells slots) {pc q r : Nat} {Ls : Array Slot} {st : List Value} {x y : Int32} {o : Int} (hd : decode bc pc = .ok (.if_icmp .eq o, 3)) (hq : pc + 3 = q) (hr : (pc : Int) + o = (r : Int)) (kt : x = y → Go p e below F (T.setTop (mkF m r Ls st))) (kf : ¬ (x = y) → Go p e below F (T.setTop (mkF m q Ls st))) : Go p e below F (T.setTop (mkF m pc Ls (.int y :: .int x :: st))) := by
  by_cases hc : x = y
  · exact Go.st (fun t h => XS.icmpYes A.pt A.1.1 rfl (pc0 := pc) (pc' := r) rfl (hb A.1.2.2.2.1 hd) rfl (teq hc).1 (by omega) (by omega) h) (kt hc)
  · subst hq; exact Go.st (fun t h => XS.icmpNo A.pt A.1.1 rfl (hb A.1.2.2.2.1 hd) rfl (feq hc).1 h) (kf hc)
theorem Here.if_eq (A : Here p l e R s m args below meth c Z a0 tbl own nm bc mxl rt n0 T L cells slots) {pc q r : Nat} {Ls : Array Slot} {st : List Value} {x : Int32} {o : Int} (hd : decode bc pc = .ok (.ifCond .eq o, 3)) (hq : pc + 3 = q) (hr : (pc : Int) + o = (r : Int)) (kt : x = (0 : Int32) → Go p e below F (T.setTop (mkF m r Ls st))) (kf : ¬ (x = (0 : Int32)) → Go p e below F (T.setTop (mkF m q Ls st))) : Go p e below F (T.setTop (mkF m pc Ls (.int x :: st))) := by
  by_cases hc : x = (0 : Int32)
  · exact Go.st (fun t h => XS.ifYes A.pt A.1.1 rfl (pc0 := pc) (pc' := r) rfl (hb A.1.2.2.2.1 hd) rfl ((if0 _ _).trans (teq hc).1) (by omega) (by omega) h) (kt hc)
  · subst hq; exact Go.st (fun t h => XS.ifNo A.pt A.1.1 rfl (hb A.1.2.2.2.1 hd) rfl ((if0 _ _).trans (feq hc).1) h) (kf hc)
theorem Here.icmp_ne (A : Here p l e R s m args below meth c Z a0 tbl own nm bc mxl rt n0 T L cells slots) {pc q r : Nat} {Ls : Array Slot} {st : List Value} {x y : Int32} {o : Int} (hd : decode bc pc = .ok (.if_icmp .ne o, 3)) (hq : pc + 3 = q) (hr : (pc : Int) + o = (r : Int)) (kt : ¬ (x = y) → Go p e below F (T.setTop (mkF m r Ls st))) (kf : x = y → Go p e below F (T.setTop (mkF m q Ls st))) : Go p e below F (T.setTop (mkF m pc Ls (.int y :: .int x :: st))) := by
  by_cases hc : x = y
  · subst hq; exact Go.st (fun t h => XS.icmpNo A.pt A.1.1 rfl (hb A.1.2.2.2.1 hd) rfl (teq hc).2 h) (kf hc)
  · exact Go.st (fun t h => XS.icmpYes A.pt A.1.1 rfl (pc0 := pc) (pc' := r) rfl (hb A.1.2.2.2.1 hd) rfl (feq hc).2 (by omega) (by omega) h) (kt hc)
theorem Here.if_ne (A : Here p l e R s m args below meth c Z a0 tbl own nm bc mxl rt n0 T L cells slots) {pc q r : Nat} {Ls : Array Slot} {st : List Value} {x : Int32} {o : Int} (hd : decode bc pc = .ok (.ifCond .ne o, 3)) (hq : pc + 3 = q) (hr : (pc : Int) + o = (r : Int)) (kt : ¬ (x = (0 : Int32)) → Go p e below F (T.setTop (mkF m r Ls st))) (kf : x = (0 : Int32) → Go p e below F (T.setTop (mkF m q Ls st))) : Go p e below F (T.setTop (mkF m pc Ls (.int x :: st))) := by
  by_cases hc : x = (0 : Int32)
  · subst hq; exact Go.st (fun t h => XS.ifNo A.pt A.1.1 rfl (hb A.1.2.2.2.1 hd) rfl ((if0 _ _).trans (teq hc).2) h) (kf hc)
  · exact Go.st (fun t h => XS.ifYes A.pt A.1.1 rfl (pc0 := pc) (pc' := r) rfl (hb A.1.2.2.2.1 hd) rfl ((if0 _ _).trans (feq hc).2) (by omega) (by omega) h) (kt hc)
theorem Here.icmpT (A : Here p l e R s m args below meth c Z a0 tbl own nm bc mxl rt n0 T L cells slots) {pc r : Nat} {Ls : Array Slot} {st : List Value} {x y : Int32} {o : Int} {cd : ClassFile.Cond} (hd : decode bc pc = .ok (.if_icmp cd o, 3)) (hr : (pc : Int) + o = (r : Int)) (hc : if_icmp.holds cd x y = true) (k : Go p e below F (T.setTop (mkF m r Ls st))) : Go p e below F (T.setTop (mkF m pc Ls (.int y :: .int x :: st))) :=
  Go.st (fun t h => XS.icmpYes A.pt A.1.1 rfl (pc0 := pc) (pc' := r) rfl (hb A.1.2.2.2.1 hd) rfl hc (by omega) (by omega) h) k
theorem Here.icmpF (A : Here p l e R s m args below meth c Z a0 tbl own nm bc mxl rt n0 T L cells slots) {pc q : Nat} {Ls : Array Slot} {st : List Value} {x y : Int32} {o : Int} {cd : ClassFile.Cond} (hd : decode bc pc = .ok (.if_icmp cd o, 3)) (hq : pc + 3 = q) (hc : if_icmp.holds cd x y = false) (k : Go p e below F (T.setTop (mkF m q Ls st))) : Go p e below F (T.setTop (mkF m pc Ls (.int y :: .int x :: st))) := by
  subst hq; exact Go.st (fun t h => XS.icmpNo A.pt A.1.1 rfl (hb A.1.2.2.2.1 hd) rfl hc h) k
theorem Here.ifT (A : Here p l e R s m args below meth c Z a0 tbl own nm bc mxl rt n0 T L cells slots) {pc r : Nat} {Ls : Array Slot} {st : List Value} {x : Int32} {o : Int} {cd : ClassFile.Cond} (hd : decode bc pc = .ok (.ifCond cd o, 3)) (hr : (pc : Int) + o = (r : Int)) (hc : ifCond.holds cd x = true) (k : Go p e below F (T.setTop (mkF m r Ls st))) : Go p e below F (T.setTop (mkF m pc Ls (.int x :: st))) :=
  Go.st (fun t h => XS.ifYes A.pt A.1.1 rfl (pc0 := pc) (pc' := r) rfl (hb A.1.2.2.2.1 hd) rfl hc (by omega) (by omega) h) k
theorem Here.ifF (A : Here p l e R s m args below meth c Z a0 tbl own nm bc mxl rt n0 T L cells slots) {pc q : Nat} {Ls : Array Slot} {st : List Value} {x : Int32} {o : Int} {cd : ClassFile.Cond} (hd : decode bc pc = .ok (.ifCond cd o, 3)) (hq : pc + 3 = q) (hc : ifCond.holds cd x = false) (k : Go p e below F (T.setTop (mkF m q Ls st))) : Go p e below F (T.setTop (mkF m pc Ls (.int x :: st))) := by
  subst hq; exact Go.st (fun t h => XS.ifNo A.pt A.1.1 rfl (hb A.1.2.2.2.1 hd) rfl hc h) k
theorem Here.lcmp_lt (A : Here p l e R s m args below meth c Z a0 tbl own nm bc mxl rt n0 T L cells slots) {pc q q2 r : Nat} {Ls : Array Slot} {st : List Value} {x y : Int64} {o : Int} (hd : decode bc pc = .ok (.lcmp, 1)) (hq : pc + 1 = q) (hd2 : decode bc q = .ok (.ifCond .lt o, 3)) (hq2 : q + 3 = q2) (hr : (q : Int) + o = (r : Int)) (kt : x < y → Go p e below F (T.setTop (mkF m r Ls st))) (kf : ¬ (x < y) → Go p e below F (T.setTop (mkF m q2 Ls st))) : Go p e below F (T.setTop (mkF m pc Ls (.long y :: .long x :: st))) := by
  have key : Go p e below F (T.setTop (mkF m q Ls (.int (lcmpW x y) :: st))) := by
    by_cases hc : x < y
    · exact A.ifT hd2 hr ((if0 _ _).trans (tlt ((lw_lt x y).mpr hc)).1) (kt hc)
    · exact A.ifF hd2 hq2 ((if0 _ _).trans (flt (mt (lw_lt x y).mp hc)).1) (kf hc)
  subst hq
  exact Go.st (fun t h => XS.lcmp A.pt A.1.1 rfl (hb A.1.2.2.2.1 hd) rfl h) key
theorem Here.lcmp_ge (A : Here p l e R s m args below meth c Z a0 tbl own nm bc mxl rt n0 T L cells slots) {pc q q2 r : Nat} {Ls : Array Slot} {st : List Value} {x y : Int64} {o : Int} (hd : decode bc pc = .ok (.lcmp, 1)) (hq : pc + 1 = q) (hd2 : decode bc q = .ok (.ifCond .ge o, 3)) (hq2 : q + 3 = q2) (hr : (q : Int) + o = (r : Int)) (kt : ¬ (x < y) → Go p e below F (T.setTop (mkF m r Ls st))) (kf : x < y → Go p e below F (T.setTop (mkF m q2 Ls st))) : Go p e below F (T.setTop (mkF m pc Ls (.long y :: .long x :: st))) := by
  have key : Go p e below F (T.setTop (mkF m q Ls (.int (lcmpW x y) :: st))) := by
    by_cases hc : x < y
    · exact A.ifF hd2 hq2 ((if0 _ _).trans (tlt ((lw_lt x y).mpr hc)).2.1) (kf hc)
    · exact A.ifT hd2 hr ((if0 _ _).trans (flt (mt (lw_lt x y).mp hc)).2.1) (kt hc)
  subst hq
  exact Go.st (fun t h => XS.lcmp A.pt A.1.1 rfl (hb A.1.2.2.2.1 hd) rfl h) key
theorem Here.lcmp_gt (A : Here p l e R s m args below meth c Z a0 tbl own nm bc mxl rt n0 T L cells slots) {pc q q2 r : Nat} {Ls : Array Slot} {st : List Value} {x y : Int64} {o : Int} (hd : decode bc pc = .ok (.lcmp, 1)) (hq : pc + 1 = q) (hd2 : decode bc q = .ok (.ifCond .gt o, 3)) (hq2 : q + 3 = q2) (hr : (q : Int) + o = (r : Int)) (kt : y < x → Go p e below F (T.setTop (mkF m r Ls st))) (kf : ¬ (y < x) → Go p e below F (T.setTop (mkF m q2 Ls st))) : Go p e below F (T.setTop (mkF m pc Ls (.long y :: .long x :: st))) := by
  have key : Go p e below F (T.setTop (mkF m q Ls (.int (lcmpW x y) :: st))) := by
    by_cases hc : y < x
    · exact A.ifT hd2 hr ((if0 _ _).trans (tlt ((lw_gt x y).mpr hc)).2.2.1) (kt hc)
    · exact A.ifF hd2 hq2 ((if0 _ _).trans (flt (mt (lw_gt x y).mp hc)).2.2.1) (kf hc)
  subst hq
  exact Go.st (fun t h => XS.lcmp A.pt A.1.1 rfl (hb A.1.2.2.2.1 hd) rfl h) key
theorem Here.lcmp_le (A : Here p l e R s m args below meth c Z a0 tbl own nm bc mxl rt n0 T L cells slots) {pc q q2 r : Nat} {Ls : Array Slot} {st : List Value} {x y : Int64} {o : Int} (hd : decode bc pc = .ok (.lcmp, 1)) (hq : pc + 1 = q) (hd2 : decode bc q = .ok (.ifCond .le o, 3)) (hq2 : q + 3 = q2) (hr : (q : Int) + o = (r : Int)) (kt : ¬ (y < x) → Go p e below F (T.setTop (mkF m r Ls st))) (kf : y < x → Go p e below F (T.setTop (mkF m q2 Ls st))) : Go p e below F (T.setTop (mkF m pc Ls (.long y :: .long x :: st))) := by
  have key : Go p e below F (T.setTop (mkF m q Ls (.int (lcmpW x y) :: st))) := by
    by_cases hc : y < x
    · exact A.ifF hd2 hq2 ((if0 _ _).trans (tlt ((lw_gt x y).mpr hc)).2.2.2) (kf hc)
    · exact A.ifT hd2 hr ((if0 _ _).trans (flt (mt (lw_gt x y).mp hc)).2.2.2) (kt hc)
  subst hq
  exact Go.st (fun t h => XS.lcmp A.pt A.1.1 rfl (hb A.1.2.2.2.1 hd) rfl h) key
theorem Here.lcmp_eq (A : Here p l e R s m args below meth c Z a0 tbl own nm bc mxl rt n0 T L cells slots) {pc q q2 r : Nat} {Ls : Array Slot} {st : List Value} {x y : Int64} {o : Int} (hd : decode bc pc = .ok (.lcmp, 1)) (hq : pc + 1 = q) (hd2 : decode bc q = .ok (.ifCond .eq o, 3)) (hq2 : q + 3 = q2) (hr : (q : Int) + o = (r : Int)) (kt : x = y → Go p e below F (T.setTop (mkF m r Ls st))) (kf : ¬ (x = y) → Go p e below F (T.setTop (mkF m q2 Ls st))) : Go p e below F (T.setTop (mkF m pc Ls (.long y :: .long x :: st))) := by
  have key : Go p e below F (T.setTop (mkF m q Ls (.int (lcmpW x y) :: st))) := by
    by_cases hc : x = y
    · exact A.ifT hd2 hr ((if0 _ _).trans (teq ((lw_eq x y).mpr hc)).1) (kt hc)
    · exact A.ifF hd2 hq2 ((if0 _ _).trans (feq (mt (lw_eq x y).mp hc)).1) (kf hc)
  subst hq
  exact Go.st (fun t h => XS.lcmp A.pt A.1.1 rfl (hb A.1.2.2.2.1 hd) rfl h) key
theorem Here.lcmp_ne (A : Here p l e R s m args below meth c Z a0 tbl own nm bc mxl rt n0 T L cells slots) {pc q q2 r : Nat} {Ls : Array Slot} {st : List Value} {x y : Int64} {o : Int} (hd : decode bc pc = .ok (.lcmp, 1)) (hq : pc + 1 = q) (hd2 : decode bc q = .ok (.ifCond .ne o, 3)) (hq2 : q + 3 = q2) (hr : (q : Int) + o = (r : Int)) (kt : ¬ (x = y) → Go p e below F (T.setTop (mkF m r Ls st))) (kf : x = y → Go p e below F (T.setTop (mkF m q2 Ls st))) : Go p e below F (T.setTop (mkF m pc Ls (.long y :: .long x :: st))) := by
  have key : Go p e below F (T.setTop (mkF m q Ls (.int (lcmpW x y) :: st))) := by
    by_cases hc : x = y
    · exact A.ifF hd2 hq2 ((if0 _ _).trans (teq ((lw_eq x y).mpr hc)).2) (kf hc)
    · exact A.ifT hd2 hr ((if0 _ _).trans (feq (mt (lw_eq x y).mp hc)).2) (kt hc)
  subst hq
  exact Go.st (fun t h => XS.lcmp A.pt A.1.1 rfl (hb A.1.2.2.2.1 hd) rfl h) key
theorem Here.ifnonnullT (A : Here p l e R s m args below meth c Z a0 tbl own nm bc mxl rt n0 T L cells slots) {pc r : Nat} {Ls : Array Slot} {st : List Value} {b : Addr} {o : Int} (hd : decode bc pc = .ok (.ifnonnull o, 3)) (hr : (pc : Int) + o = (r : Int)) (k : Go p e below F (T.setTop (mkF m r Ls st))) : Go p e below F (T.setTop (mkF m pc Ls (.ref b :: st))) :=
  Go.st (fun t h => XS.ifnonnullYes A.pt A.1.1 rfl (pc0 := pc) (pc' := r) rfl (hb A.1.2.2.2.1 hd) rfl (by omega) (by omega) h) k
theorem Here.ifnonnullF (A : Here p l e R s m args below meth c Z a0 tbl own nm bc mxl rt n0 T L cells slots) {pc q : Nat} {Ls : Array Slot} {st : List Value} {o : Int} (hd : decode bc pc = .ok (.ifnonnull o, 3)) (hq : pc + 3 = q) (k : Go p e below F (T.setTop (mkF m q Ls st))) : Go p e below F (T.setTop (mkF m pc Ls (.null :: st))) := by
  subst hq; exact Go.st (fun t h => XS.ifnonnullNo A.pt A.1.1 rfl (hb A.1.2.2.2.1 hd) rfl h) k
theorem Here.ifnullT (A : Here p l e R s m args below meth c Z a0 tbl own nm bc mxl rt n0 T L cells slots) {pc r : Nat} {Ls : Array Slot} {st : List Value} {o : Int} (hd : decode bc pc = .ok (.ifnull o, 3)) (hr : (pc : Int) + o = (r : Int)) (k : Go p e below F (T.setTop (mkF m r Ls st))) : Go p e below F (T.setTop (mkF m pc Ls (.null :: st))) :=
  Go.st (fun t h => XS.ifnullYes A.pt A.1.1 rfl (pc0 := pc) (pc' := r) rfl (hb A.1.2.2.2.1 hd) rfl (by omega) (by omega) h) k
theorem Here.ifnullF (A : Here p l e R s m args below meth c Z a0 tbl own nm bc mxl rt n0 T L cells slots) {pc q : Nat} {Ls : Array Slot} {st : List Value} {b : Addr} {o : Int} (hd : decode bc pc = .ok (.ifnull o, 3)) (hq : pc + 3 = q) (k : Go p e below F (T.setTop (mkF m q Ls st))) : Go p e below F (T.setTop (mkF m pc Ls (.ref b :: st))) := by
  subst hq; exact Go.st (fun t h => XS.ifnullNo A.pt A.1.1 rfl (hb A.1.2.2.2.1 hd) rfl h) k
theorem Here.acmp (A : Here p l e R s m args below meth c Z a0 tbl own nm bc mxl rt n0 T L cells slots) {pc r : Nat} {Ls : Array Slot} {st : List Value} {x y : Value} {cd : ACond} {o : Int} {same : Bool} (hd : decode bc pc = .ok (.if_acmp cd o, 3)) (h1 : x.isRef = true) (h2 : y.isRef = true) (hs : decide (x = y) = same) (ho : 0 ≤ (pc : Int) + o) (hp : r = if acV cd same = true then ((pc : Int) + o).toNat else pc + 3) (k : Go p e below F (T.setTop (mkF m r Ls st))) : Go p e below F (T.setTop (mkF m pc Ls (y :: x :: st))) := by
  obtain ⟨_, X, _⟩ := A.2
  exact Go.st (fun t h => Jvm.RoadKit.acmp X A.1.1 rfl h1 h2 (pc0 := pc) (pc' := r) (same := same) rfl (hb A.1.2.2.2.1 hd) rfl hs ho hp h) k
theorem Here.ldc (A : Here p l e R s m args below meth c Z a0 tbl own nm bc mxl rt n0 T L cells slots) {pc q w index : Nat} {Ls : Array Slot} {st : List Value} {v : Int32} (hd : decode bc pc = .ok (.ldc index, 2)) (hq : pc + 2 = q) (hw : tbl[w]? = some (Jvm.Cond.constant own index v)) (k : Go p e below F (T.setTop (mkF m q Ls (.int v :: st)))) : Go p e below F (T.setTop (mkF m pc Ls st)) := by
  obtain ⟨⟨hx, hZ, hown, hby, hml, hww, hnm, hrt, hlk⟩, locs, X, N, Z0, P⟩ := id A
  subst hq
  exact Go.st (X.ldcInt hx hown (mvT hZ (hww _ (List.mem_of_getElem? hw))) (g := mkF m pc Ls st) rfl (hb hby hd)) k
theorem Here.ldc_w (A : Here p l e R s m args below meth c Z a0 tbl own nm bc mxl rt n0 T L cells slots) {pc q w index : Nat} {Ls : Array Slot} {st : List Value} {v : Int32} (hd : decode bc pc = .ok (.ldc_w index, 3)) (hq : pc + 3 = q) (hw : tbl[w]? = some (Jvm.Cond.constant own index v)) (k : Go p e below F (T.setTop (mkF m q Ls (.int v :: st)))) : Go p e below F (T.setTop (mkF m pc Ls st)) := by
  obtain ⟨⟨hx, hZ, hown, hby, hml, hww, hnm, hrt, hlk⟩, locs, X, N, Z0, P⟩ := id A
  subst hq
  exact Go.st (X.ldcwInt hx hown (mvT hZ (hww _ (List.mem_of_getElem? hw))) (g := mkF m pc Ls st) rfl (hb hby hd)) k
theorem Here.ldc2_w (A : Here p l e R s m args below meth c Z a0 tbl own nm bc mxl rt n0 T L cells slots) {pc q w index : Nat} {Ls : Array Slot} {st : List Value} {v : Int64} (hd : decode bc pc = .ok (.ldc2_w index, 3)) (hq : pc + 3 = q) (hw : tbl[w]? = some (Jvm.Cond.constantLong own index v)) (k : Go p e below F (T.setTop (mkF m q Ls (.long v :: st)))) : Go p e below F (T.setTop (mkF m pc Ls st)) := by
  obtain ⟨⟨hx, hZ, hown, hby, hml, hww, hnm, hrt, hlk⟩, locs, X, N, Z0, P⟩ := id A
  subst hq
  exact Go.st (X.ldc2Long hx hown (mvT hZ (hww _ (List.mem_of_getElem? hw))) (g := mkF m pc Ls st) rfl (hb hby hd)) k
theorem Here.getF (A : Here p l e R s m args below meth c Z a0 tbl own nm bc mxl rt n0 T L cells slots) {pc q w i j index : Nat} {Ls : Array Slot} {st : List Value} {O n d C : String} {a : Addr} {fs : List ((String × String × String) × Value)} {v : Value} (hd : decode bc pc = .ok (.getfield index, 3)) (hq : pc + 3 = q) (hw : tbl[w]? = some (Jvm.Cond.fieldLink own index O n d)) (hL : L[i]? = some (a, .inl (C, fs))) (hf : fs[j]? = some ((O, n, d), v))
    (k : ∀ T', Here p l e R s m args below meth c Z a0 tbl own nm bc mxl rt n0 T' L cells slots → Go p e below F (T'.setTop (mkF m q Ls (v :: st)))) : Go p e below F (T.setTop (mkF m pc Ls (.ref a :: st))) := by
  obtain ⟨⟨hx, hZ, hown, hby, hml, hww, hnm, hrt, hlk⟩, locs, X, N, Z0, P⟩ := id A
  have Fd := (P.1 _ (List.mem_of_getElem? hL)).2.2 _ (List.mem_of_getElem? hf)
  obtain ⟨T', X', e', st'⟩ := Jvm.RoadKit.getF X hx hZ hown (host := "") (Or.inl (hww _ (List.mem_of_getElem? hw))) Via.refl rfl Fd (g := mkF m pc Ls (.ref a :: st)) rfl rfl (hb hby hd)
  subst hq
  exact Go.st st' (k T' ⟨A.1, locs, X', N, by rw [e']; exact Z0, by rw [e']; exact P⟩)
theorem Here.putF (A : Here p l e R s m args below meth c Z a0 tbl own nm bc mxl rt n0 T L cells slots) {pc q w w2 w3 i j index kk : Nat} {Ls : Array Slot} {st : List Value} {O n d C : String} {a : Addr} {fs : List ((String × String × String) × Value)} {v v' old : Value} {ty : FieldType} {L' : Obs} (hd : decode bc pc = .ok (.putfield index, 3)) (hq : pc + 3 = q) (hw : tbl[w]? = some (Jvm.Cond.fieldLink own index O n d)) (hL : L[i]? = some (a, .inl (C, fs))) (hf : fs[j]? = some ((O, n, d), old))
    (hl : Lays Z a0 C (fs.map Prod.fst)) (hp : tbl[w2]? = some (Jvm.Cond.lays C O n d) ∨ (tbl[w2]? = some (Jvm.Cond.laysFinal C O n d) ∧ own = O ∧ nm = "<init>")) (hi : tbl[w3]? = some (Jvm.Cond.instantiable C kk)) (hty : parseFieldDescriptor d = some ty) (hn : narrow ty v = v') (hfit : fits ty v' = true) (hL' : L.set i (a, .inl (C, fs.set j ((O, n, d), v'))) = L')
    (k : ∀ T', Here p l e R s m args below meth c Z a0 tbl own nm bc mxl rt n0 T' L' cells slots → Go p e below F (T'.setTop (mkF m q Ls st))) : Go p e below F (T.setTop (mkF m pc Ls (v :: .ref a :: st))) := by
  obtain ⟨⟨hx, hZ, hown, hby, hml, hww, hnm, hrt, hlk⟩, locs, X, N, Z0, P⟩ := id A
  have I := P.1 _ (List.mem_of_getElem? hL)
  obtain ⟨T', h', X', e', W, st'⟩ := Jvm.RoadKit.putFN X hx hZ hown (hww _ (List.mem_of_getElem? hw)) Via.refl rfl (I.2.2 _ (List.mem_of_getElem? hf)) I.2.1 (hp.imp (fun q => hww _ (List.mem_of_getElem? q)) (fun q => ⟨hww _ (List.mem_of_getElem? q.1), q.2.1, by rw [hnm]; exact q.2.2⟩)) (hww _ (List.mem_of_getElem? hi)) hty hn hfit (g := mkF m pc Ls (v :: .ref a :: st)) rfl rfl (hb hby hd)
  subst hq hL' e'
  exact Go.st st' (k T' ⟨A.1, _, X', Fr.snoc X' N I.1, by rw [W.size]; exact Z0, P.set W hL (I.2.put W hl hf)⟩)
theorem Here.newO (A : Here p l e R s m args below meth c Z a0 tbl own nm bc mxl rt n0 T L cells slots) {pc q w1 w2 w3 index n : Nat} {Ls : Array Slot} {st : List Value} {C : String} {fs : List ((String × String × String) × Value)} (hd : decode bc pc = .ok (.new index, 3)) (hq : pc + 3 = q) (h1 : tbl[w1]? = some (Jvm.Cond.classLink own index C)) (h2 : tbl[w2]? = some (Jvm.Cond.instantiable C n)) (h3 : tbl[w3]? = some (Jvm.Cond.initialized C)) (hl : Lays Z a0 C (fs.map Prod.fst))
    (hdef : (fs.all fun q => match parseFieldDescriptor q.1.2.2 with | some t => decide (defaultValue t = q.2) | none => false) = true) (hc : cells + 1 ≤ R.cells) (hs : slots + n ≤ R.slots)
    (k : ∀ T' a, Here p l e R s m args below meth c Z a0 tbl own nm bc mxl rt n0 T' ((a, .inl (C, fs)) :: L) (cells + 1) (slots + n) → Go p e below F (T'.setTop (mkF m q Ls (.ref a :: st)))) : Go p e below F (T.setTop (mkF m pc Ls st)) := by
  obtain ⟨⟨hx, hZ, hown, hby, hml, hww, hnm, hrt, hlk⟩, locs, X, N, Z0, P⟩ := id A
  obtain ⟨T', h', X', e', E, Ex, D, -, st'⟩ := Jvm.RoadKit.newO X hx hZ hown (hww _ (List.mem_of_getElem? h1)) (hww _ (List.mem_of_getElem? h2)) (hww _ (List.mem_of_getElem? h3)) rfl (g := mkF m pc Ls st) rfl (hb hby hd) hc hs
  subst hq e'
  refine Go.st st' (k T' _ ⟨A.1, locs, X', N, Nat.le_trans Z0 E.1, P.new E Z0 ⟨Ex, fun f hf => ?_⟩⟩)
  obtain ⟨lf, -⟩ := hl.1 _ (List.mem_map.mpr ⟨f, hf, rfl⟩)
  have q := List.all_eq_true.mp hdef f hf
  cases ht : parseFieldDescriptor f.1.2.2 with
  | none => rw [ht] at q; cases q
  | some t =>
    rw [ht] at q
    have q' : defaultValue t = f.2 := of_decide_eq_true q
    rw [← q']; exact D lf ht
theorem Here.newA (A : Here p l e R s m args below meth c Z a0 tbl own nm bc mxl rt n0 T L cells slots) {pc q w cap : Nat} {Ls : Array Slot} {st : List Value} {aty : ArrayType} {n : Int32} {ty : FieldType} {vs : List Value} (hd : decode bc pc = .ok (.newarray aty, 2)) (hq : pc + 2 = q) (hty : newarray.typeOf aty = ty) (hw : tbl[w]? = some (Jvm.Cond.arrayClass ty)) (hn : ¬ n < 0) (hcap : n.toNatClampNeg ≤ cap) (hb8 : cap * 8 ≤ 536870912) (hvs : List.replicate n.toNatClampNeg (defaultValue ty) = vs) (hc : cells + 1 ≤ R.cells) (hs : slots + cap ≤ R.slots)
    (k : ∀ T' a, Here p l e R s m args below meth c Z a0 tbl own nm bc mxl rt n0 T' ((a, .inr (ty, vs)) :: L) (cells + 1) (slots + cap) → Go p e below F (T'.setTop (mkF m q Ls (.ref a :: st)))) : Go p e below F (T.setTop (mkF m pc Ls (.int n :: st))) := by
  obtain ⟨⟨hx, hZ, hown, hby, hml, hww, hnm, hrt, hlk⟩, locs, X, N, Z0, P⟩ := id A
  subst hty
  obtain ⟨T', h', cA, X', e', E, Ar, Ex, st'⟩ := newPE X hx hZ (hww _ (List.mem_of_getElem? hw)) rfl (g := mkF m pc Ls (.int n :: st)) rfl (hb hby hd) rfl hn hcap hb8 hc hs rfl
  subst hq e' hvs
  refine Go.st st' (k T' _ ⟨A.1, locs, X', N, Nat.le_trans Z0 E.1, P.new E Z0 ⟨_, Ar, ?_, ?_, ?_, Ex⟩⟩)
  · simp [Jvm.RoadKit.newA]
  · rw [List.length_replicate]; omega
  · intro v hv
    rw [(List.mem_replicate.mp hv).2]; exact fits_def aty

theorem Here.iaload (A : Here p l e R s m args below meth c Z a0 tbl own nm bc mxl rt n0 T L cells slots) {pc q i : Nat} {Ls : Array Slot} {st : List Value} {a : Addr} {j : Int32} {vs : List Value} {v : Value} (hd : decode bc pc = .ok (.iaload, 1)) (hq : pc + 1 = q) (hL : L[i]? = some (a, .inr (.int, vs))) (hj : ¬ j < 0) (hv : vs[j.toNatClampNeg]? = some v) (k : Go p e below F (T.setTop (mkF m q Ls (v :: st)))) : Go p e below F (T.setTop (mkF m pc Ls (.int j :: .ref a :: st))) := by
  obtain ⟨⟨hx, hZ, hown, hby, hml, hww, hnm, hrt, hlk⟩, locs, X, N, Z0, P⟩ := id A
  obtain ⟨cl, Ar, r1, r2, r3, r4⟩ := (P.1 _ (List.mem_of_getElem? hL)).2
  have hlt : j.toNatClampNeg < vs.length := (List.getElem?_eq_some_iff.mp hv).1
  subst hq
  exact Go.st (fun t h => X.iaload hx (j := j) (v := v) Ar.1 (State.isArrayOf_alike hZ.alike Ar.2.1) Ar.2.2 (fun q => q.elim hj (fun q => by rw [r1] at q; simp at q; omega)) (by rw [r1]; simpa using hv) (g := mkF m pc Ls (.int j :: .ref a :: st)) rfl rfl (hb hby hd) t h) k
theorem Here.laload (A : Here p l e R s m args below meth c Z a0 tbl own nm bc mxl rt n0 T L cells slots) {pc q i : Nat} {Ls : Array Slot} {st : List Value} {a : Addr} {j : Int32} {vs : List Value} {v : Value} (hd : decode bc pc = .ok (.laload, 1)) (hq : pc + 1 = q) (hL : L[i]? = some (a, .inr (.long, vs))) (hj : ¬ j < 0) (hv : vs[j.toNatClampNeg]? = some v) (k : Go p e below F (T.setTop (mkF m q Ls (v :: st)))) : Go p e below F (T.setTop (mkF m pc Ls (.int j :: .ref a :: st))) := by
  obtain ⟨⟨hx, hZ, hown, hby, hml, hww, hnm, hrt, hlk⟩, locs, X, N, Z0, P⟩ := id A
  obtain ⟨cl, Ar, r1, r2, r3, r4⟩ := (P.1 _ (List.mem_of_getElem? hL)).2
  have hlt : j.toNatClampNeg < vs.length := (List.getElem?_eq_some_iff.mp hv).1
  subst hq
  exact Go.st (fun t h => X.laload hx (j := j) (v := v) Ar.1 (State.isArrayOf_alike hZ.alike Ar.2.1) Ar.2.2 (fun q => q.elim hj (fun q => by rw [r1] at q; simp at q; omega)) (by rw [r1]; simpa using hv) (g := mkF m pc Ls (.int j :: .ref a :: st)) rfl rfl (hb hby hd) t h) k
theorem Here.baloadB (A : Here p l e R s m args below meth c Z a0 tbl own nm bc mxl rt n0 T L cells slots) {pc q i : Nat} {Ls : Array Slot} {st : List Value} {a : Addr} {j : Int32} {vs : List Value} {v : Value} (hd : decode bc pc = .ok (.baload, 1)) (hq : pc + 1 = q) (hL : L[i]? = some (a, .inr (.byte, vs))) (hj : ¬ j < 0) (hv : vs[j.toNatClampNeg]? = some v) (k : Go p e below F (T.setTop (mkF m q Ls (v :: st)))) : Go p e below F (T.setTop (mkF m pc Ls (.int j :: .ref a :: st))) := by
  obtain ⟨⟨hx, hZ, hown, hby, hml, hww, hnm, hrt, hlk⟩, locs, X, N, Z0, P⟩ := id A
  obtain ⟨cl, Ar, r1, r2, r3, r4⟩ := (P.1 _ (List.mem_of_getElem? hL)).2
  have hlt : j.toNatClampNeg < vs.length := (List.getElem?_eq_some_iff.mp hv).1
  subst hq
  exact Go.st (fun t h => X.baloadBytes hx (j := j) (v := v) Ar.1 (State.isArrayOf_alike hZ.alike Ar.2.1) Ar.2.2 (fun q => q.elim hj (fun q => by rw [r1] at q; simp at q; omega)) (by rw [r1]; simpa using hv) (g := mkF m pc Ls (.int j :: .ref a :: st)) rfl rfl (hb hby hd) t h) k
theorem Here.baloadZ (A : Here p l e R s m args below meth c Z a0 tbl own nm bc mxl rt n0 T L cells slots) {pc q i : Nat} {Ls : Array Slot} {st : List Value} {a : Addr} {j : Int32} {vs : List Value} {v : Value} (hd : decode bc pc = .ok (.baload, 1)) (hq : pc + 1 = q) (hL : L[i]? = some (a, .inr (.boolean, vs))) (hj : ¬ j < 0) (hv : vs[j.toNatClampNeg]? = some v) (k : Go p e below F (T.setTop (mkF m q Ls (v :: st)))) : Go p e below F (T.setTop (mkF m pc Ls (.int j :: .ref a :: st))) := by
  obtain ⟨⟨hx, hZ, hown, hby, hml, hww, hnm, hrt, hlk⟩, locs, X, N, Z0, P⟩ := id A
  obtain ⟨cl, Ar, r1, r2, r3, r4⟩ := (P.1 _ (List.mem_of_getElem? hL)).2
  have hlt : j.toNatClampNeg < vs.length := (List.getElem?_eq_some_iff.mp hv).1
  subst hq
  exact Go.st (fun t h => X.baloadBooleans hx (j := j) (v := v) Ar.1 (State.isArrayOf_alike hZ.alike Ar.2.1) Ar.2.2 (fun q => q.elim hj (fun q => by rw [r1] at q; simp at q; omega)) (by rw [r1]; simpa using hv) (g := mkF m pc Ls (.int j :: .ref a :: st)) rfl rfl (hb hby hd) t h) k
theorem Here.iastore (A : Here p l e R s m args below meth c Z a0 tbl own nm bc mxl rt n0 T L cells slots) {pc q i : Nat} {Ls : Array Slot} {st : List Value} {a : Addr} {j : Int32} {x x' : Int32} {vs : List Value} {L' : Obs} (hd : decode bc pc = .ok (.iastore, 1)) (hq : pc + 1 = q) (hL : L[i]? = some (a, .inr (.int, vs))) (hj : ¬ j < 0) (hlt : j.toNatClampNeg < vs.length) (hx' : x = x') (hL' : L.set i (a, .inr (.int, vs.set j.toNatClampNeg (.int x'))) = L') (k : ∀ T', Here p l e R s m args below meth c Z a0 tbl own nm bc mxl rt n0 T' L' cells slots → Go p e below F (T'.setTop (mkF m q Ls st))) : Go p e below F (T.setTop (mkF m pc Ls (.int x :: .int j :: .ref a :: st))) := by
  obtain ⟨⟨hx, hZ, hown, hby, hml, hww, hnm, hrt, hlk⟩, locs, X, N, Z0, P⟩ := id A
  have I := P.1 _ (List.mem_of_getElem? hL)
  obtain ⟨cl, Ar, r1, r2, r3, r4⟩ := id I.2
  obtain ⟨T', h', X', e', W, st'⟩ := stI X hx hZ rfl Ar (j := j) (x := x) (fun q => q.elim hj (fun q => by rw [r1] at q; simp at q; omega)) (g := mkF m pc Ls (.int x :: .int j :: .ref a :: st)) rfl rfl (hb hby hd)
  subst hq hL' e' hx'
  exact Go.st st' (k T' ⟨A.1, _, X', Fr.snoc X' N I.1, by rw [W.size]; exact Z0, P.set W hL (Ara.put (show Ara Z T.heap a .int vs from I.2) W rfl)⟩)
theorem Here.lastore (A : Here p l e R s m args below meth c Z a0 tbl own nm bc mxl rt n0 T L cells slots) {pc q i : Nat} {Ls : Array Slot} {st : List Value} {a : Addr} {j : Int32} {x x' : Int64} {vs : List Value} {L' : Obs} (hd : decode bc pc = .ok (.lastore, 1)) (hq : pc + 1 = q) (hL : L[i]? = some (a, .inr (.long, vs))) (hj : ¬ j < 0) (hlt : j.toNatClampNeg < vs.length) (hx' : x = x') (hL' : L.set i (a, .inr (.long, vs.set j.toNatClampNeg (.long x'))) = L') (k : ∀ T', Here p l e R s m args below meth c Z a0 tbl own nm bc mxl rt n0 T' L' cells slots → Go p e below F (T'.setTop (mkF m q Ls st))) : Go p e below F (T.setTop (mkF m pc Ls (.long x :: .int j :: .ref a :: st))) := by
  obtain ⟨⟨hx, hZ, hown, hby, hml, hww, hnm, hrt, hlk⟩, locs, X, N, Z0, P⟩ := id A
  have I := P.1 _ (List.mem_of_getElem? hL)
  obtain ⟨cl, Ar, r1, r2, r3, r4⟩ := id I.2
  obtain ⟨T', h', X', e', W, st'⟩ := stJ X hx hZ rfl Ar (j := j) (x := x) (fun q => q.elim hj (fun q => by rw [r1] at q; simp at q; omega)) (g := mkF m pc Ls (.long x :: .int j :: .ref a :: st)) rfl rfl (hb hby hd)
  subst hq hL' e' hx'
  exact Go.st st' (k T' ⟨A.1, _, X', Fr.snoc X' N I.1, by rw [W.size]; exact Z0, P.set W hL (Ara.put (show Ara Z T.heap a .long vs from I.2) W rfl)⟩)
theorem Here.bastoreB (A : Here p l e R s m args below meth c Z a0 tbl own nm bc mxl rt n0 T L cells slots) {pc q i : Nat} {Ls : Array Slot} {st : List Value} {a : Addr} {j : Int32} {x x' : Int32} {vs : List Value} {L' : Obs} (hd : decode bc pc = .ok (.bastore, 1)) (hq : pc + 1 = q) (hL : L[i]? = some (a, .inr (.byte, vs))) (hj : ¬ j < 0) (hlt : j.toNatClampNeg < vs.length) (hx' : (nar .byte x) = x') (hL' : L.set i (a, .inr (.byte, vs.set j.toNatClampNeg (.int x'))) = L') (k : ∀ T', Here p l e R s m args below meth c Z a0 tbl own nm bc mxl rt n0 T' L' cells slots → Go p e below F (T'.setTop (mkF m q Ls st))) : Go p e below F (T.setTop (mkF m pc Ls (.int x :: .int j :: .ref a :: st))) := by
  obtain ⟨⟨hx, hZ, hown, hby, hml, hww, hnm, hrt, hlk⟩, locs, X, N, Z0, P⟩ := id A
  have I := P.1 _ (List.mem_of_getElem? hL)
  obtain ⟨cl, Ar, r1, r2, r3, r4⟩ := id I.2
  obtain ⟨T', h', X', e', W, st'⟩ := stB X hx hZ rfl Ar (j := j) (x := x) (fun q => q.elim hj (fun q => by rw [r1] at q; simp at q; omega)) (g := mkF m pc Ls (.int x :: .int j :: .ref a :: st)) rfl rfl (hb hby hd)
  subst hq hL' e' hx'
  exact Go.st st' (k T' ⟨A.1, _, X', Fr.snoc X' N I.1, by rw [W.size]; exact Z0, P.set W hL (Ara.put (show Ara Z T.heap a .byte vs from I.2) W (fits_nar_byte _))⟩)
theorem Here.bastoreZ (A : Here p l e R s m args below meth c Z a0 tbl own nm bc mxl rt n0 T L cells slots) {pc q i : Nat} {Ls : Array Slot} {st : List Value} {a : Addr} {j : Int32} {x x' : Int32} {vs : List Value} {L' : Obs} (hd : decode bc pc = .ok (.bastore, 1)) (hq : pc + 1 = q) (hL : L[i]? = some (a, .inr (.boolean, vs))) (hj : ¬ j < 0) (hlt : j.toNatClampNeg < vs.length) (hx' : (nar .boolean x) = x') (hL' : L.set i (a, .inr (.boolean, vs.set j.toNatClampNeg (.int x'))) = L') (k : ∀ T', Here p l e R s m args below meth c Z a0 tbl own nm bc mxl rt n0 T' L' cells slots → Go p e below F (T'.setTop (mkF m q Ls st))) : Go p e below F (T.setTop (mkF m pc Ls (.int x :: .int j :: .ref a :: st))) := by
  obtain ⟨⟨hx, hZ, hown, hby, hml, hww, hnm, hrt, hlk⟩, locs, X, N, Z0, P⟩ := id A
  have I := P.1 _ (List.mem_of_getElem? hL)
  obtain ⟨cl, Ar, r1, r2, r3, r4⟩ := id I.2
  obtain ⟨T', h', X', e', W, st'⟩ := stZ X hx hZ rfl Ar (j := j) (x := x) (fun q => q.elim hj (fun q => by rw [r1] at q; simp at q; omega)) (g := mkF m pc Ls (.int x :: .int j :: .ref a :: st)) rfl rfl (hb hby hd)
  subst hq hL' e' hx'
  exact Go.st st' (k T' ⟨A.1, _, X', Fr.snoc X' N I.1, by rw [W.size]; exact Z0, P.set W hL (Ara.put (show Ara Z T.heap a .boolean vs from I.2) W (fits_nar_bool _))⟩)
theorem Here.arraylength (A : Here p l e R s m args below meth c Z a0 tbl own nm bc mxl rt n0 T L cells slots) {pc q i : Nat} {Ls : Array Slot} {st : List Value} {a : Addr} {ty : FieldType} {vs : List Value} {v : Int32} (hd : decode bc pc = .ok (.arraylength, 1)) (hq : pc + 1 = q) (hL : L[i]? = some (a, .inr (ty, vs))) (hv : vs.length.toInt32 = v) (k : Go p e below F (T.setTop (mkF m q Ls (.int v :: st)))) : Go p e below F (T.setTop (mkF m pc Ls (.ref a :: st))) := by
  obtain ⟨⟨hx, hZ, hown, hby, hml, hww, hnm, hrt, hlk⟩, locs, X, N, Z0, P⟩ := id A
  obtain ⟨cl, Ar, r1, r2, r3, r4⟩ := (P.1 _ (List.mem_of_getElem? hL)).2
  have hn : cl.slots.size = vs.length := by rw [r1]; simp
  subst hq hv
  exact Go.st (fun t h => X.arraylength hx Ar.1 (State.isArrayOf_alike hZ.alike Ar.2.1) (g := mkF m pc Ls (.ref a :: st)) rfl rfl (hb hby hd) t (by rw [hn]; exact h)) k
theorem Here.castArr (A : Here p l e R s m args below meth c Z a0 tbl own nm bc mxl rt n0 T L cells slots) {pc q i w index : Nat} {Ls : Array Slot} {st : List Value} {a : Addr} {ty : FieldType} {vs : List Value} {K : String} (hd : decode bc pc = .ok (.checkcast index, 3)) (hq : pc + 3 = q) (hw : tbl[w]? = some (Jvm.Cond.classLink own index K)) (hL : L[i]? = some (a, .inr (ty, vs))) (hK : "[" ++ ty.toString = K) (k : ∀ T', Here p l e R s m args below meth c Z a0 tbl own nm bc mxl rt n0 T' L cells slots → Go p e below F (T'.setTop (mkF m q Ls (.ref a :: st)))) : Go p e below F (T.setTop (mkF m pc Ls (.ref a :: st))) := by
  obtain ⟨⟨hx, hZ, hown, hby, hml, hww, hnm, hrt, hlk⟩, locs, X, N, Z0, P⟩ := id A
  obtain ⟨cl, Ar, r1, r2, r3, r4⟩ := (P.1 _ (List.mem_of_getElem? hL)).2
  subst hK hq
  obtain ⟨T', X', e', st'⟩ := castY X hx hZ hown (hww _ (List.mem_of_getElem? hw)) rfl (Ins.self r4) (g := mkF m pc Ls (.ref a :: st)) rfl rfl (hb hby hd)
  exact Go.st st' (k T' ⟨A.1, locs, X', N, by rw [e']; exact Z0, by rw [e']; exact P⟩)
theorem Here.clone (A : Here p l e R s m args below meth c Z a0 tbl own nm bc mxl rt n0 T L cells slots) {pc q i index W w1 w2 w3 w4 w5 w6 cap : Nat} {Ls : Array Slot} {st : List Value} {a : Addr} {ty : FieldType} {vs : List Value} {ad : String} (hd : decode bc pc = .ok (.invokevirtual index, 3)) (hq : pc + 3 = q) (hL : L[i]? = some (a, .inr (ty, vs))) (hK : "[" ++ ty.toString = ad)
    (h1 : tbl[w1]? = some (Jvm.Cond.methodLink own index ⟨ad, "clone", "()Ljava/lang/Object;"⟩)) (h2 : tbl[w2]? = some (Jvm.Cond.sameMethod ad "java/lang/Object" "clone" "()Ljava/lang/Object;")) (h3 : tbl[w3]? = some (Jvm.Cond.native ⟨"java/lang/Object", "clone", "()Ljava/lang/Object;"⟩)) (h4 : tbl[w4]? = some (Jvm.Cond.instanceMethod ⟨"java/lang/Object", "clone", "()Ljava/lang/Object;"⟩)) (h5 : tbl[w5]? = some (Jvm.Cond.selects ad ⟨ad, "clone", "()Ljava/lang/Object;"⟩ ⟨"java/lang/Object", "clone", "()Ljava/lang/Object;"⟩)) (h6 : tbl[w6]? = some (Jvm.Cond.castable ad "java/lang/Cloneable"))
    (hsz : Ls.size = mxl) (hW : (st.map fun v => v.category).sum = W) (hf : 1 ≤ R.frames) (hl : W + 14 ≤ R.locals) (hcap : vs.length ≤ cap) (hc : cells + 1 ≤ R.cells) (hs : slots + cap ≤ R.slots)
    (k : ∀ T' b, Here p l e R s m args below meth c Z a0 tbl own nm bc mxl rt n0 T' ((b, .inr (ty, vs)) :: L) (cells + 1) (slots + cap) → Go p e below F (T'.setTop (mkF m q Ls (.ref b :: st)))) : Go p e below F (T.setTop (mkF m pc Ls (.ref a :: st))) := by
  obtain ⟨⟨hx, hZ, hown, hby, hml, hww, hnm, hrt, hlk⟩, locs, X, N, Z0, P⟩ := id A
  obtain ⟨cl, Ar, r1, r2, r3, r4⟩ := (P.1 _ (List.mem_of_getElem? hL)).2
  subst hK hq
  have hn : cl.slots.size = vs.length := by rw [r1]; simp
  have FC : FitC Z cl := fitC_of Ar fun i hi v hv => r3 v (by rw [r1] at hv; exact List.mem_of_getElem? (by simpa using hv))
  obtain ⟨T', h', X', e', E, Ar', Ex, st'⟩ := cloneA X hx hZ hown (hww _ (List.mem_of_getElem? h1)) (hww _ (List.mem_of_getElem? h2)) (hww _ (List.mem_of_getElem? h3)) (hww _ (List.mem_of_getElem? h4)) (hww _ (List.mem_of_getElem? h5)) (hww _ (List.mem_of_getElem? h6)) rfl Ar r4 FC (g := mkF m pc Ls (.ref a :: st)) rfl (by rw [hml]; exact hsz) rfl (hb hby hd) hf (W := W) (cap := cap) (by show 2 * 0 + _ ≤ _; omega) hl (by omega) hc hs
  subst e'
  exact Go.st st' (k T' _ ⟨A.1, locs, X', N, Nat.le_trans Z0 E.1, P.new E Z0 ⟨_, Ar', r1, r2, r3, Ex⟩⟩)
theorem Here.initObj (A : Here p l e R s m args below meth c Z a0 tbl own nm bc mxl rt n0 T L cells slots) {pc q index w1 w2 w3 W : Nat} {Ls : Array Slot} {st : List Value} {a : Addr} (hd : decode bc pc = .ok (.invokespecial index, 3)) (hq : pc + 3 = q) (h1 : tbl[w1]? = some (Jvm.Cond.methodLink own index Lib.objectInit)) (h2 : tbl[w2]? = some (Jvm.Cond.instanceMethod Lib.objectInit)) (h3 : tbl[w3]? = some (Jvm.Cond.code Lib.objectInit ⟨#[0xb1]⟩ 1 none)) (hsz : Ls.size = mxl) (hW : (st.map fun v => v.category).sum = W) (hf : 1 ≤ R.frames) (hl : W + 12 ≤ R.locals) (k : ∀ T', Here p l e R s m args below meth c Z a0 tbl own nm bc mxl rt n0 T' L cells slots → Go p e below F (T'.setTop (mkF m q Ls st))) : Go p e below F (T.setTop (mkF m pc Ls (.ref a :: st))) := by
  obtain ⟨⟨hx, hZ, hown, hby, hml, hww, hnm, hrt, hlk⟩, locs, X, N, Z0, P⟩ := id A
  subst hq
  obtain ⟨T', X', e', st'⟩ := initO X hx hZ hown (hww _ (List.mem_of_getElem? h1)) (hww _ (List.mem_of_getElem? h2)) (hww _ (List.mem_of_getElem? h3)) rfl (g := mkF m pc Ls (.ref a :: st)) rfl (by rw [hml]; exact hsz) rfl (hb hby hd) hf (W := W) (by show 2 * 0 + _ ≤ _; omega) hl
  exact Go.st st' (k T' ⟨A.1, locs, X', N, by rw [e']; exact Z0, by rw [e']; exact P⟩)
theorem Here.front (A : Here p l e R s m args below meth c Z a0 tbl own nm bc mxl rt n0 T L cells slots) {i : Nat} {x : Addr × Ob} {L' : Obs} (hi : L[i]? = some x) (hL' : x :: L.eraseIdx i = L') : Here p l e R s m args below meth c Z a0 tbl own nm bc mxl rt n0 T L' cells slots := by
  obtain ⟨⟨hx, hZ, hown, hby, hml, hww, hnm, hrt, hlk⟩, locs, X, N, Z0, P⟩ := id A
  subst hL'
  exact ⟨A.1, locs, X, N, Z0, P.front hi⟩
theorem Here.ne (A : Here p l e R s m args below meth c Z a0 tbl own nm bc mxl rt n0 T L cells slots) {i j : Nat} {a b : Addr} {x y : Ob} (hi : L[i]? = some (a, x)) (hj : L[j]? = some (b, y)) (hn : i ≠ j) : a ≠ b := by
  obtain ⟨⟨hx, hZ, hown, hby, hml, hww, hnm, hrt, hlk⟩, locs, X, N, Z0, P⟩ := id A
  exact P.ne hi hj hn

theorem Here.ialoadM (A : Here p l e R s m args below meth c Z a0 tbl own nm bc mxl rt n0 T L cells slots) {pc q i : Nat} {Ls : Array Slot} {st : List Value} {a : Addr} {j : Int32} {xs : List Int32} {v : Int32} (hd : decode bc pc = .ok (.iaload, 1)) (hq : pc + 1 = q) (hL : L[i]? = some (a, .inr (.int, xs.map Value.int))) (hj : ¬ j < 0) (hv : xs[j.toNatClampNeg]? = some v) (k : Go p e below F (T.setTop (mkF m q Ls (Value.int v :: st)))) : Go p e below F (T.setTop (mkF m pc Ls (.int j :: .ref a :: st))) :=
  A.iaload hd hq hL hj (by rw [List.getElem?_map, hv]; rfl) k
theorem Here.laloadM (A : Here p l e R s m args below meth c Z a0 tbl own nm bc mxl rt n0 T L cells slots) {pc q i : Nat} {Ls : Array Slot} {st : List Value} {a : Addr} {j : Int32} {xs : List Int64} {v : Int64} (hd : decode bc pc = .ok (.laload, 1)) (hq : pc + 1 = q) (hL : L[i]? = some (a, .inr (.long, xs.map Value.long))) (hj : ¬ j < 0) (hv : xs[j.toNatClampNeg]? = some v) (k : Go p e below F (T.setTop (mkF m q Ls (Value.long v :: st)))) : Go p e below F (T.setTop (mkF m pc Ls (.int j :: .ref a :: st))) :=
  A.laload hd hq hL hj (by rw [List.getElem?_map, hv]; rfl) k
theorem Here.baloadBM (A : Here p l e R s m args below meth c Z a0 tbl own nm bc mxl rt n0 T L cells slots) {pc q i : Nat} {Ls : Array Slot} {st : List Value} {a : Addr} {j : Int32} {xs : List Int32} {v : Int32} (hd : decode bc pc = .ok (.baload, 1)) (hq : pc + 1 = q) (hL : L[i]? = some (a, .inr (.byte, xs.map Value.int))) (hj : ¬ j < 0) (hv : xs[j.toNatClampNeg]? = some v) (k : Go p e below F (T.setTop (mkF m q Ls (Value.int v :: st)))) : Go p e below F (T.setTop (mkF m pc Ls (.int j :: .ref a :: st))) :=
  A.baloadB hd hq hL hj (by rw [List.getElem?_map, hv]; rfl) k
theorem Here.baloadZM (A : Here p l e R s m args below meth c Z a0 tbl own nm bc mxl rt n0 T L cells slots) {pc q i : Nat} {Ls : Array Slot} {st : List Value} {a : Addr} {j : Int32} {xs : List Int32} {v : Int32} (hd : decode bc pc = .ok (.baload, 1)) (hq : pc + 1 = q) (hL : L[i]? = some (a, .inr (.boolean, xs.map Value.int))) (hj : ¬ j < 0) (hv : xs[j.toNatClampNeg]? = some v) (k : Go p e below F (T.setTop (mkF m q Ls (Value.int v :: st)))) : Go p e below F (T.setTop (mkF m pc Ls (.int j :: .ref a :: st))) :=
  A.baloadZ hd hq hL hj (by rw [List.getElem?_map, hv]; rfl) k
theorem Here.iastoreM (A : Here p l e R s m args below meth c Z a0 tbl own nm bc mxl rt n0 T L cells slots) {pc q i : Nat} {Ls : Array Slot} {st : List Value} {a : Addr} {j : Int32} {x x' : Int32} {xs : List Int32} {L' : Obs} (hd : decode bc pc = .ok (.iastore, 1)) (hq : pc + 1 = q) (hL : L[i]? = some (a, .inr (.int, xs.map Value.int))) (hj : ¬ j < 0) (hlt : j.toNatClampNeg < xs.length) (hx' : x = x') (hL' : L.set i (a, .inr (.int, (xs.set j.toNatClampNeg x').map Value.int)) = L') (k : ∀ T', Here p l e R s m args below meth c Z a0 tbl own nm bc mxl rt n0 T' L' cells slots → Go p e below F (T'.setTop (mkF m q Ls st))) : Go p e below F (T.setTop (mkF m pc Ls (Value.int x :: .int j :: .ref a :: st))) :=
  A.iastore hd hq hL hj (by rw [List.length_map]; exact hlt) hx' (by rw [← hL', List.map_set]) k
theorem Here.lastoreM (A : Here p l e R s m args below meth c Z a0 tbl own nm bc mxl rt n0 T L cells slots) {pc q i : Nat} {Ls : Array Slot} {st : List Value} {a : Addr} {j : Int32} {x x' : Int64} {xs : List Int64} {L' : Obs} (hd : decode bc pc = .ok (.lastore, 1)) (hq : pc + 1 = q) (hL : L[i]? = some (a, .inr (.long, xs.map Value.long))) (hj : ¬ j < 0) (hlt : j.toNatClampNeg < xs.length) (hx' : x = x') (hL' : L.set i (a, .inr (.long, (xs.set j.toNatClampNeg x').map Value.long)) = L') (k : ∀ T', Here p l e R s m args below meth c Z a0 tbl own nm bc mxl rt n0 T' L' cells slots → Go p e below F (T'.setTop (mkF m q Ls st))) : Go p e below F (T.setTop (mkF m pc Ls (Value.long x :: .int j :: .ref a :: st))) :=
  A.lastore hd hq hL hj (by rw [List.length_map]; exact hlt) hx' (by rw [← hL', List.map_set]) k
theorem Here.bastoreBM (A : Here p l e R s m args below meth c Z a0 tbl own nm bc mxl rt n0 T L cells slots) {pc q i : Nat} {Ls : Array Slot} {st : List Value} {a : Addr} {j : Int32} {x x' : Int32} {xs : List Int32} {L' : Obs} (hd : decode bc pc = .ok (.bastore, 1)) (hq : pc + 1 = q) (hL : L[i]? = some (a, .inr (.byte, xs.map Value.int))) (hj : ¬ j < 0) (hlt : j.toNatClampNeg < xs.length) (hx' : (nar .byte x) = x') (hL' : L.set i (a, .inr (.byte, (xs.set j.toNatClampNeg x').map Value.int)) = L') (k : ∀ T', Here p l e R s m args below meth c Z a0 tbl own nm bc mxl rt n0 T' L' cells slots → Go p e below F (T'.setTop (mkF m q Ls st))) : Go p e below F (T.setTop (mkF m pc Ls (Value.int x :: .int j :: .ref a :: st))) :=
  A.bastoreB hd hq hL hj (by rw [List.length_map]; exact hlt) hx' (by rw [← hL', List.map_set]) k
theorem Here.bastoreZM (A : Here p l e R s m args below meth c Z a0 tbl own nm bc mxl rt n0 T L cells slots) {pc q i : Nat} {Ls : Array Slot} {st : List Value} {a : Addr} {j : Int32} {x x' : Int32} {xs : List Int32} {L' : Obs} (hd : decode bc pc = .ok (.bastore, 1)) (hq : pc + 1 = q) (hL : L[i]? = some (a, .inr (.boolean, xs.map Value.int))) (hj : ¬ j < 0) (hlt : j.toNatClampNeg < xs.length) (hx' : (nar .boolean x) = x') (hL' : L.set i (a, .inr (.boolean, (xs.set j.toNatClampNeg x').map Value.int)) = L') (k : ∀ T', Here p l e R s m args below meth c Z a0 tbl own nm bc mxl rt n0 T' L' cells slots → Go p e below F (T'.setTop (mkF m q Ls st))) : Go p e below F (T.setTop (mkF m pc Ls (Value.int x :: .int j :: .ref a :: st))) :=
  A.bastoreZ hd hq hL hj (by rw [List.length_map]; exact hlt) hx' (by rw [← hL', List.map_set]) k
theorem Here.arraylengthM (A : Here p l e R s m args below meth c Z a0 tbl own nm bc mxl rt n0 T L cells slots) {pc q i : Nat} {Ls : Array Slot} {st : List Value} {a : Addr} {ty : FieldType} {α : Type} {f : α → Value} {xs : List α} {v : Int32} (hd : decode bc pc = .ok (.arraylength, 1)) (hq : pc + 1 = q) (hL : L[i]? = some (a, .inr (ty, xs.map f))) (hv : xs.length.toInt32 = v) (k : Go p e below F (T.setTop (mkF m q Ls (.int v :: st)))) : Go p e below F (T.setTop (mkF m pc Ls (.ref a :: st))) :=
  A.arraylength hd hq hL (by rw [List.length_map]; exact hv) k
theorem own_gd {α : Type} {xs : List α} {n : Nat} {d : α} (h : n < xs.length) : xs[n]? = some (xs.getD n d) := by simp [List.getD, h]
theorem Here.callS (A : Here p l e R s m args below meth c Z a0 tbl own nm bc mxl rt n0 T L cells slots) {pc q index W w1 w2 w3 w4 : Nat} {Ls : Array Slot} {st stk : List Value} {y : MethodName} {bytes : ByteArray} {ml : Nat} {rt' : Option FieldType} {rm : Room} {as : List Value} {Q : Option Value → Obs → Prop} (hd : decode bc pc = .ok (.invokestatic index, 3)) (hq : pc + 3 = q) (h1 : tbl[w1]? = some (Jvm.Cond.methodLink own index y)) (h2 : tbl[w2]? = some (Jvm.Cond.static y)) (h3 : tbl[w3]? = some (Jvm.Cond.initialized y.cls)) (h4 : tbl[w4]? = some (Jvm.Cond.code y bytes ml rt')) (hT : Triple l Z n0 y bytes ml rt' rm rm.cells rm.slots as L Q) (hy : y.cls ≠ "java/lang/invoke/MethodHandle" ∧ y.cls ≠ "java/lang/invoke/VarHandle") (hlen : ∃ ps r, parseMethodDescriptor y.desc = some ⟨ps, r⟩ ∧ as.length = ps.length) (hst : stk = as.reverse ++ st) (hsz : Ls.size = mxl) (hW : (st.map fun v => v.category).sum = W) (hf : rm.frames + 1 ≤ R.frames) (hl : W + (ml + 11) + rm.locals ≤ R.locals) (hc : cells + rm.cells ≤ R.cells) (hs : slots + rm.slots ≤ R.slots)
    (k : ∀ v T' L', Q v L' → Here p l e R s m args below meth c Z a0 tbl own nm bc mxl rt n0 T' L' (cells + rm.cells) (slots + rm.slots) → Go p e below F (T'.setTop (mkF m q Ls (v.toList ++ st)))) : Go p e below F (T.setTop (mkF m pc Ls stk)) := by
  obtain ⟨⟨hx, hZ, hown, hby, hml, hww, hnm, hrt, hlk⟩, locs, X, N, Z0, P⟩ := id A
  obtain ⟨ps, r, hps, hle⟩ := hlen
  subst hst hq
  obtain ⟨v, _, ⟨T1, L1, k1, n1⟩, -, X1, ⟨Lc, hQ, l1, y1, z1⟩, st1⟩ := Jvm.LawKit.callS X hx (y := y) hown (mvT hZ (hww _ (List.mem_of_getElem? h1))) (mvT hZ (hww _ (List.mem_of_getElem? h2))) (mvT hZ (hww _ (List.mem_of_getElem? h3))) (mvT hZ (hww _ (List.mem_of_getElem? h4))) hy (backOf (W := W) (Q := fun v h Lc => Fr n0 Lc ∧ n0 ≤ h.size ∧ ∃ L', Q v L' ∧ Pic Z n0 h L') (hT T.heap [] Z0 P) hZ (hww _ (List.mem_of_getElem? h4)) (hww _ (List.mem_of_getElem? h3)) hf hl) (g := mkF m pc Ls (as.reverse ++ st)) rfl (by rw [hml]; exact hsz) (argsL := as) (rest := st) (lenOf hps hle) rfl (by show 2 * 0 + _ ≤ _; omega) (hb hby hd) (fun _ _ => ⟨rfl, rfl, hc, hs⟩)
  dsimp only [Pt.U, Pt.locs, Pt.cells, Pt.slots] at X1 l1 y1 z1 st1 hQ
  subst l1 y1 z1
  obtain ⟨Nq, Zq, L', q, Pq⟩ := hQ
  exact Go.st st1 (k v T1 L' q ⟨A.1, _, X1, N.app Nq, Zq, Pq⟩)
theorem Here.callI (A : Here p l e R s m args below meth c Z a0 tbl own nm bc mxl rt n0 T L cells slots) {pc q index W w1 w2 w3 w4 : Nat} {Ls : Array Slot} {st stk : List Value} {a : Addr} {y : MethodName} {bytes : ByteArray} {ml : Nat} {rm : Room} {as : List Value} {Q : Option Value → Obs → Prop} (hd : decode bc pc = .ok (.invokespecial index, 3)) (hq : pc + 3 = q) (hy1 : y.name = "<init>") (h1 : tbl[w1]? = some (Jvm.Cond.methodLink own index y)) (h2 : tbl[w2]? = some (Jvm.Cond.instanceMethod y)) (h3 : tbl[w3]? = some (Jvm.Cond.initialized y.cls)) (h4 : tbl[w4]? = some (Jvm.Cond.code y bytes ml none)) (hT : Triple l Z n0 y bytes ml none rm rm.cells rm.slots (.ref a :: as) L Q) (hy : y.cls ≠ "java/lang/invoke/MethodHandle" ∧ y.cls ≠ "java/lang/invoke/VarHandle") (hlen : ∃ ps r, parseMethodDescriptor y.desc = some ⟨ps, r⟩ ∧ as.length = ps.length) (hst : stk = as.reverse ++ .ref a :: st) (hsz : Ls.size = mxl) (hW : (st.map fun v => v.category).sum = W) (hf : rm.frames + 1 ≤ R.frames) (hl : W + (ml + 11) + rm.locals ≤ R.locals) (hc : cells + rm.cells ≤ R.cells) (hs : slots + rm.slots ≤ R.slots)
    (k : ∀ v T' L', Q v L' → Here p l e R s m args below meth c Z a0 tbl own nm bc mxl rt n0 T' L' (cells + rm.cells) (slots + rm.slots) → Go p e below F (T'.setTop (mkF m q Ls (v.toList ++ st)))) : Go p e below F (T.setTop (mkF m pc Ls stk)) := by
  obtain ⟨⟨hx, hZ, hown, hby, hml, hww, hnm, hrt, hlk⟩, locs, X, N, Z0, P⟩ := id A
  obtain ⟨ps, r, hps, hle⟩ := hlen
  subst hst hq
  obtain ⟨v, _, ⟨T1, L1, k1, n1⟩, -, X1, ⟨Lc, hQ, l1, y1, z1⟩, st1⟩ := X.specialBack hx (y := y) hy1 hown (mvT hZ (hww _ (List.mem_of_getElem? h1))) (mvT hZ (hww _ (List.mem_of_getElem? h2))) (mvT hZ (hww _ (List.mem_of_getElem? h4))) hy (backOf (W := W) (Q := fun v h Lc => Fr n0 Lc ∧ n0 ≤ h.size ∧ ∃ L', Q v L' ∧ Pic Z n0 h L') (hT T.heap [] Z0 P) hZ (hww _ (List.mem_of_getElem? h4)) (hww _ (List.mem_of_getElem? h3)) hf hl) (g := mkF m pc Ls (as.reverse ++ .ref a :: st)) rfl (by rw [hml]; exact hsz) (Steps.refl _) (a := a) (argsL := as) (rest := st) (lenOf hps hle) rfl (by show 2 * 0 + _ ≤ _; omega) (hb hby hd) (fun _ _ => ⟨rfl, rfl, hc, hs⟩)
  dsimp only [Pt.U, Pt.locs, Pt.cells, Pt.slots] at X1 l1 y1 z1 st1 hQ
  subst l1 y1 z1
  obtain ⟨Nq, Zq, L', q, Pq⟩ := hQ
  exact Go.st (fun t h => st1.trans h) (k v T1 L' q ⟨A.1, _, X1, N.app Nq, Zq, Pq⟩)
theorem Here.callV (A : Here p l e R s m args below meth c Z a0 tbl own nm bc mxl rt n0 T L cells slots) {pc q index W i w1 w2 w3 w4 w5 w6 : Nat} {Ls : Array Slot} {st stk : List Value} {a : Addr} {C : String} {fs : List ((String × String × String) × Value)} {y : MethodName} {bytes : ByteArray} {ml : Nat} {rt' : Option FieldType} {rm : Room} {as : List Value} {Q : Option Value → Obs → Prop} (hd : decode bc pc = .ok (.invokevirtual index, 3)) (hq : pc + 3 = q) (hL : L[i]? = some (a, .inl (C, fs))) (h1 : tbl[w1]? = some (Jvm.Cond.methodLink own index y)) (h2 : tbl[w2]? = some (Jvm.Cond.declares y)) (h5 : tbl[w5]? = some (Jvm.Cond.selects C y y)) (h6 : tbl[w6]? = some (Jvm.Cond.instanceMethod y)) (h3 : tbl[w3]? = some (Jvm.Cond.initialized y.cls)) (h4 : tbl[w4]? = some (Jvm.Cond.code y bytes ml rt')) (hT : Triple l Z n0 y bytes ml rt' rm rm.cells rm.slots (.ref a :: as) L Q) (hy : y.cls ≠ "java/lang/invoke/MethodHandle" ∧ y.cls ≠ "java/lang/invoke/VarHandle") (hlen : ∃ ps r, parseMethodDescriptor y.desc = some ⟨ps, r⟩ ∧ as.length = ps.length) (hst : stk = as.reverse ++ .ref a :: st) (hsz : Ls.size = mxl) (hW : (st.map fun v => v.category).sum = W) (hf : rm.frames + 1 ≤ R.frames) (hl : W + (ml + 11) + rm.locals ≤ R.locals) (hc : cells + rm.cells ≤ R.cells) (hs : slots + rm.slots ≤ R.slots)
    (k : ∀ v T' L', Q v L' → Here p l e R s m args below meth c Z a0 tbl own nm bc mxl rt n0 T' L' (cells + rm.cells) (slots + rm.slots) → Go p e below F (T'.setTop (mkF m q Ls (v.toList ++ st)))) : Go p e below F (T.setTop (mkF m pc Ls stk)) := by
  obtain ⟨⟨hx, hZ, hown, hby, hml, hww, hnm, hrt, hlk⟩, locs, X, N, Z0, P⟩ := id A
  obtain ⟨ps, r, hps, hle⟩ := hlen
  subst hst hq
  obtain ⟨cq, kq, qa, qb, qc⟩ := isOf (T := T) hZ rfl (P.1 _ (List.mem_of_getElem? hL)).2.1
  obtain ⟨v, _, ⟨T1, L1, k1, n1⟩, -, X1, ⟨Lc, hQ, l1, y1, z1⟩, st1⟩ := X.virtualBack hx (y := y) (z := y) hown (mvT hZ (hww _ (List.mem_of_getElem? h1))) (mvT hZ (hww _ (List.mem_of_getElem? h2))) (notFace_of_selects (args := #[]) (mvT hZ (hww _ (List.mem_of_getElem? h5)))) (mvT hZ (hww _ (List.mem_of_getElem? h5))) (mvT hZ (hww _ (List.mem_of_getElem? h6))) hy (backOf (W := W) (Q := fun v h Lc => Fr n0 Lc ∧ n0 ≤ h.size ∧ ∃ L', Q v L' ∧ Pic Z n0 h L') (hT T.heap [] Z0 P) hZ (hww _ (List.mem_of_getElem? h4)) (hww _ (List.mem_of_getElem? h3)) hf hl) qa qc (g := mkF m pc Ls (as.reverse ++ .ref a :: st)) rfl (by rw [hml]; exact hsz) (Steps.refl _) (argsL := as) (rest := st) (lenOf hps hle) rfl (by show 2 * 0 + _ ≤ _; omega) (hb hby hd) (fun _ _ => ⟨rfl, rfl, hc, hs⟩)
  dsimp only [Pt.U, Pt.locs, Pt.cells, Pt.slots] at X1 l1 y1 z1 st1 hQ
  subst l1 y1 z1
  obtain ⟨Nq, Zq, L', q, Pq⟩ := hQ
  exact Go.st (fun t h => st1.trans h) (k v T1 L' q ⟨A.1, _, X1, N.app Nq, Zq, Pq⟩)

theorem Here.callP (A : Here p l e R s m args below meth c Z a0 tbl own nm bc mxl rt n0 T L cells slots) {pc q index W i w1 w2 w3 w4 w5 w6 kk : Nat} {Ls : Array Slot} {st stk : List Value} {a : Addr} {C : String} {fs : List ((String × String × String) × Value)} {y : MethodName} {bytes : ByteArray} {ml : Nat} {rt' : Option FieldType} {rm : Room} {as : List Value} {Q : Option Value → Obs → Prop} (hd : decode bc pc = .ok (.invokevirtual index, 3)) (hq : pc + 3 = q) (hL : L[i]? = some (a, .inl (C, fs))) (h1 : tbl[w1]? = some (Jvm.Cond.methodLink own index y)) (h2 : tbl[w2]? = some (Jvm.Cond.privateMethod y)) (h5 : tbl[w5]? = some (Jvm.Cond.instantiable y.cls kk)) (h6 : tbl[w6]? = some (Jvm.Cond.instanceMethod y)) (h3 : tbl[w3]? = some (Jvm.Cond.initialized y.cls)) (h4 : tbl[w4]? = some (Jvm.Cond.code y bytes ml rt')) (hT : Triple l Z n0 y bytes ml rt' rm rm.cells rm.slots (.ref a :: as) L Q) (hy : y.cls ≠ "java/lang/invoke/MethodHandle" ∧ y.cls ≠ "java/lang/invoke/VarHandle") (hlen : ∃ ps r, parseMethodDescriptor y.desc = some ⟨ps, r⟩ ∧ as.length = ps.length) (hst : stk = as.reverse ++ .ref a :: st) (hsz : Ls.size = mxl) (hW : (st.map fun v => v.category).sum = W) (hf : rm.frames + 1 ≤ R.frames) (hl : W + (ml + 11) + rm.locals ≤ R.locals) (hc : cells + rm.cells ≤ R.cells) (hs : slots + rm.slots ≤ R.slots)
    (k : ∀ v T' L', Q v L' → Here p l e R s m args below meth c Z a0 tbl own nm bc mxl rt n0 T' L' (cells + rm.cells) (slots + rm.slots) → Go p e below F (T'.setTop (mkF m q Ls (v.toList ++ st)))) : Go p e below F (T.setTop (mkF m pc Ls stk)) := by
  obtain ⟨⟨hx, hZ, hown, hby, hml, hww, hnm, hrt, hlk⟩, locs, X, N, Z0, P⟩ := id A
  obtain ⟨ps, r, hps, hle⟩ := hlen
  subst hst hq
  have hp : s.PrivateAt y := Cond.privateMethod_at (mvP hZ (hww _ (List.mem_of_getElem? h2)) (args := #[]))
  have hin : (Jvm.Cond.instanceMethod y).before args s = true := mvT hZ (hww _ (List.mem_of_getElem? h6))
  have hit : (Jvm.Cond.instantiable y.cls kk).before args s = true := mvT hZ (hww _ (List.mem_of_getElem? h5))
  obtain ⟨cI, kI, i1, i2, -, i4, -⟩ := Cond.instantiable_spec hit
  have hni : kI.isInterface = false := by simp only [Bool.or_eq_false_iff] at i4; exact i4.1
  have hsel := selects_self_of_private (args := args) i1 i2 hni hp hin hy
  obtain ⟨cq, q1, q2⟩ := (P.1 _ (List.mem_of_getElem? hL)).2.1.cell
  obtain ⟨v, _, ⟨T1, L1, k1, n1⟩, -, X1, ⟨Lc, hQ, l1, y1, z1⟩, st1⟩ := X.privateBack hx (y := y) hown (mvT hZ (hww _ (List.mem_of_getElem? h1))) hin hsel hp (mvT hZ (hww _ (List.mem_of_getElem? h4))) hy (backOf (W := W) (Q := fun v h Lc => Fr n0 Lc ∧ n0 ≤ h.size ∧ ∃ L', Q v L' ∧ Pic Z n0 h L') (hT T.heap [] Z0 P) hZ (hww _ (List.mem_of_getElem? h4)) (hww _ (List.mem_of_getElem? h3)) hf hl) (g := mkF m pc Ls (as.reverse ++ .ref a :: st)) rfl (by rw [hml]; exact hsz) (Steps.refl _) (a := a) q1 q2 (argsL := as) (rest := st) (lenOf hps hle) rfl (by show 2 * 0 + _ ≤ _; omega) (hb hby hd) (fun _ _ => ⟨rfl, rfl, hc, hs⟩)
  dsimp only [Pt.U, Pt.locs, Pt.cells, Pt.slots] at X1 l1 y1 z1 st1 hQ
  subst l1 y1 z1
  obtain ⟨Nq, Zq, L', q, Pq⟩ := hQ
  exact Go.st (fun t h => st1.trans h) (k v T1 L' q ⟨A.1, _, X1, N.app Nq, Zq, Pq⟩)
theorem Here.pop2L (A : Here p l e R s m args below meth c Z a0 tbl own nm bc mxl rt n0 T L cells slots) {pc q : Nat} {Ls : Array Slot} {st : List Value} {x : Int64} (hd : decode bc pc = .ok (.pop2, 1)) (hq : pc + 1 = q) (k : Go p e below F (T.setTop (mkF m q Ls st))) : Go p e below F (T.setTop (mkF m pc Ls (.long x :: st))) := by
  obtain ⟨⟨hx, hZ, hown, hby, hml, hww, hnm, hrt, hlk⟩, locs, X, N, Z0, P⟩ := id A
  subst hq
  have hd' := hb hby hd
  refine Go.st (fun t h => ?_) k
  show Steps p.tables e below (T.setTop { method := m, pc := pc, locals := Ls, stack := _ :: st, locked := none }) _
  jvm_step X.here [X.here.top, hx, hd', Value.category]
  exact h

theorem Here.copyAll (A : Here p l e R s m args below meth c Z a0 tbl own nm bc mxl rt n0 T L cells slots) {pc q index W w1 w2 w3 w4 i j : Nat} {Ls : Array Slot} {st : List Value} {a b : Addr} {ty : FieldType} {vs vd : List Value} {nn : Int32} {L' : Obs} (hd : decode bc pc = .ok (.invokestatic index, 3)) (hq : pc + 3 = q) (h1 : tbl[w1]? = some (Jvm.Cond.methodLink own index Jvm.Stand.acN)) (h2 : tbl[w2]? = some (Jvm.Cond.native Jvm.Stand.acN)) (h3 : tbl[w3]? = some (Jvm.Cond.static Jvm.Stand.acN)) (h4 : tbl[w4]? = some (Jvm.Cond.initialized "java/lang/System")) (hi : L[i]? = some (a, .inr (ty, vs))) (hj : L[j]? = some (b, .inr (ty, vd))) (hr : refKind ty = false) (hn : vd.length = vs.length) (hnn : vs.length.toInt32 = nn)
    (hsz : Ls.size = mxl) (hW : (st.map fun v => v.category).sum = W) (hf : 1 ≤ R.frames) (hlo : W + (nativeFrameWords "java/lang/System" "arraycopy" 5 + 11) ≤ R.locals) (hL' : L.set j (b, .inr (ty, vs)) = L') (k : ∀ T', Here p l e R s m args below meth c Z a0 tbl own nm bc mxl rt n0 T' L' cells slots → Go p e below F (T'.setTop (mkF m q Ls st))) : Go p e below F (T.setTop (mkF m pc Ls (.int nn :: .int 0 :: .ref b :: .int 0 :: .ref a :: st))) := by
  obtain ⟨⟨hx, hZ, hown, hby, hml, hww, hnm, hrt, hlk⟩, locs, X, N, Z0, P⟩ := id A
  have Ia := P.1 _ (List.mem_of_getElem? hi)
  have Ib := P.1 _ (List.mem_of_getElem? hj)
  have Ib2 : Ara Z T.heap b ty vd := Ib.2
  have Ia2 : Ara Z T.heap a ty vs := Ia.2
  obtain ⟨ka, VA, la, na⟩ := Ia2.toArv (defaultValue ty)
  obtain ⟨kb, VB, lb, nb⟩ := Ib2.toArv (defaultValue ty)
  rw [hn] at VB lb
  subst hq hnn hL'
  have z0 : (0 : Int32).toNatClampNeg = 0 := by decide
  obtain ⟨T', h', L1, X', e', N', K, V', st'⟩ := cpA X hx hZ hown (hww _ (List.mem_of_getElem? h1)) (hww _ (List.mem_of_getElem? h2)) (hww _ (List.mem_of_getElem? h3)) (hww _ (List.mem_of_getElem? h4)) rfl VA VB (Or.inl ⟨rfl, hr⟩) (sp := 0) (dp := 0) (by decide) (by decide) na (by rw [z0]; omega) (by rw [z0]; omega) rfl (by rw [z0]; omega) N Ib.1 (g := mkF m pc Ls (.int vs.length.toInt32 :: .int 0 :: .ref b :: .int 0 :: .ref a :: st)) rfl (by rw [hml]; exact hsz) rfl (hb hby hd) hf (W := W) (by show 2 * 0 + _ ≤ _; omega) hlo
  subst e'
  have ev : vd.take (0 : Int32).toNatClampNeg ++ (List.range vs.length.toInt32.toNatClampNeg).map (fun i => vs.getD ((0 : Int32).toNatClampNeg + i) (defaultValue ty)) ++ vd.drop ((0 : Int32).toNatClampNeg + vs.length.toInt32.toNatClampNeg) = vs := by
    rw [z0, la, List.take_zero, List.nil_append, List.drop_eq_nil_of_le (by omega), List.append_nil]
    refine List.ext_getElem? fun i => ?_
    by_cases hi' : i < vs.length
    · rw [List.getElem?_map, List.getElem?_range hi']; simp [List.getD_eq_getElem?_getD, hi']
    · rw [List.getElem?_eq_none (by simp; omega), List.getElem?_eq_none (by omega)]
  rw [ev] at V'
  obtain ⟨_, _, _, l31, _, Eb⟩ := Ib2
  exact Go.st st' (k T' ⟨A.1, L1, X', N', Nat.le_trans Z0 K.1, P.setK K hj (Arv.toAra V' la (by rw [hn] at l31; exact l31) (Eb.keep K))⟩)

theorem Here.retV  (A : Here p l e R s m args below meth c Z a0 tbl own nm bc mxl none n0 T L cells slots) {pc kc ks : Nat} {Ls : Array Slot} {Q : Option Value → Obs → Prop} (hd : decode bc pc = .ok (.return_, 1)) (hc : cells ≤ kc) (hs : slots ≤ ks) (hQ : Q none L) : Go p e below (EndS below s n0 Z kc ks Q) (T.setTop (mkF m pc Ls [])) := by
  obtain ⟨⟨hx, hZ, hown, hby, hml, hww, hnm, hrt, hlk⟩, locs, X, N, Z0, P⟩ := id A
  obtain ⟨fs, hr, hrun, hended, hW, hsame⟩ := X.leave (v := none) (fun _ => rfl)
  refine ⟨T.setFrames fs, ?_, _, hrun, hended, _, locs, rfl, ⟨N, Z0, L, hQ, P⟩, ⟨_, rfl⟩, hW, hsame.mono hc hs⟩
  exact X.returnOut hx hrt (hb hby hd) hr
theorem Here.retZ {x v : Int32} (A : Here p l e R s m args below meth c Z a0 tbl own nm bc mxl (some .boolean) n0 T L cells slots) {pc kc ks : Nat} {Ls : Array Slot} {st : List Value} {Q : Option Value → Obs → Prop} (hd : decode bc pc = .ok (.ireturn, 1)) (hv : nar .boolean x = v) (hc : cells ≤ kc) (hs : slots ≤ ks) (hQ : Q (some (.int v)) L) : Go p e below (EndS below s n0 Z kc ks Q) (T.setTop (mkF m pc Ls (.int x :: st))) := by
  obtain ⟨⟨hx, hZ, hown, hby, hml, hww, hnm, hrt, hlk⟩, locs, X, N, Z0, P⟩ := id A
  obtain ⟨fs, hr, hrun, hended, hW, hsame⟩ := X.leave (v := (some (.int v))) (fun h => by rw [hrt] at h; cases h)
  refine ⟨T.setFrames fs, ?_, _, hrun, hended, _, locs, rfl, ⟨N, Z0, L, hQ, P⟩, ⟨_, rfl⟩, hW, hsame.mono hc hs⟩
  subst hv; exact retN X hx (t := .boolean) hrt (by simp) (hb hby hd) hr
theorem Here.retB {x v : Int32} (A : Here p l e R s m args below meth c Z a0 tbl own nm bc mxl (some .byte) n0 T L cells slots) {pc kc ks : Nat} {Ls : Array Slot} {st : List Value} {Q : Option Value → Obs → Prop} (hd : decode bc pc = .ok (.ireturn, 1)) (hv : nar .byte x = v) (hc : cells ≤ kc) (hs : slots ≤ ks) (hQ : Q (some (.int v)) L) : Go p e below (EndS below s n0 Z kc ks Q) (T.setTop (mkF m pc Ls (.int x :: st))) := by
  obtain ⟨⟨hx, hZ, hown, hby, hml, hww, hnm, hrt, hlk⟩, locs, X, N, Z0, P⟩ := id A
  obtain ⟨fs, hr, hrun, hended, hW, hsame⟩ := X.leave (v := (some (.int v))) (fun h => by rw [hrt] at h; cases h)
  refine ⟨T.setFrames fs, ?_, _, hrun, hended, _, locs, rfl, ⟨N, Z0, L, hQ, P⟩, ⟨_, rfl⟩, hW, hsame.mono hc hs⟩
  subst hv; exact retN X hx (t := .byte) hrt (by simp) (hb hby hd) hr
theorem Here.retI {x : Int32} (A : Here p l e R s m args below meth c Z a0 tbl own nm bc mxl (some .int) n0 T L cells slots) {pc kc ks : Nat} {Ls : Array Slot} {st : List Value} {Q : Option Value → Obs → Prop} (hd : decode bc pc = .ok (.ireturn, 1)) (hc : cells ≤ kc) (hs : slots ≤ ks) (hQ : Q (some (.int x)) L) : Go p e below (EndS below s n0 Z kc ks Q) (T.setTop (mkF m pc Ls (.int x :: st))) := by
  obtain ⟨⟨hx, hZ, hown, hby, hml, hww, hnm, hrt, hlk⟩, locs, X, N, Z0, P⟩ := id A
  obtain ⟨fs, hr, hrun, hended, hW, hsame⟩ := X.leave (v := (some (.int x))) (fun h => by rw [hrt] at h; cases h)
  refine ⟨T.setFrames fs, ?_, _, hrun, hended, _, locs, rfl, ⟨N, Z0, L, hQ, P⟩, ⟨_, rfl⟩, hW, hsame.mono hc hs⟩
  exact retOut X hx (t := .int) hrt rfl (Or.inl ⟨rfl, Or.inl rfl, _, rfl⟩) (hb hby hd) hr
theorem Here.retJ {x : Int64} (A : Here p l e R s m args below meth c Z a0 tbl own nm bc mxl (some .long) n0 T L cells slots) {pc kc ks : Nat} {Ls : Array Slot} {st : List Value} {Q : Option Value → Obs → Prop} (hd : decode bc pc = .ok (.lreturn, 1)) (hc : cells ≤ kc) (hs : slots ≤ ks) (hQ : Q (some (.long x)) L) : Go p e below (EndS below s n0 Z kc ks Q) (T.setTop (mkF m pc Ls (.long x :: st))) := by
  obtain ⟨⟨hx, hZ, hown, hby, hml, hww, hnm, hrt, hlk⟩, locs, X, N, Z0, P⟩ := id A
  obtain ⟨fs, hr, hrun, hended, hW, hsame⟩ := X.leave (v := (some (.long x))) (fun h => by rw [hrt] at h; cases h)
  refine ⟨T.setFrames fs, ?_, _, hrun, hended, _, locs, rfl, ⟨N, Z0, L, hQ, P⟩, ⟨_, rfl⟩, hW, hsame.mono hc hs⟩
  exact retOut X hx (t := .long) hrt rfl (Or.inr (Or.inl ⟨rfl, rfl, _, rfl⟩)) (hb hby hd) hr
theorem Here.retA {x : Value} {t : FieldType} (A : Here p l e R s m args below meth c Z a0 tbl own nm bc mxl (some t) n0 T L cells slots) {pc kc ks : Nat} {Ls : Array Slot} {st : List Value} {Q : Option Value → Obs → Prop} (hd : decode bc pc = .ok (.areturn, 1)) (hrf : x.isRef = true) (htr : t.isReference = true) (hnn : narrow t x = x) (hc : cells ≤ kc) (hs : slots ≤ ks) (hQ : Q (some x) L) : Go p e below (EndS below s n0 Z kc ks Q) (T.setTop (mkF m pc Ls (x :: st))) := by
  obtain ⟨⟨hx, hZ, hown, hby, hml, hww, hnm, hrt, hlk⟩, locs, X, N, Z0, P⟩ := id A
  obtain ⟨fs, hr, hrun, hended, hW, hsame⟩ := X.leave (v := (some x)) (fun h => by rw [hrt] at h; cases h)
  refine ⟨T.setFrames fs, ?_, _, hrun, hended, _, locs, rfl, ⟨N, Z0, L, hQ, P⟩, ⟨_, rfl⟩, hW, hsame.mono hc hs⟩
  exact retOut X hx (t := t) hrt hnn (Or.inr (Or.inr (Or.inr (Or.inr ⟨rfl, htr, hrf⟩)))) (hb hby hd) hr
end Walk
def FR (z0 : Int32) : Int32 := (if z0 < (65 : Int32) then (0 : Int32) else (if (90 : Int32) < z0 then (if z0 < (97 : Int32) then (0 : Int32) else (if (122 : Int32) < z0 then (if z0 < (192 : Int32) then (0 : Int32) else (if z0 = (215 : Int32) then (0 : Int32) else (if z0 = (247 : Int32) then (0 : Int32) else (if z0 < (768 : Int32) then (1 : Int32) else (if z0 < (880 : Int32) then (0 : Int32) else (if z0 = (894 : Int32) then (0 : Int32) else (if z0 < (8192 : Int32) then (1 : Int32) else (if z0 = (8204 : Int32) then (1 : Int32) else (if z0 = (8205 : Int32) then (1 : Int32) else (if z0 < (8304 : Int32) then (0 : Int32) else (if z0 < (8592 : Int32) then (1 : Int32) else (if z0 < (11264 : Int32) then (0 : Int32) else (if z0 < (12272 : Int32) then (1 : Int32) else (if (12288 : Int32) < z0 then (if z0 < (55296 : Int32) then (1 : Int32) else (if z0 < (63744 : Int32) then (0 : Int32) else (if z0 < (64976 : Int32) then (1 : Int32) else (if z0 < (65008 : Int32) then (0 : Int32) else (if z0 < (65534 : Int32) then (1 : Int32) else (if z0 < (65536 : Int32) then (0 : Int32) else (if z0 < (983040 : Int32) then (1 : Int32) else (0 : Int32)))))))) else (0 : Int32))))))))))))))) else (1 : Int32))) else (1 : Int32)))
theorem d2_0 : decode method_2_code 0 = .ok (.iload_n 0, 1) := by decide +kernel
theorem d2_1 : decode method_2_code 1 = .ok (.bipush 65, 2) := by decide +kernel
theorem d2_3 : decode method_2_code 3 = .ok (.if_icmp .ge 5, 3) := by decide +kernel
theorem d2_6 : decode method_2_code 6 = .ok (.iconst 0, 1) := by decide +kernel
theorem d2_7 : decode method_2_code 7 = .ok (.ireturn, 1) := by decide +kernel
theorem d2_8 : decode method_2_code 8 = .ok (.iload_n 0, 1) := by decide +kernel
theorem d2_9 : decode method_2_code 9 = .ok (.bipush 90, 2) := by decide +kernel
theorem d2_11 : decode method_2_code 11 = .ok (.if_icmp .gt 5, 3) := by decide +kernel
theorem d2_14 : decode method_2_code 14 = .ok (.iconst 1, 1) := by decide +kernel
theorem d2_15 : decode method_2_code 15 = .ok (.ireturn, 1) := by decide +kernel
theorem d2_16 : decode method_2_code 16 = .ok (.iload_n 0, 1) := by decide +kernel
theorem d2_17 : decode method_2_code 17 = .ok (.bipush 97, 2) := by decide +kernel
theorem d2_19 : decode method_2_code 19 = .ok (.if_icmp .ge 5, 3) := by decide +kernel
theorem d2_22 : decode method_2_code 22 = .ok (.iconst 0, 1) := by decide +kernel
theorem d2_23 : decode method_2_code 23 = .ok (.ireturn, 1) := by decide +kernel
theorem d2_24 : decode method_2_code 24 = .ok (.iload_n 0, 1) := by decide +kernel
theorem d2_25 : decode method_2_code 25 = .ok (.bipush 122, 2) := by decide +kernel
theorem d2_27 : decode method_2_code 27 = .ok (.if_icmp .gt 5, 3) := by decide +kernel
theorem d2_30 : decode method_2_code 30 = .ok (.iconst 1, 1) := by decide +kernel
theorem d2_31 : decode method_2_code 31 = .ok (.ireturn, 1) := by decide +kernel
theorem d2_32 : decode method_2_code 32 = .ok (.iload_n 0, 1) := by decide +kernel
theorem d2_33 : decode method_2_code 33 = .ok (.sipush 192, 3) := by decide +kernel
theorem d2_36 : decode method_2_code 36 = .ok (.if_icmp .ge 5, 3) := by decide +kernel
theorem d2_39 : decode method_2_code 39 = .ok (.iconst 0, 1) := by decide +kernel
theorem d2_40 : decode method_2_code 40 = .ok (.ireturn, 1) := by decide +kernel
theorem d2_41 : decode method_2_code 41 = .ok (.iload_n 0, 1) := by decide +kernel
theorem d2_42 : decode method_2_code 42 = .ok (.sipush 215, 3) := by decide +kernel
theorem d2_45 : decode method_2_code 45 = .ok (.if_icmp .eq 10, 3) := by decide +kernel
theorem d2_48 : decode method_2_code 48 = .ok (.iload_n 0, 1) := by decide +kernel
theorem d2_49 : decode method_2_code 49 = .ok (.sipush 247, 3) := by decide +kernel
theorem d2_52 : decode method_2_code 52 = .ok (.if_icmp .ne 5, 3) := by decide +kernel
theorem d2_55 : decode method_2_code 55 = .ok (.iconst 0, 1) := by decide +kernel
theorem d2_56 : decode method_2_code 56 = .ok (.ireturn, 1) := by decide +kernel
theorem d2_57 : decode method_2_code 57 = .ok (.iload_n 0, 1) := by decide +kernel
theorem d2_58 : decode method_2_code 58 = .ok (.sipush 768, 3) := by decide +kernel
theorem d2_61 : decode method_2_code 61 = .ok (.if_icmp .ge 5, 3) := by decide +kernel
theorem d2_64 : decode method_2_code 64 = .ok (.iconst 1, 1) := by decide +kernel
theorem d2_65 : decode method_2_code 65 = .ok (.ireturn, 1) := by decide +kernel
theorem d2_66 : decode method_2_code 66 = .ok (.iload_n 0, 1) := by decide +kernel
theorem d2_67 : decode method_2_code 67 = .ok (.sipush 880, 3) := by decide +kernel
theorem d2_70 : decode method_2_code 70 = .ok (.if_icmp .ge 5, 3) := by decide +kernel
theorem d2_73 : decode method_2_code 73 = .ok (.iconst 0, 1) := by decide +kernel
theorem d2_74 : decode method_2_code 74 = .ok (.ireturn, 1) := by decide +kernel
theorem d2_75 : decode method_2_code 75 = .ok (.iload_n 0, 1) := by decide +kernel
theorem d2_76 : decode method_2_code 76 = .ok (.sipush 894, 3) := by decide +kernel
theorem d2_79 : decode method_2_code 79 = .ok (.if_icmp .ne 5, 3) := by decide +kernel
theorem d2_82 : decode method_2_code 82 = .ok (.iconst 0, 1) := by decide +kernel
theorem d2_83 : decode method_2_code 83 = .ok (.ireturn, 1) := by decide +kernel
theorem d2_84 : decode method_2_code 84 = .ok (.iload_n 0, 1) := by decide +kernel
theorem d2_85 : decode method_2_code 85 = .ok (.sipush 8192, 3) := by decide +kernel
theorem d2_88 : decode method_2_code 88 = .ok (.if_icmp .ge 5, 3) := by decide +kernel
theorem d2_91 : decode method_2_code 91 = .ok (.iconst 1, 1) := by decide +kernel
theorem d2_92 : decode method_2_code 92 = .ok (.ireturn, 1) := by decide +kernel
theorem d2_93 : decode method_2_code 93 = .ok (.iload_n 0, 1) := by decide +kernel
theorem d2_94 : decode method_2_code 94 = .ok (.sipush 8204, 3) := by decide +kernel
theorem d2_97 : decode method_2_code 97 = .ok (.if_icmp .eq 10, 3) := by decide +kernel
theorem d2_100 : decode method_2_code 100 = .ok (.iload_n 0, 1) := by decide +kernel
theorem d2_101 : decode method_2_code 101 = .ok (.sipush 8205, 3) := by decide +kernel
theorem d2_104 : decode method_2_code 104 = .ok (.if_icmp .ne 5, 3) := by decide +kernel
theorem d2_107 : decode method_2_code 107 = .ok (.iconst 1, 1) := by decide +kernel
theorem d2_108 : decode method_2_code 108 = .ok (.ireturn, 1) := by decide +kernel
theorem d2_109 : decode method_2_code 109 = .ok (.iload_n 0, 1) := by decide +kernel
theorem d2_110 : decode method_2_code 110 = .ok (.sipush 8304, 3) := by decide +kernel
theorem d2_113 : decode method_2_code 113 = .ok (.if_icmp .ge 5, 3) := by decide +kernel
theorem d2_116 : decode method_2_code 116 = .ok (.iconst 0, 1) := by decide +kernel
theorem d2_117 : decode method_2_code 117 = .ok (.ireturn, 1) := by decide +kernel
theorem d2_118 : decode method_2_code 118 = .ok (.iload_n 0, 1) := by decide +kernel
theorem d2_119 : decode method_2_code 119 = .ok (.sipush 8592, 3) := by decide +kernel
theorem d2_122 : decode method_2_code 122 = .ok (.if_icmp .ge 5, 3) := by decide +kernel
theorem d2_125 : decode method_2_code 125 = .ok (.iconst 1, 1) := by decide +kernel
theorem d2_126 : decode method_2_code 126 = .ok (.ireturn, 1) := by decide +kernel
theorem d2_127 : decode method_2_code 127 = .ok (.iload_n 0, 1) := by decide +kernel
theorem d2_128 : decode method_2_code 128 = .ok (.sipush 11264, 3) := by decide +kernel
theorem d2_131 : decode method_2_code 131 = .ok (.if_icmp .ge 5, 3) := by decide +kernel
theorem d2_134 : decode method_2_code 134 = .ok (.iconst 0, 1) := by decide +kernel
theorem d2_135 : decode method_2_code 135 = .ok (.ireturn, 1) := by decide +kernel
theorem d2_136 : decode method_2_code 136 = .ok (.iload_n 0, 1) := by decide +kernel
theorem d2_137 : decode method_2_code 137 = .ok (.sipush 12272, 3) := by decide +kernel
theorem d2_140 : decode method_2_code 140 = .ok (.if_icmp .ge 5, 3) := by decide +kernel
theorem d2_143 : decode method_2_code 143 = .ok (.iconst 1, 1) := by decide +kernel
theorem d2_144 : decode method_2_code 144 = .ok (.ireturn, 1) := by decide +kernel
theorem d2_145 : decode method_2_code 145 = .ok (.iload_n 0, 1) := by decide +kernel
theorem d2_146 : decode method_2_code 146 = .ok (.sipush 12288, 3) := by decide +kernel
theorem d2_149 : decode method_2_code 149 = .ok (.if_icmp .gt 5, 3) := by decide +kernel
theorem d2_152 : decode method_2_code 152 = .ok (.iconst 0, 1) := by decide +kernel
theorem d2_153 : decode method_2_code 153 = .ok (.ireturn, 1) := by decide +kernel
theorem d2_154 : decode method_2_code 154 = .ok (.iload_n 0, 1) := by decide +kernel
theorem d2_155 : decode method_2_code 155 = .ok (.ldc 7, 2) := by decide +kernel
theorem d2_157 : decode method_2_code 157 = .ok (.if_icmp .ge 5, 3) := by decide +kernel
theorem d2_160 : decode method_2_code 160 = .ok (.iconst 1, 1) := by decide +kernel
theorem d2_161 : decode method_2_code 161 = .ok (.ireturn, 1) := by decide +kernel
theorem d2_162 : decode method_2_code 162 = .ok (.iload_n 0, 1) := by decide +kernel
theorem d2_163 : decode method_2_code 163 = .ok (.ldc 8, 2) := by decide +kernel
theorem d2_165 : decode method_2_code 165 = .ok (.if_icmp .ge 5, 3) := by decide +kernel
theorem d2_168 : decode method_2_code 168 = .ok (.iconst 0, 1) := by decide +kernel
theorem d2_169 : decode method_2_code 169 = .ok (.ireturn, 1) := by decide +kernel
theorem d2_170 : decode method_2_code 170 = .ok (.iload_n 0, 1) := by decide +kernel
theorem d2_171 : decode method_2_code 171 = .ok (.ldc 9, 2) := by decide +kernel
theorem d2_173 : decode method_2_code 173 = .ok (.if_icmp .ge 5, 3) := by decide +kernel
theorem d2_176 : decode method_2_code 176 = .ok (.iconst 1, 1) := by decide +kernel
theorem d2_177 : decode method_2_code 177 = .ok (.ireturn, 1) := by decide +kernel
theorem d2_178 : decode method_2_code 178 = .ok (.iload_n 0, 1) := by decide +kernel
theorem d2_179 : decode method_2_code 179 = .ok (.ldc 10, 2) := by decide +kernel
theorem d2_181 : decode method_2_code 181 = .ok (.if_icmp .ge 5, 3) := by decide +kernel
theorem d2_184 : decode method_2_code 184 = .ok (.iconst 0, 1) := by decide +kernel
theorem d2_185 : decode method_2_code 185 = .ok (.ireturn, 1) := by decide +kernel
theorem d2_186 : decode method_2_code 186 = .ok (.iload_n 0, 1) := by decide +kernel
theorem d2_187 : decode method_2_code 187 = .ok (.ldc 11, 2) := by decide +kernel
theorem d2_189 : decode method_2_code 189 = .ok (.if_icmp .ge 5, 3) := by decide +kernel
theorem d2_192 : decode method_2_code 192 = .ok (.iconst 1, 1) := by decide +kernel
theorem d2_193 : decode method_2_code 193 = .ok (.ireturn, 1) := by decide +kernel
theorem d2_194 : decode method_2_code 194 = .ok (.iload_n 0, 1) := by decide +kernel
theorem d2_195 : decode method_2_code 195 = .ok (.ldc 12, 2) := by decide +kernel
theorem d2_197 : decode method_2_code 197 = .ok (.if_icmp .ge 5, 3) := by decide +kernel
theorem d2_200 : decode method_2_code 200 = .ok (.iconst 0, 1) := by decide +kernel
theorem d2_201 : decode method_2_code 201 = .ok (.ireturn, 1) := by decide +kernel
theorem d2_202 : decode method_2_code 202 = .ok (.iload_n 0, 1) := by decide +kernel
theorem d2_203 : decode method_2_code 203 = .ok (.ldc 13, 2) := by decide +kernel
theorem d2_205 : decode method_2_code 205 = .ok (.if_icmp .ge 7, 3) := by decide +kernel
theorem d2_208 : decode method_2_code 208 = .ok (.iconst 1, 1) := by decide +kernel
theorem d2_209 : decode method_2_code 209 = .ok (.goto 4, 3) := by decide +kernel
theorem d2_212 : decode method_2_code 212 = .ok (.iconst 0, 1) := by decide +kernel
theorem d2_213 : decode method_2_code 213 = .ok (.ireturn, 1) := by decide +kernel
theorem pn_2 : plainFor (⟨"com/example/triplemill/triplemill/rdf/SourceTextIsPnCharsBasePinLaw", "ref", "(I)Z"⟩ : MethodName) = true := plainFor_of_name (by first | (simp [plainName, overriddenIn]; done) | decide +kernel)
set_option maxRecDepth 65536 in
set_option maxHeartbeats 40000000 in
theorem rmR (l : Launch) (Z : State) (a0 : Array Value) (hw : ∀ d ∈ tables_1, d.before a0 Z = true) (n0 : Nat) (z0 : Int32) (RR : Obs) :
    Triple l Z n0 (⟨"com/example/triplemill/triplemill/rdf/SourceTextIsPnCharsBasePinLaw", "ref", "(I)Z"⟩ : MethodName) method_2_code 1 (some .boolean) ({ frames := 0, cells := 0, slots := 0, locals := 0 } : Room) 0 0 [(.int z0)] (RR) (fun v L' => v = some (.int (FR z0)) ∧ L' = (RR)) := by
  refine Triple.of_body (tbl := tables_1) (a0 := a0) (Ls := #[.val (.int z0)]) pn_2 hw (fun m => by first | rfl | (simp [entryFrame, mkF, argsToLocals, Value.category]; done)) ?_
  intro p e s m below meth c T A
  refine A.iloadN (q := 1) d2_0 rfl rfl ?_
  refine A.bipush (q := 3) (v := (65 : Int32)) d2_1 rfl (by decide) ?_
  refine A.icmp_ge (q := 6) (r := 8) d2_3 rfl (by decide) (fun h1 => ?_) (fun h1 => ?_)
  · refine A.iloadN (q := 9) d2_8 rfl rfl ?_
    refine A.bipush (q := 11) (v := (90 : Int32)) d2_9 rfl (by decide) ?_
    refine A.icmp_gt (q := 14) (r := 16) d2_11 rfl (by decide) (fun h2 => ?_) (fun h2 => ?_)
    · refine A.iloadN (q := 17) d2_16 rfl rfl ?_
      refine A.bipush (q := 19) (v := (97 : Int32)) d2_17 rfl (by decide) ?_
      refine A.icmp_ge (q := 22) (r := 24) d2_19 rfl (by decide) (fun h3 => ?_) (fun h3 => ?_)
      · refine A.iloadN (q := 25) d2_24 rfl rfl ?_
        refine A.bipush (q := 27) (v := (122 : Int32)) d2_25 rfl (by decide) ?_
        refine A.icmp_gt (q := 30) (r := 32) d2_27 rfl (by decide) (fun h4 => ?_) (fun h4 => ?_)
        · refine A.iloadN (q := 33) d2_32 rfl rfl ?_
          refine A.sipush (q := 36) (v := (192 : Int32)) d2_33 rfl (by decide) ?_
          refine A.icmp_ge (q := 39) (r := 41) d2_36 rfl (by decide) (fun h5 => ?_) (fun h5 => ?_)
          · refine A.iloadN (q := 42) d2_41 rfl rfl ?_
            refine A.sipush (q := 45) (v := (215 : Int32)) d2_42 rfl (by decide) ?_
            refine A.icmp_eq (q := 48) (r := 55) d2_45 rfl (by decide) (fun h6 => ?_) (fun h6 => ?_)
            · refine A.iconst (q := 56) (v := (0 : Int32)) d2_55 rfl (by decide) ?_
              exact A.retZ (v := (FR z0)) d2_56 (by simp only [FR, if_neg h1, if_pos h2, if_neg h3, if_pos h4, if_neg h5, if_pos h6]; rfl) (by decide) (by decide) ⟨rfl, by first | rfl | (simp only [if_neg h1, if_pos h2, if_neg h3, if_pos h4, if_neg h5, if_pos h6])⟩
            · refine A.iloadN (q := 49) d2_48 rfl rfl ?_
              refine A.sipush (q := 52) (v := (247 : Int32)) d2_49 rfl (by decide) ?_
              refine A.icmp_ne (q := 55) (r := 57) d2_52 rfl (by decide) (fun h7 => ?_) (fun h7 => ?_)
              · refine A.iloadN (q := 58) d2_57 rfl rfl ?_
                refine A.sipush (q := 61) (v := (768 : Int32)) d2_58 rfl (by decide) ?_
                refine A.icmp_ge (q := 64) (r := 66) d2_61 rfl (by decide) (fun h8 => ?_) (fun h8 => ?_)
                · refine A.iloadN (q := 67) d2_66 rfl rfl ?_
                  refine A.sipush (q := 70) (v := (880 : Int32)) d2_67 rfl (by decide) ?_
                  refine A.icmp_ge (q := 73) (r := 75) d2_70 rfl (by decide) (fun h9 => ?_) (fun h9 => ?_)
                  · refine A.iloadN (q := 76) d2_75 rfl rfl ?_
                    refine A.sipush (q := 79) (v := (894 : Int32)) d2_76 rfl (by decide) ?_
                    refine A.icmp_ne (q := 82) (r := 84) d2_79 rfl (by decide) (fun h10 => ?_) (fun h10 => ?_)
                    · refine A.iloadN (q := 85) d2_84 rfl rfl ?_
                      refine A.sipush (q := 88) (v := (8192 : Int32)) d2_85 rfl (by decide) ?_
                      refine A.icmp_ge (q := 91) (r := 93) d2_88 rfl (by decide) (fun h11 => ?_) (fun h11 => ?_)
                      · refine A.iloadN (q := 94) d2_93 rfl rfl ?_
                        refine A.sipush (q := 97) (v := (8204 : Int32)) d2_94 rfl (by decide) ?_
                        refine A.icmp_eq (q := 100) (r := 107) d2_97 rfl (by decide) (fun h12 => ?_) (fun h12 => ?_)
                        · refine A.iconst (q := 108) (v := (1 : Int32)) d2_107 rfl (by decide) ?_
                          exact A.retZ (v := (FR z0)) d2_108 (by simp only [FR, if_neg h1, if_pos h2, if_neg h3, if_pos h4, if_neg h5, if_neg h6, if_neg h7, if_neg h8, if_neg h9, if_neg h10, if_neg h11, if_pos h12]; rfl) (by decide) (by decide) ⟨rfl, by first | rfl | (simp only [if_neg h1, if_pos h2, if_neg h3, if_pos h4, if_neg h5, if_neg h6, if_neg h7, if_neg h8, if_neg h9, if_neg h10, if_neg h11, if_pos h12])⟩
                        · refine A.iloadN (q := 101) d2_100 rfl rfl ?_
                          refine A.sipush (q := 104) (v := (8205 : Int32)) d2_101 rfl (by decide) ?_
                          refine A.icmp_ne (q := 107) (r := 109) d2_104 rfl (by decide) (fun h13 => ?_) (fun h13 => ?_)
                          · refine A.iloadN (q := 110) d2_109 rfl rfl ?_
                            refine A.sipush (q := 113) (v := (8304 : Int32)) d2_110 rfl (by decide) ?_
                            refine A.icmp_ge (q := 116) (r := 118) d2_113 rfl (by decide) (fun h14 => ?_) (fun h14 => ?_)
                            · refine A.iloadN (q := 119) d2_118 rfl rfl ?_
                              refine A.sipush (q := 122) (v := (8592 : Int32)) d2_119 rfl (by decide) ?_
                              refine A.icmp_ge (q := 125) (r := 127) d2_122 rfl (by decide) (fun h15 => ?_) (fun h15 => ?_)
                              · refine A.iloadN (q := 128) d2_127 rfl rfl ?_
                                refine A.sipush (q := 131) (v := (11264 : Int32)) d2_128 rfl (by decide) ?_
                                refine A.icmp_ge (q := 134) (r := 136) d2_131 rfl (by decide) (fun h16 => ?_) (fun h16 => ?_)
                                · refine A.iloadN (q := 137) d2_136 rfl rfl ?_
                                  refine A.sipush (q := 140) (v := (12272 : Int32)) d2_137 rfl (by decide) ?_
                                  refine A.icmp_ge (q := 143) (r := 145) d2_140 rfl (by decide) (fun h17 => ?_) (fun h17 => ?_)
                                  · refine A.iloadN (q := 146) d2_145 rfl rfl ?_
                                    refine A.sipush (q := 149) (v := (12288 : Int32)) d2_146 rfl (by decide) ?_
                                    refine A.icmp_gt (q := 152) (r := 154) d2_149 rfl (by decide) (fun h18 => ?_) (fun h18 => ?_)
                                    · refine A.iloadN (q := 155) d2_154 rfl rfl ?_
                                      refine A.ldc (q := 157) (v := (55296 : Int32)) (w := 23) d2_155 rfl rfl ?_
                                      refine A.icmp_ge (q := 160) (r := 162) d2_157 rfl (by decide) (fun h19 => ?_) (fun h19 => ?_)
                                      · refine A.iloadN (q := 163) d2_162 rfl rfl ?_
                                        refine A.ldc (q := 165) (v := (63744 : Int32)) (w := 2) d2_163 rfl rfl ?_
                                        refine A.icmp_ge (q := 168) (r := 170) d2_165 rfl (by decide) (fun h20 => ?_) (fun h20 => ?_)
                                        · refine A.iloadN (q := 171) d2_170 rfl rfl ?_
                                          refine A.ldc (q := 173) (v := (64976 : Int32)) (w := 24) d2_171 rfl rfl ?_
                                          refine A.icmp_ge (q := 176) (r := 178) d2_173 rfl (by decide) (fun h21 => ?_) (fun h21 => ?_)
                                          · refine A.iloadN (q := 179) d2_178 rfl rfl ?_
                                            refine A.ldc (q := 181) (v := (65008 : Int32)) (w := 4) d2_179 rfl rfl ?_
                                            refine A.icmp_ge (q := 184) (r := 186) d2_181 rfl (by decide) (fun h22 => ?_) (fun h22 => ?_)
                                            · refine A.iloadN (q := 187) d2_186 rfl rfl ?_
                                              refine A.ldc (q := 189) (v := (65534 : Int32)) (w := 25) d2_187 rfl rfl ?_
                                              refine A.icmp_ge (q := 192) (r := 194) d2_189 rfl (by decide) (fun h23 => ?_) (fun h23 => ?_)
                                              · refine A.iloadN (q := 195) d2_194 rfl rfl ?_
                                                refine A.ldc (q := 197) (v := (65536 : Int32)) (w := 6) d2_195 rfl rfl ?_
                                                refine A.icmp_ge (q := 200) (r := 202) d2_197 rfl (by decide) (fun h24 => ?_) (fun h24 => ?_)
                                                · refine A.iloadN (q := 203) d2_202 rfl rfl ?_
                                                  refine A.ldc (q := 205) (v := (983040 : Int32)) (w := 27) d2_203 rfl rfl ?_
                                                  refine A.icmp_ge (q := 208) (r := 212) d2_205 rfl (by decide) (fun h25 => ?_) (fun h25 => ?_)
                                                  · refine A.iconst (q := 213) (v := (0 : Int32)) d2_212 rfl (by decide) ?_
                                                    exact A.retZ (v := (FR z0)) d2_213 (by simp only [FR, if_neg h1, if_pos h2, if_neg h3, if_pos h4, if_neg h5, if_neg h6, if_neg h7, if_neg h8, if_neg h9, if_neg h10, if_neg h11, if_neg h12, if_neg h13, if_neg h14, if_neg h15, if_neg h16, if_neg h17, if_pos h18, if_neg h19, if_neg h20, if_neg h21, if_neg h22, if_neg h23, if_neg h24, if_neg h25]; rfl) (by decide) (by decide) ⟨rfl, by first | rfl | (simp only [if_neg h1, if_pos h2, if_neg h3, if_pos h4, if_neg h5, if_neg h6, if_neg h7, if_neg h8, if_neg h9, if_neg h10, if_neg h11, if_neg h12, if_neg h13, if_neg h14, if_neg h15, if_neg h16, if_neg h17, if_pos h18, if_neg h19, if_neg h20, if_neg h21, if_neg h22, if_neg h23, if_neg h24, if_neg h25])⟩
                                                  · refine A.iconst (q := 209) (v := (1 : Int32)) d2_208 rfl (by decide) ?_
                                                    refine A.goto (r := 213) d2_209 (by decide) ?_
                                                    exact A.retZ (v := (FR z0)) d2_213 (by simp only [FR, if_neg h1, if_pos h2, if_neg h3, if_pos h4, if_neg h5, if_neg h6, if_neg h7, if_neg h8, if_neg h9, if_neg h10, if_neg h11, if_neg h12, if_neg h13, if_neg h14, if_neg h15, if_neg h16, if_neg h17, if_pos h18, if_neg h19, if_neg h20, if_neg h21, if_neg h22, if_neg h23, if_neg h24, if_pos h25]; rfl) (by decide) (by decide) ⟨rfl, by first | rfl | (simp only [if_neg h1, if_pos h2, if_neg h3, if_pos h4, if_neg h5, if_neg h6, if_neg h7, if_neg h8, if_neg h9, if_neg h10, if_neg h11, if_neg h12, if_neg h13, if_neg h14, if_neg h15, if_neg h16, if_neg h17, if_pos h18, if_neg h19, if_neg h20, if_neg h21, if_neg h22, if_neg h23, if_neg h24, if_pos h25])⟩
                                                · refine A.iconst (q := 201) (v := (0 : Int32)) d2_200 rfl (by decide) ?_
                                                  exact A.retZ (v := (FR z0)) d2_201 (by simp only [FR, if_neg h1, if_pos h2, if_neg h3, if_pos h4, if_neg h5, if_neg h6, if_neg h7, if_neg h8, if_neg h9, if_neg h10, if_neg h11, if_neg h12, if_neg h13, if_neg h14, if_neg h15, if_neg h16, if_neg h17, if_pos h18, if_neg h19, if_neg h20, if_neg h21, if_neg h22, if_neg h23, if_pos h24]; rfl) (by decide) (by decide) ⟨rfl, by first | rfl | (simp only [if_neg h1, if_pos h2, if_neg h3, if_pos h4, if_neg h5, if_neg h6, if_neg h7, if_neg h8, if_neg h9, if_neg h10, if_neg h11, if_neg h12, if_neg h13, if_neg h14, if_neg h15, if_neg h16, if_neg h17, if_pos h18, if_neg h19, if_neg h20, if_neg h21, if_neg h22, if_neg h23, if_pos h24])⟩
                                              · refine A.iconst (q := 193) (v := (1 : Int32)) d2_192 rfl (by decide) ?_
                                                exact A.retZ (v := (FR z0)) d2_193 (by simp only [FR, if_neg h1, if_pos h2, if_neg h3, if_pos h4, if_neg h5, if_neg h6, if_neg h7, if_neg h8, if_neg h9, if_neg h10, if_neg h11, if_neg h12, if_neg h13, if_neg h14, if_neg h15, if_neg h16, if_neg h17, if_pos h18, if_neg h19, if_neg h20, if_neg h21, if_neg h22, if_pos h23]; rfl) (by decide) (by decide) ⟨rfl, by first | rfl | (simp only [if_neg h1, if_pos h2, if_neg h3, if_pos h4, if_neg h5, if_neg h6, if_neg h7, if_neg h8, if_neg h9, if_neg h10, if_neg h11, if_neg h12, if_neg h13, if_neg h14, if_neg h15, if_neg h16, if_neg h17, if_pos h18, if_neg h19, if_neg h20, if_neg h21, if_neg h22, if_pos h23])⟩
                                            · refine A.iconst (q := 185) (v := (0 : Int32)) d2_184 rfl (by decide) ?_
                                              exact A.retZ (v := (FR z0)) d2_185 (by simp only [FR, if_neg h1, if_pos h2, if_neg h3, if_pos h4, if_neg h5, if_neg h6, if_neg h7, if_neg h8, if_neg h9, if_neg h10, if_neg h11, if_neg h12, if_neg h13, if_neg h14, if_neg h15, if_neg h16, if_neg h17, if_pos h18, if_neg h19, if_neg h20, if_neg h21, if_pos h22]; rfl) (by decide) (by decide) ⟨rfl, by first | rfl | (simp only [if_neg h1, if_pos h2, if_neg h3, if_pos h4, if_neg h5, if_neg h6, if_neg h7, if_neg h8, if_neg h9, if_neg h10, if_neg h11, if_neg h12, if_neg h13, if_neg h14, if_neg h15, if_neg h16, if_neg h17, if_pos h18, if_neg h19, if_neg h20, if_neg h21, if_pos h22])⟩
                                          · refine A.iconst (q := 177) (v := (1 : Int32)) d2_176 rfl (by decide) ?_
                                            exact A.retZ (v := (FR z0)) d2_177 (by simp only [FR, if_neg h1, if_pos h2, if_neg h3, if_pos h4, if_neg h5, if_neg h6, if_neg h7, if_neg h8, if_neg h9, if_neg h10, if_neg h11, if_neg h12, if_neg h13, if_neg h14, if_neg h15, if_neg h16, if_neg h17, if_pos h18, if_neg h19, if_neg h20, if_pos h21]; rfl) (by decide) (by decide) ⟨rfl, by first | rfl | (simp only [if_neg h1, if_pos h2, if_neg h3, if_pos h4, if_neg h5, if_neg h6, if_neg h7, if_neg h8, if_neg h9, if_neg h10, if_neg h11, if_neg h12, if_neg h13, if_neg h14, if_neg h15, if_neg h16, if_neg h17, if_pos h18, if_neg h19, if_neg h20, if_pos h21])⟩
                                        · refine A.iconst (q := 169) (v := (0 : Int32)) d2_168 rfl (by decide) ?_
                                          exact A.retZ (v := (FR z0)) d2_169 (by simp only [FR, if_neg h1, if_pos h2, if_neg h3, if_pos h4, if_neg h5, if_neg h6, if_neg h7, if_neg h8, if_neg h9, if_neg h10, if_neg h11, if_neg h12, if_neg h13, if_neg h14, if_neg h15, if_neg h16, if_neg h17, if_pos h18, if_neg h19, if_pos h20]; rfl) (by decide) (by decide) ⟨rfl, by first | rfl | (simp only [if_neg h1, if_pos h2, if_neg h3, if_pos h4, if_neg h5, if_neg h6, if_neg h7, if_neg h8, if_neg h9, if_neg h10, if_neg h11, if_neg h12, if_neg h13, if_neg h14, if_neg h15, if_neg h16, if_neg h17, if_pos h18, if_neg h19, if_pos h20])⟩
                                      · refine A.iconst (q := 161) (v := (1 : Int32)) d2_160 rfl (by decide) ?_
                                        exact A.retZ (v := (FR z0)) d2_161 (by simp only [FR, if_neg h1, if_pos h2, if_neg h3, if_pos h4, if_neg h5, if_neg h6, if_neg h7, if_neg h8, if_neg h9, if_neg h10, if_neg h11, if_neg h12, if_neg h13, if_neg h14, if_neg h15, if_neg h16, if_neg h17, if_pos h18, if_pos h19]; rfl) (by decide) (by decide) ⟨rfl, by first | rfl | (simp only [if_neg h1, if_pos h2, if_neg h3, if_pos h4, if_neg h5, if_neg h6, if_neg h7, if_neg h8, if_neg h9, if_neg h10, if_neg h11, if_neg h12, if_neg h13, if_neg h14, if_neg h15, if_neg h16, if_neg h17, if_pos h18, if_pos h19])⟩
                                    · refine A.iconst (q := 153) (v := (0 : Int32)) d2_152 rfl (by decide) ?_
                                      exact A.retZ (v := (FR z0)) d2_153 (by simp only [FR, if_neg h1, if_pos h2, if_neg h3, if_pos h4, if_neg h5, if_neg h6, if_neg h7, if_neg h8, if_neg h9, if_neg h10, if_neg h11, if_neg h12, if_neg h13, if_neg h14, if_neg h15, if_neg h16, if_neg h17, if_neg h18]; rfl) (by decide) (by decide) ⟨rfl, by first | rfl | (simp only [if_neg h1, if_pos h2, if_neg h3, if_pos h4, if_neg h5, if_neg h6, if_neg h7, if_neg h8, if_neg h9, if_neg h10, if_neg h11, if_neg h12, if_neg h13, if_neg h14, if_neg h15, if_neg h16, if_neg h17, if_neg h18])⟩
                                  · refine A.iconst (q := 144) (v := (1 : Int32)) d2_143 rfl (by decide) ?_
                                    exact A.retZ (v := (FR z0)) d2_144 (by simp only [FR, if_neg h1, if_pos h2, if_neg h3, if_pos h4, if_neg h5, if_neg h6, if_neg h7, if_neg h8, if_neg h9, if_neg h10, if_neg h11, if_neg h12, if_neg h13, if_neg h14, if_neg h15, if_neg h16, if_pos h17]; rfl) (by decide) (by decide) ⟨rfl, by first | rfl | (simp only [if_neg h1, if_pos h2, if_neg h3, if_pos h4, if_neg h5, if_neg h6, if_neg h7, if_neg h8, if_neg h9, if_neg h10, if_neg h11, if_neg h12, if_neg h13, if_neg h14, if_neg h15, if_neg h16, if_pos h17])⟩
                                · refine A.iconst (q := 135) (v := (0 : Int32)) d2_134 rfl (by decide) ?_
                                  exact A.retZ (v := (FR z0)) d2_135 (by simp only [FR, if_neg h1, if_pos h2, if_neg h3, if_pos h4, if_neg h5, if_neg h6, if_neg h7, if_neg h8, if_neg h9, if_neg h10, if_neg h11, if_neg h12, if_neg h13, if_neg h14, if_neg h15, if_pos h16]; rfl) (by decide) (by decide) ⟨rfl, by first | rfl | (simp only [if_neg h1, if_pos h2, if_neg h3, if_pos h4, if_neg h5, if_neg h6, if_neg h7, if_neg h8, if_neg h9, if_neg h10, if_neg h11, if_neg h12, if_neg h13, if_neg h14, if_neg h15, if_pos h16])⟩
                              · refine A.iconst (q := 126) (v := (1 : Int32)) d2_125 rfl (by decide) ?_
                                exact A.retZ (v := (FR z0)) d2_126 (by simp only [FR, if_neg h1, if_pos h2, if_neg h3, if_pos h4, if_neg h5, if_neg h6, if_neg h7, if_neg h8, if_neg h9, if_neg h10, if_neg h11, if_neg h12, if_neg h13, if_neg h14, if_pos h15]; rfl) (by decide) (by decide) ⟨rfl, by first | rfl | (simp only [if_neg h1, if_pos h2, if_neg h3, if_pos h4, if_neg h5, if_neg h6, if_neg h7, if_neg h8, if_neg h9, if_neg h10, if_neg h11, if_neg h12, if_neg h13, if_neg h14, if_pos h15])⟩
                            · refine A.iconst (q := 117) (v := (0 : Int32)) d2_116 rfl (by decide) ?_
                              exact A.retZ (v := (FR z0)) d2_117 (by simp only [FR, if_neg h1, if_pos h2, if_neg h3, if_pos h4, if_neg h5, if_neg h6, if_neg h7, if_neg h8, if_neg h9, if_neg h10, if_neg h11, if_neg h12, if_neg h13, if_pos h14]; rfl) (by decide) (by decide) ⟨rfl, by first | rfl | (simp only [if_neg h1, if_pos h2, if_neg h3, if_pos h4, if_neg h5, if_neg h6, if_neg h7, if_neg h8, if_neg h9, if_neg h10, if_neg h11, if_neg h12, if_neg h13, if_pos h14])⟩
                          · refine A.iconst (q := 108) (v := (1 : Int32)) d2_107 rfl (by decide) ?_
                            exact A.retZ (v := (FR z0)) d2_108 (by simp only [FR, if_neg h1, if_pos h2, if_neg h3, if_pos h4, if_neg h5, if_neg h6, if_neg h7, if_neg h8, if_neg h9, if_neg h10, if_neg h11, if_neg h12, if_pos h13]; rfl) (by decide) (by decide) ⟨rfl, by first | rfl | (simp only [if_neg h1, if_pos h2, if_neg h3, if_pos h4, if_neg h5, if_neg h6, if_neg h7, if_neg h8, if_neg h9, if_neg h10, if_neg h11, if_neg h12, if_pos h13])⟩
                      · refine A.iconst (q := 92) (v := (1 : Int32)) d2_91 rfl (by decide) ?_
                        exact A.retZ (v := (FR z0)) d2_92 (by simp only [FR, if_neg h1, if_pos h2, if_neg h3, if_pos h4, if_neg h5, if_neg h6, if_neg h7, if_neg h8, if_neg h9, if_neg h10, if_pos h11]; rfl) (by decide) (by decide) ⟨rfl, by first | rfl | (simp only [if_neg h1, if_pos h2, if_neg h3, if_pos h4, if_neg h5, if_neg h6, if_neg h7, if_neg h8, if_neg h9, if_neg h10, if_pos h11])⟩
                    · refine A.iconst (q := 83) (v := (0 : Int32)) d2_82 rfl (by decide) ?_
                      exact A.retZ (v := (FR z0)) d2_83 (by simp only [FR, if_neg h1, if_pos h2, if_neg h3, if_pos h4, if_neg h5, if_neg h6, if_neg h7, if_neg h8, if_neg h9, if_pos h10]; rfl) (by decide) (by decide) ⟨rfl, by first | rfl | (simp only [if_neg h1, if_pos h2, if_neg h3, if_pos h4, if_neg h5, if_neg h6, if_neg h7, if_neg h8, if_neg h9, if_pos h10])⟩
                  · refine A.iconst (q := 74) (v := (0 : Int32)) d2_73 rfl (by decide) ?_
                    exact A.retZ (v := (FR z0)) d2_74 (by simp only [FR, if_neg h1, if_pos h2, if_neg h3, if_pos h4, if_neg h5, if_neg h6, if_neg h7, if_neg h8, if_pos h9]; rfl) (by decide) (by decide) ⟨rfl, by first | rfl | (simp only [if_neg h1, if_pos h2, if_neg h3, if_pos h4, if_neg h5, if_neg h6, if_neg h7, if_neg h8, if_pos h9])⟩
                · refine A.iconst (q := 65) (v := (1 : Int32)) d2_64 rfl (by decide) ?_
                  exact A.retZ (v := (FR z0)) d2_65 (by simp only [FR, if_neg h1, if_pos h2, if_neg h3, if_pos h4, if_neg h5, if_neg h6, if_neg h7, if_pos h8]; rfl) (by decide) (by decide) ⟨rfl, by first | rfl | (simp only [if_neg h1, if_pos h2, if_neg h3, if_pos h4, if_neg h5, if_neg h6, if_neg h7, if_pos h8])⟩
              · refine A.iconst (q := 56) (v := (0 : Int32)) d2_55 rfl (by decide) ?_
                exact A.retZ (v := (FR z0)) d2_56 (by simp only [FR, if_neg h1, if_pos h2, if_neg h3, if_pos h4, if_neg h5, if_neg h6, if_pos h7]; rfl) (by decide) (by decide) ⟨rfl, by first | rfl | (simp only [if_neg h1, if_pos h2, if_neg h3, if_pos h4, if_neg h5, if_neg h6, if_pos h7])⟩
          · refine A.iconst (q := 40) (v := (0 : Int32)) d2_39 rfl (by decide) ?_
            exact A.retZ (v := (FR z0)) d2_40 (by simp only [FR, if_neg h1, if_pos h2, if_neg h3, if_pos h4, if_pos h5]; rfl) (by decide) (by decide) ⟨rfl, by first | rfl | (simp only [if_neg h1, if_pos h2, if_neg h3, if_pos h4, if_pos h5])⟩
        · refine A.iconst (q := 31) (v := (1 : Int32)) d2_30 rfl (by decide) ?_
          exact A.retZ (v := (FR z0)) d2_31 (by simp only [FR, if_neg h1, if_pos h2, if_neg h3, if_neg h4]; rfl) (by decide) (by decide) ⟨rfl, by first | rfl | (simp only [if_neg h1, if_pos h2, if_neg h3, if_neg h4])⟩
      · refine A.iconst (q := 23) (v := (0 : Int32)) d2_22 rfl (by decide) ?_
        exact A.retZ (v := (FR z0)) d2_23 (by simp only [FR, if_neg h1, if_pos h2, if_pos h3]; rfl) (by decide) (by decide) ⟨rfl, by first | rfl | (simp only [if_neg h1, if_pos h2, if_pos h3])⟩
    · refine A.iconst (q := 15) (v := (1 : Int32)) d2_14 rfl (by decide) ?_
      exact A.retZ (v := (FR z0)) d2_15 (by simp only [FR, if_neg h1, if_neg h2]; rfl) (by decide) (by decide) ⟨rfl, by first | rfl | (simp only [if_neg h1, if_neg h2])⟩
  · refine A.iconst (q := 7) (v := (0 : Int32)) d2_6 rfl (by decide) ?_
    exact A.retZ (v := (FR z0)) d2_7 (by simp only [FR, if_pos h1]; rfl) (by decide) (by decide) ⟨rfl, by first | rfl | (simp only [if_pos h1])⟩
def PR (z : Int) : Prop := (65 ≤ z ∧ z ≤ 90) ∨ (97 ≤ z ∧ z ≤ 122) ∨ (192 ≤ z ∧ z ≤ 214) ∨ (216 ≤ z ∧ z ≤ 246) ∨ (248 ≤ z ∧ z ≤ 767) ∨ (880 ≤ z ∧ z ≤ 893) ∨ (895 ≤ z ∧ z ≤ 8191) ∨ (8204 ≤ z ∧ z ≤ 8205) ∨ (8304 ≤ z ∧ z ≤ 8591) ∨ (11264 ≤ z ∧ z ≤ 12271) ∨ (12289 ≤ z ∧ z ≤ 55295) ∨ (63744 ≤ z ∧ z ≤ 64975) ∨ (65008 ≤ z ∧ z ≤ 65533) ∨ (65536 ≤ z ∧ z ≤ 983039)
instance (z : Int) : Decidable (PR z) := by unfold PR; infer_instance
theorem own_ref (z0 : Int32) : FR z0 = if PR z0.toInt then 1 else 0 := by
  unfold FR
  by_cases h0 : z0 < (65 : Int32)
  · rw [if_pos h0]
    simp only [Int32.lt_iff_toInt_lt, ← Int32.toInt_inj, Int32.reduceToInt] at h0
    rw [if_neg (by unfold PR; omega)]
  · rw [if_neg h0]
    by_cases h1 : (90 : Int32) < z0
    · rw [if_pos h1]
      by_cases h2 : z0 < (97 : Int32)
      · rw [if_pos h2]
        simp only [Int32.lt_iff_toInt_lt, ← Int32.toInt_inj, Int32.reduceToInt] at h0 h1 h2
        rw [if_neg (by unfold PR; omega)]
      · rw [if_neg h2]
        by_cases h3 : (122 : Int32) < z0
        · rw [if_pos h3]
          by_cases h4 : z0 < (192 : Int32)
          · rw [if_pos h4]
            simp only [Int32.lt_iff_toInt_lt, ← Int32.toInt_inj, Int32.reduceToInt] at h0 h1 h2 h3 h4
            rw [if_neg (by unfold PR; omega)]
          · rw [if_neg h4]
            by_cases h5 : z0 = (215 : Int32)
            · rw [if_pos h5]
              simp only [Int32.lt_iff_toInt_lt, ← Int32.toInt_inj, Int32.reduceToInt] at h0 h1 h2 h3 h4 h5
              rw [if_neg (by unfold PR; omega)]
            · rw [if_neg h5]
              by_cases h6 : z0 = (247 : Int32)
              · rw [if_pos h6]
                simp only [Int32.lt_iff_toInt_lt, ← Int32.toInt_inj, Int32.reduceToInt] at h0 h1 h2 h3 h4 h5 h6
                rw [if_neg (by unfold PR; omega)]
              · rw [if_neg h6]
                by_cases h7 : z0 < (768 : Int32)
                · rw [if_pos h7]
                  simp only [Int32.lt_iff_toInt_lt, ← Int32.toInt_inj, Int32.reduceToInt] at h0 h1 h2 h3 h4 h5 h6 h7
                  rw [if_pos (by unfold PR; omega)]
                · rw [if_neg h7]
                  by_cases h8 : z0 < (880 : Int32)
                  · rw [if_pos h8]
                    simp only [Int32.lt_iff_toInt_lt, ← Int32.toInt_inj, Int32.reduceToInt] at h0 h1 h2 h3 h4 h5 h6 h7 h8
                    rw [if_neg (by unfold PR; omega)]
                  · rw [if_neg h8]
                    by_cases h9 : z0 = (894 : Int32)
                    · rw [if_pos h9]
                      simp only [Int32.lt_iff_toInt_lt, ← Int32.toInt_inj, Int32.reduceToInt] at h0 h1 h2 h3 h4 h5 h6 h7 h8 h9
                      rw [if_neg (by unfold PR; omega)]
                    · rw [if_neg h9]
                      by_cases h10 : z0 < (8192 : Int32)
                      · rw [if_pos h10]
                        simp only [Int32.lt_iff_toInt_lt, ← Int32.toInt_inj, Int32.reduceToInt] at h0 h1 h2 h3 h4 h5 h6 h7 h8 h9 h10
                        rw [if_pos (by unfold PR; omega)]
                      · rw [if_neg h10]
                        by_cases h11 : z0 = (8204 : Int32)
                        · rw [if_pos h11]
                          simp only [Int32.lt_iff_toInt_lt, ← Int32.toInt_inj, Int32.reduceToInt] at h0 h1 h2 h3 h4 h5 h6 h7 h8 h9 h10 h11
                          rw [if_pos (by unfold PR; omega)]
                        · rw [if_neg h11]
                          by_cases h12 : z0 = (8205 : Int32)
                          · rw [if_pos h12]
                            simp only [Int32.lt_iff_toInt_lt, ← Int32.toInt_inj, Int32.reduceToInt] at h0 h1 h2 h3 h4 h5 h6 h7 h8 h9 h10 h11 h12
                            rw [if_pos (by unfold PR; omega)]
                          · rw [if_neg h12]
                            by_cases h13 : z0 < (8304 : Int32)
                            · rw [if_pos h13]
                              simp only [Int32.lt_iff_toInt_lt, ← Int32.toInt_inj, Int32.reduceToInt] at h0 h1 h2 h3 h4 h5 h6 h7 h8 h9 h10 h11 h12 h13
                              rw [if_neg (by unfold PR; omega)]
                            · rw [if_neg h13]
                              by_cases h14 : z0 < (8592 : Int32)
                              · rw [if_pos h14]
                                simp only [Int32.lt_iff_toInt_lt, ← Int32.toInt_inj, Int32.reduceToInt] at h0 h1 h2 h3 h4 h5 h6 h7 h8 h9 h10 h11 h12 h13 h14
                                rw [if_pos (by unfold PR; omega)]
                              · rw [if_neg h14]
                                by_cases h15 : z0 < (11264 : Int32)
                                · rw [if_pos h15]
                                  simp only [Int32.lt_iff_toInt_lt, ← Int32.toInt_inj, Int32.reduceToInt] at h0 h1 h2 h3 h4 h5 h6 h7 h8 h9 h10 h11 h12 h13 h14 h15
                                  rw [if_neg (by unfold PR; omega)]
                                · rw [if_neg h15]
                                  by_cases h16 : z0 < (12272 : Int32)
                                  · rw [if_pos h16]
                                    simp only [Int32.lt_iff_toInt_lt, ← Int32.toInt_inj, Int32.reduceToInt] at h0 h1 h2 h3 h4 h5 h6 h7 h8 h9 h10 h11 h12 h13 h14 h15 h16
                                    rw [if_pos (by unfold PR; omega)]
                                  · rw [if_neg h16]
                                    by_cases h17 : (12288 : Int32) < z0
                                    · rw [if_pos h17]
                                      by_cases h18 : z0 < (55296 : Int32)
                                      · rw [if_pos h18]
                                        simp only [Int32.lt_iff_toInt_lt, ← Int32.toInt_inj, Int32.reduceToInt] at h0 h1 h2 h3 h4 h5 h6 h7 h8 h9 h10 h11 h12 h13 h14 h15 h16 h17 h18
                                        rw [if_pos (by unfold PR; omega)]
                                      · rw [if_neg h18]
                                        by_cases h19 : z0 < (63744 : Int32)
                                        · rw [if_pos h19]
                                          simp only [Int32.lt_iff_toInt_lt, ← Int32.toInt_inj, Int32.reduceToInt] at h0 h1 h2 h3 h4 h5 h6 h7 h8 h9 h10 h11 h12 h13 h14 h15 h16 h17 h18 h19
                                          rw [if_neg (by unfold PR; omega)]
                                        · rw [if_neg h19]
                                          by_cases h20 : z0 < (64976 : Int32)
                                          · rw [if_pos h20]
                                            simp only [Int32.lt_iff_toInt_lt, ← Int32.toInt_inj, Int32.reduceToInt] at h0 h1 h2 h3 h4 h5 h6 h7 h8 h9 h10 h11 h12 h13 h14 h15 h16 h17 h18 h19 h20
                                            rw [if_pos (by unfold PR; omega)]
                                          · rw [if_neg h20]
                                            by_cases h21 : z0 < (65008 : Int32)
                                            · rw [if_pos h21]
                                              simp only [Int32.lt_iff_toInt_lt, ← Int32.toInt_inj, Int32.reduceToInt] at h0 h1 h2 h3 h4 h5 h6 h7 h8 h9 h10 h11 h12 h13 h14 h15 h16 h17 h18 h19 h20 h21
                                              rw [if_neg (by unfold PR; omega)]
                                            · rw [if_neg h21]
                                              by_cases h22 : z0 < (65534 : Int32)
                                              · rw [if_pos h22]
                                                simp only [Int32.lt_iff_toInt_lt, ← Int32.toInt_inj, Int32.reduceToInt] at h0 h1 h2 h3 h4 h5 h6 h7 h8 h9 h10 h11 h12 h13 h14 h15 h16 h17 h18 h19 h20 h21 h22
                                                rw [if_pos (by unfold PR; omega)]
                                              · rw [if_neg h22]
                                                by_cases h23 : z0 < (65536 : Int32)
                                                · rw [if_pos h23]
                                                  simp only [Int32.lt_iff_toInt_lt, ← Int32.toInt_inj, Int32.reduceToInt] at h0 h1 h2 h3 h4 h5 h6 h7 h8 h9 h10 h11 h12 h13 h14 h15 h16 h17 h18 h19 h20 h21 h22 h23
                                                  rw [if_neg (by unfold PR; omega)]
                                                · rw [if_neg h23]
                                                  by_cases h24 : z0 < (983040 : Int32)
                                                  · rw [if_pos h24]
                                                    simp only [Int32.lt_iff_toInt_lt, ← Int32.toInt_inj, Int32.reduceToInt] at h0 h1 h2 h3 h4 h5 h6 h7 h8 h9 h10 h11 h12 h13 h14 h15 h16 h17 h18 h19 h20 h21 h22 h23 h24
                                                    rw [if_pos (by unfold PR; omega)]
                                                  · rw [if_neg h24]
                                                    simp only [Int32.lt_iff_toInt_lt, ← Int32.toInt_inj, Int32.reduceToInt] at h0 h1 h2 h3 h4 h5 h6 h7 h8 h9 h10 h11 h12 h13 h14 h15 h16 h17 h18 h19 h20 h21 h22 h23 h24
                                                    rw [if_neg (by unfold PR; omega)]
                                    · rw [if_neg h17]
                                      simp only [Int32.lt_iff_toInt_lt, ← Int32.toInt_inj, Int32.reduceToInt] at h0 h1 h2 h3 h4 h5 h6 h7 h8 h9 h10 h11 h12 h13 h14 h15 h16 h17
                                      rw [if_neg (by unfold PR; omega)]
        · rw [if_neg h3]
          simp only [Int32.lt_iff_toInt_lt, ← Int32.toInt_inj, Int32.reduceToInt] at h0 h1 h2 h3
          rw [if_pos (by unfold PR; omega)]
    · rw [if_neg h1]
      simp only [Int32.lt_iff_toInt_lt, ← Int32.toInt_inj, Int32.reduceToInt] at h0 h1
      rw [if_pos (by unfold PR; omega)]
theorem own_at : ∀ (ns : List Int32) (i : Nat), i < ns.length → ∃ x, (ns.map Value.int)[i]? = some (.int x)
  | [], i, h => absurd h (Nat.not_lt_zero i)
  | a :: t, 0, _ => ⟨a, rfl⟩
  | a :: t, i + 1, h => by simpa using own_at t i (by simpa using h)
theorem own_ix (q v1 v2 : Int32) (e1 : q &&& (2147483647 : Int32) = v1) (e2 : v1 % (28 : Int32) = v2) : 0 ≤ v2.toInt ∧ v2.toInt < 28 := by
  have h1 := c_mask q 2147483647 31 (by decide) (by decide)
  have h2 := c_irem v1 28 28 (by decide)
  rw [e1] at h1; rw [e2] at h2
  omega
theorem d1_0 : decode prog_113_method_28_code 0 = .ok (.iload_n 0, 1) := by decide +kernel
theorem d1_1 : decode prog_113_method_28_code 1 = .ok (.bipush 65, 2) := by decide +kernel
theorem d1_3 : decode prog_113_method_28_code 3 = .ok (.if_icmp .lt 9, 3) := by decide +kernel
theorem d1_6 : decode prog_113_method_28_code 6 = .ok (.iload_n 0, 1) := by decide +kernel
theorem d1_7 : decode prog_113_method_28_code 7 = .ok (.bipush 90, 2) := by decide +kernel
theorem d1_9 : decode prog_113_method_28_code 9 = .ok (.if_icmp .le 182, 3) := by decide +kernel
theorem d1_12 : decode prog_113_method_28_code 12 = .ok (.iload_n 0, 1) := by decide +kernel
theorem d1_13 : decode prog_113_method_28_code 13 = .ok (.bipush 97, 2) := by decide +kernel
theorem d1_15 : decode prog_113_method_28_code 15 = .ok (.if_icmp .lt 9, 3) := by decide +kernel
theorem d1_18 : decode prog_113_method_28_code 18 = .ok (.iload_n 0, 1) := by decide +kernel
theorem d1_19 : decode prog_113_method_28_code 19 = .ok (.bipush 122, 2) := by decide +kernel
theorem d1_21 : decode prog_113_method_28_code 21 = .ok (.if_icmp .le 170, 3) := by decide +kernel
theorem d1_24 : decode prog_113_method_28_code 24 = .ok (.iload_n 0, 1) := by decide +kernel
theorem d1_25 : decode prog_113_method_28_code 25 = .ok (.sipush 192, 3) := by decide +kernel
theorem d1_28 : decode prog_113_method_28_code 28 = .ok (.if_icmp .lt 10, 3) := by decide +kernel
theorem d1_31 : decode prog_113_method_28_code 31 = .ok (.iload_n 0, 1) := by decide +kernel
theorem d1_32 : decode prog_113_method_28_code 32 = .ok (.sipush 214, 3) := by decide +kernel
theorem d1_35 : decode prog_113_method_28_code 35 = .ok (.if_icmp .le 156, 3) := by decide +kernel
theorem d1_38 : decode prog_113_method_28_code 38 = .ok (.iload_n 0, 1) := by decide +kernel
theorem d1_39 : decode prog_113_method_28_code 39 = .ok (.sipush 216, 3) := by decide +kernel
theorem d1_42 : decode prog_113_method_28_code 42 = .ok (.if_icmp .lt 10, 3) := by decide +kernel
theorem d1_45 : decode prog_113_method_28_code 45 = .ok (.iload_n 0, 1) := by decide +kernel
theorem d1_46 : decode prog_113_method_28_code 46 = .ok (.sipush 246, 3) := by decide +kernel
theorem d1_49 : decode prog_113_method_28_code 49 = .ok (.if_icmp .le 142, 3) := by decide +kernel
theorem d1_52 : decode prog_113_method_28_code 52 = .ok (.iload_n 0, 1) := by decide +kernel
theorem d1_53 : decode prog_113_method_28_code 53 = .ok (.sipush 248, 3) := by decide +kernel
theorem d1_56 : decode prog_113_method_28_code 56 = .ok (.if_icmp .lt 10, 3) := by decide +kernel
theorem d1_59 : decode prog_113_method_28_code 59 = .ok (.iload_n 0, 1) := by decide +kernel
theorem d1_60 : decode prog_113_method_28_code 60 = .ok (.sipush 767, 3) := by decide +kernel
theorem d1_63 : decode prog_113_method_28_code 63 = .ok (.if_icmp .le 128, 3) := by decide +kernel
theorem d1_66 : decode prog_113_method_28_code 66 = .ok (.iload_n 0, 1) := by decide +kernel
theorem d1_67 : decode prog_113_method_28_code 67 = .ok (.sipush 880, 3) := by decide +kernel
theorem d1_70 : decode prog_113_method_28_code 70 = .ok (.if_icmp .lt 10, 3) := by decide +kernel
theorem d1_73 : decode prog_113_method_28_code 73 = .ok (.iload_n 0, 1) := by decide +kernel
theorem d1_74 : decode prog_113_method_28_code 74 = .ok (.sipush 893, 3) := by decide +kernel
theorem d1_77 : decode prog_113_method_28_code 77 = .ok (.if_icmp .le 114, 3) := by decide +kernel
theorem d1_80 : decode prog_113_method_28_code 80 = .ok (.iload_n 0, 1) := by decide +kernel
theorem d1_81 : decode prog_113_method_28_code 81 = .ok (.sipush 895, 3) := by decide +kernel
theorem d1_84 : decode prog_113_method_28_code 84 = .ok (.if_icmp .lt 10, 3) := by decide +kernel
theorem d1_87 : decode prog_113_method_28_code 87 = .ok (.iload_n 0, 1) := by decide +kernel
theorem d1_88 : decode prog_113_method_28_code 88 = .ok (.sipush 8191, 3) := by decide +kernel
theorem d1_91 : decode prog_113_method_28_code 91 = .ok (.if_icmp .le 100, 3) := by decide +kernel
theorem d1_94 : decode prog_113_method_28_code 94 = .ok (.iload_n 0, 1) := by decide +kernel
theorem d1_95 : decode prog_113_method_28_code 95 = .ok (.sipush 8204, 3) := by decide +kernel
theorem d1_98 : decode prog_113_method_28_code 98 = .ok (.if_icmp .lt 10, 3) := by decide +kernel
theorem d1_101 : decode prog_113_method_28_code 101 = .ok (.iload_n 0, 1) := by decide +kernel
theorem d1_102 : decode prog_113_method_28_code 102 = .ok (.sipush 8205, 3) := by decide +kernel
theorem d1_105 : decode prog_113_method_28_code 105 = .ok (.if_icmp .le 86, 3) := by decide +kernel
theorem d1_108 : decode prog_113_method_28_code 108 = .ok (.iload_n 0, 1) := by decide +kernel
theorem d1_109 : decode prog_113_method_28_code 109 = .ok (.sipush 8304, 3) := by decide +kernel
theorem d1_112 : decode prog_113_method_28_code 112 = .ok (.if_icmp .lt 10, 3) := by decide +kernel
theorem d1_115 : decode prog_113_method_28_code 115 = .ok (.iload_n 0, 1) := by decide +kernel
theorem d1_116 : decode prog_113_method_28_code 116 = .ok (.sipush 8591, 3) := by decide +kernel
theorem d1_119 : decode prog_113_method_28_code 119 = .ok (.if_icmp .le 72, 3) := by decide +kernel
theorem d1_122 : decode prog_113_method_28_code 122 = .ok (.iload_n 0, 1) := by decide +kernel
theorem d1_123 : decode prog_113_method_28_code 123 = .ok (.sipush 11264, 3) := by decide +kernel
theorem d1_126 : decode prog_113_method_28_code 126 = .ok (.if_icmp .lt 10, 3) := by decide +kernel
theorem d1_129 : decode prog_113_method_28_code 129 = .ok (.iload_n 0, 1) := by decide +kernel
theorem d1_130 : decode prog_113_method_28_code 130 = .ok (.sipush 12271, 3) := by decide +kernel
theorem d1_133 : decode prog_113_method_28_code 133 = .ok (.if_icmp .le 58, 3) := by decide +kernel
theorem d1_136 : decode prog_113_method_28_code 136 = .ok (.iload_n 0, 1) := by decide +kernel
theorem d1_137 : decode prog_113_method_28_code 137 = .ok (.sipush 12289, 3) := by decide +kernel
theorem d1_140 : decode prog_113_method_28_code 140 = .ok (.if_icmp .lt 10, 3) := by decide +kernel
theorem d1_143 : decode prog_113_method_28_code 143 = .ok (.iload_n 0, 1) := by decide +kernel
theorem d1_144 : decode prog_113_method_28_code 144 = .ok (.ldc_w 288, 3) := by decide +kernel
theorem d1_147 : decode prog_113_method_28_code 147 = .ok (.if_icmp .le 44, 3) := by decide +kernel
theorem d1_150 : decode prog_113_method_28_code 150 = .ok (.iload_n 0, 1) := by decide +kernel
theorem d1_151 : decode prog_113_method_28_code 151 = .ok (.ldc_w 289, 3) := by decide +kernel
theorem d1_154 : decode prog_113_method_28_code 154 = .ok (.if_icmp .lt 10, 3) := by decide +kernel
theorem d1_157 : decode prog_113_method_28_code 157 = .ok (.iload_n 0, 1) := by decide +kernel
theorem d1_158 : decode prog_113_method_28_code 158 = .ok (.ldc_w 290, 3) := by decide +kernel
theorem d1_161 : decode prog_113_method_28_code 161 = .ok (.if_icmp .le 30, 3) := by decide +kernel
theorem d1_164 : decode prog_113_method_28_code 164 = .ok (.iload_n 0, 1) := by decide +kernel
theorem d1_165 : decode prog_113_method_28_code 165 = .ok (.ldc_w 291, 3) := by decide +kernel
theorem d1_168 : decode prog_113_method_28_code 168 = .ok (.if_icmp .lt 9, 3) := by decide +kernel
theorem d1_171 : decode prog_113_method_28_code 171 = .ok (.iload_n 0, 1) := by decide +kernel
theorem d1_172 : decode prog_113_method_28_code 172 = .ok (.ldc 37, 2) := by decide +kernel
theorem d1_174 : decode prog_113_method_28_code 174 = .ok (.if_icmp .le 17, 3) := by decide +kernel
theorem d1_177 : decode prog_113_method_28_code 177 = .ok (.iload_n 0, 1) := by decide +kernel
theorem d1_178 : decode prog_113_method_28_code 178 = .ok (.ldc_w 292, 3) := by decide +kernel
theorem d1_181 : decode prog_113_method_28_code 181 = .ok (.if_icmp .lt 14, 3) := by decide +kernel
theorem d1_184 : decode prog_113_method_28_code 184 = .ok (.iload_n 0, 1) := by decide +kernel
theorem d1_185 : decode prog_113_method_28_code 185 = .ok (.ldc_w 293, 3) := by decide +kernel
theorem d1_188 : decode prog_113_method_28_code 188 = .ok (.if_icmp .gt 7, 3) := by decide +kernel
theorem d1_191 : decode prog_113_method_28_code 191 = .ok (.iconst 1, 1) := by decide +kernel
theorem d1_192 : decode prog_113_method_28_code 192 = .ok (.goto 4, 3) := by decide +kernel
theorem d1_195 : decode prog_113_method_28_code 195 = .ok (.iconst 0, 1) := by decide +kernel
theorem d1_196 : decode prog_113_method_28_code 196 = .ok (.ireturn, 1) := by decide +kernel
theorem pn_1 : plainFor (⟨"com/example/triplemill/triplemill/rdf/SourceText", "isPnCharsBase", "(I)Z"⟩ : MethodName) = true := plainFor_of_name (by first | (simp [plainName, overriddenIn]; done) | decide +kernel)
set_option maxRecDepth 65536 in
set_option maxHeartbeats 40000000 in
theorem rmP (l : Launch) (Z : State) (a0 : Array Value) (hw : ∀ d ∈ tables_1, d.before a0 Z = true) (n0 : Nat) (z0 : Int32) (RR : Obs) :
    Triple l Z n0 (⟨"com/example/triplemill/triplemill/rdf/SourceText", "isPnCharsBase", "(I)Z"⟩ : MethodName) prog_113_method_28_code 1 (some .boolean) ({ frames := 0, cells := 0, slots := 0, locals := 0 } : Room) 0 0 [(.int z0)] (RR) (fun v L' => v = some (.int (FR z0)) ∧ L' = RR) := by
  refine Triple.of_body (tbl := tables_1) (a0 := a0) (Ls := #[.val (.int z0)]) pn_1 hw (fun m => by first | rfl | (simp [entryFrame, mkF, argsToLocals, Value.category]; done)) ?_
  intro p e s m below meth c T A
  have J0_2 : ∀ (T : State), ((z0 < (65 : Int32)) ∨ (¬ (z0 < (65 : Int32)) ∧ (90 : Int32) < z0)) → Here p l e ({ frames := 0, cells := 0, slots := 0, locals := 0 } : Room) s m ([(.int z0)] : List Value).toArray below meth c Z a0 tables_1 (⟨"com/example/triplemill/triplemill/rdf/SourceText", "isPnCharsBase", "(I)Z"⟩ : MethodName).cls (⟨"com/example/triplemill/triplemill/rdf/SourceText", "isPnCharsBase", "(I)Z"⟩ : MethodName).name prog_113_method_28_code 1 (some .boolean) n0 T (RR) 0 0 → Go p e below (EndS below s n0 Z 0 0 (fun v L' => v = some (.int (FR z0)) ∧ L' = RR)) (T.setTop (mkF m 12 #[.val (.int z0)] [])) := by
   intro T fd3 A
   have J12_5 : ∀ (T : State), ((z0 < (97 : Int32)) ∨ (¬ (z0 < (97 : Int32)) ∧ (122 : Int32) < z0)) → Here p l e ({ frames := 0, cells := 0, slots := 0, locals := 0 } : Room) s m ([(.int z0)] : List Value).toArray below meth c Z a0 tables_1 (⟨"com/example/triplemill/triplemill/rdf/SourceText", "isPnCharsBase", "(I)Z"⟩ : MethodName).cls (⟨"com/example/triplemill/triplemill/rdf/SourceText", "isPnCharsBase", "(I)Z"⟩ : MethodName).name prog_113_method_28_code 1 (some .boolean) n0 T (RR) 0 0 → Go p e below (EndS below s n0 Z 0 0 (fun v L' => v = some (.int (FR z0)) ∧ L' = RR)) (T.setTop (mkF m 24 #[.val (.int z0)] [])) := by
    intro T fd6 A
    have J24_8 : ∀ (T : State), ((z0 < (192 : Int32)) ∨ (¬ (z0 < (192 : Int32)) ∧ (214 : Int32) < z0)) → Here p l e ({ frames := 0, cells := 0, slots := 0, locals := 0 } : Room) s m ([(.int z0)] : List Value).toArray below meth c Z a0 tables_1 (⟨"com/example/triplemill/triplemill/rdf/SourceText", "isPnCharsBase", "(I)Z"⟩ : MethodName).cls (⟨"com/example/triplemill/triplemill/rdf/SourceText", "isPnCharsBase", "(I)Z"⟩ : MethodName).name prog_113_method_28_code 1 (some .boolean) n0 T (RR) 0 0 → Go p e below (EndS below s n0 Z 0 0 (fun v L' => v = some (.int (FR z0)) ∧ L' = RR)) (T.setTop (mkF m 38 #[.val (.int z0)] [])) := by
     intro T fd9 A
     have J38_11 : ∀ (T : State), ((z0 < (216 : Int32)) ∨ (¬ (z0 < (216 : Int32)) ∧ (246 : Int32) < z0)) → Here p l e ({ frames := 0, cells := 0, slots := 0, locals := 0 } : Room) s m ([(.int z0)] : List Value).toArray below meth c Z a0 tables_1 (⟨"com/example/triplemill/triplemill/rdf/SourceText", "isPnCharsBase", "(I)Z"⟩ : MethodName).cls (⟨"com/example/triplemill/triplemill/rdf/SourceText", "isPnCharsBase", "(I)Z"⟩ : MethodName).name prog_113_method_28_code 1 (some .boolean) n0 T (RR) 0 0 → Go p e below (EndS below s n0 Z 0 0 (fun v L' => v = some (.int (FR z0)) ∧ L' = RR)) (T.setTop (mkF m 52 #[.val (.int z0)] [])) := by
      intro T fd12 A
      have J52_14 : ∀ (T : State), ((z0 < (248 : Int32)) ∨ (¬ (z0 < (248 : Int32)) ∧ (767 : Int32) < z0)) → Here p l e ({ frames := 0, cells := 0, slots := 0, locals := 0 } : Room) s m ([(.int z0)] : List Value).toArray below meth c Z a0 tables_1 (⟨"com/example/triplemill/triplemill/rdf/SourceText", "isPnCharsBase", "(I)Z"⟩ : MethodName).cls (⟨"com/example/triplemill/triplemill/rdf/SourceText", "isPnCharsBase", "(I)Z"⟩ : MethodName).name prog_113_method_28_code 1 (some .boolean) n0 T (RR) 0 0 → Go p e below (EndS below s n0 Z 0 0 (fun v L' => v = some (.int (FR z0)) ∧ L' = RR)) (T.setTop (mkF m 66 #[.val (.int z0)] [])) := by
       intro T fd15 A
       have J66_17 : ∀ (T : State), ((z0 < (880 : Int32)) ∨ (¬ (z0 < (880 : Int32)) ∧ (893 : Int32) < z0)) → Here p l e ({ frames := 0, cells := 0, slots := 0, locals := 0 } : Room) s m ([(.int z0)] : List Value).toArray below meth c Z a0 tables_1 (⟨"com/example/triplemill/triplemill/rdf/SourceText", "isPnCharsBase", "(I)Z"⟩ : MethodName).cls (⟨"com/example/triplemill/triplemill/rdf/SourceText", "isPnCharsBase", "(I)Z"⟩ : MethodName).name prog_113_method_28_code 1 (some .boolean) n0 T (RR) 0 0 → Go p e below (EndS below s n0 Z 0 0 (fun v L' => v = some (.int (FR z0)) ∧ L' = RR)) (T.setTop (mkF m 80 #[.val (.int z0)] [])) := by
        intro T fd18 A
        have J80_20 : ∀ (T : State), ((z0 < (895 : Int32)) ∨ (¬ (z0 < (895 : Int32)) ∧ (8191 : Int32) < z0)) → Here p l e ({ frames := 0, cells := 0, slots := 0, locals := 0 } : Room) s m ([(.int z0)] : List Value).toArray below meth c Z a0 tables_1 (⟨"com/example/triplemill/triplemill/rdf/SourceText", "isPnCharsBase", "(I)Z"⟩ : MethodName).cls (⟨"com/example/triplemill/triplemill/rdf/SourceText", "isPnCharsBase", "(I)Z"⟩ : MethodName).name prog_113_method_28_code 1 (some .boolean) n0 T (RR) 0 0 → Go p e below (EndS below s n0 Z 0 0 (fun v L' => v = some (.int (FR z0)) ∧ L' = RR)) (T.setTop (mkF m 94 #[.val (.int z0)] [])) := by
         intro T fd21 A
         have J94_23 : ∀ (T : State), ((z0 < (8204 : Int32)) ∨ (¬ (z0 < (8204 : Int32)) ∧ (8205 : Int32) < z0)) → Here p l e ({ frames := 0, cells := 0, slots := 0, locals := 0 } : Room) s m ([(.int z0)] : List Value).toArray below meth c Z a0 tables_1 (⟨"com/example/triplemill/triplemill/rdf/SourceText", "isPnCharsBase", "(I)Z"⟩ : MethodName).cls (⟨"com/example/triplemill/triplemill/rdf/SourceText", "isPnCharsBase", "(I)Z"⟩ : MethodName).name prog_113_method_28_code 1 (some .boolean) n0 T (RR) 0 0 → Go p e below (EndS below s n0 Z 0 0 (fun v L' => v = some (.int (FR z0)) ∧ L' = RR)) (T.setTop (mkF m 108 #[.val (.int z0)] [])) := by
          intro T fd24 A
          have J108_26 : ∀ (T : State), ((z0 < (8304 : Int32)) ∨ (¬ (z0 < (8304 : Int32)) ∧ (8591 : Int32) < z0)) → Here p l e ({ frames := 0, cells := 0, slots := 0, locals := 0 } : Room) s m ([(.int z0)] : List Value).toArray below meth c Z a0 tables_1 (⟨"com/example/triplemill/triplemill/rdf/SourceText", "isPnCharsBase", "(I)Z"⟩ : MethodName).cls (⟨"com/example/triplemill/triplemill/rdf/SourceText", "isPnCharsBase", "(I)Z"⟩ : MethodName).name prog_113_method_28_code 1 (some .boolean) n0 T (RR) 0 0 → Go p e below (EndS below s n0 Z 0 0 (fun v L' => v = some (.int (FR z0)) ∧ L' = RR)) (T.setTop (mkF m 122 #[.val (.int z0)] [])) := by
           intro T fd27 A
           have J122_29 : ∀ (T : State), ((z0 < (11264 : Int32)) ∨ (¬ (z0 < (11264 : Int32)) ∧ (12271 : Int32) < z0)) → Here p l e ({ frames := 0, cells := 0, slots := 0, locals := 0 } : Room) s m ([(.int z0)] : List Value).toArray below meth c Z a0 tables_1 (⟨"com/example/triplemill/triplemill/rdf/SourceText", "isPnCharsBase", "(I)Z"⟩ : MethodName).cls (⟨"com/example/triplemill/triplemill/rdf/SourceText", "isPnCharsBase", "(I)Z"⟩ : MethodName).name prog_113_method_28_code 1 (some .boolean) n0 T (RR) 0 0 → Go p e below (EndS below s n0 Z 0 0 (fun v L' => v = some (.int (FR z0)) ∧ L' = RR)) (T.setTop (mkF m 136 #[.val (.int z0)] [])) := by
            intro T fd30 A
            have J136_32 : ∀ (T : State), ((z0 < (12289 : Int32)) ∨ (¬ (z0 < (12289 : Int32)) ∧ (55295 : Int32) < z0)) → Here p l e ({ frames := 0, cells := 0, slots := 0, locals := 0 } : Room) s m ([(.int z0)] : List Value).toArray below meth c Z a0 tables_1 (⟨"com/example/triplemill/triplemill/rdf/SourceText", "isPnCharsBase", "(I)Z"⟩ : MethodName).cls (⟨"com/example/triplemill/triplemill/rdf/SourceText", "isPnCharsBase", "(I)Z"⟩ : MethodName).name prog_113_method_28_code 1 (some .boolean) n0 T (RR) 0 0 → Go p e below (EndS below s n0 Z 0 0 (fun v L' => v = some (.int (FR z0)) ∧ L' = RR)) (T.setTop (mkF m 150 #[.val (.int z0)] [])) := by
             intro T fd33 A
             have J150_35 : ∀ (T : State), ((z0 < (63744 : Int32)) ∨ (¬ (z0 < (63744 : Int32)) ∧ (64975 : Int32) < z0)) → Here p l e ({ frames := 0, cells := 0, slots := 0, locals := 0 } : Room) s m ([(.int z0)] : List Value).toArray below meth c Z a0 tables_1 (⟨"com/example/triplemill/triplemill/rdf/SourceText", "isPnCharsBase", "(I)Z"⟩ : MethodName).cls (⟨"com/example/triplemill/triplemill/rdf/SourceText", "isPnCharsBase", "(I)Z"⟩ : MethodName).name prog_113_method_28_code 1 (some .boolean) n0 T (RR) 0 0 → Go p e below (EndS below s n0 Z 0 0 (fun v L' => v = some (.int (FR z0)) ∧ L' = RR)) (T.setTop (mkF m 164 #[.val (.int z0)] [])) := by
              intro T fd36 A
              have J164_38 : ∀ (T : State), ((z0 < (65008 : Int32)) ∨ (¬ (z0 < (65008 : Int32)) ∧ (65533 : Int32) < z0)) → Here p l e ({ frames := 0, cells := 0, slots := 0, locals := 0 } : Room) s m ([(.int z0)] : List Value).toArray below meth c Z a0 tables_1 (⟨"com/example/triplemill/triplemill/rdf/SourceText", "isPnCharsBase", "(I)Z"⟩ : MethodName).cls (⟨"com/example/triplemill/triplemill/rdf/SourceText", "isPnCharsBase", "(I)Z"⟩ : MethodName).name prog_113_method_28_code 1 (some .boolean) n0 T (RR) 0 0 → Go p e below (EndS below s n0 Z 0 0 (fun v L' => v = some (.int (FR z0)) ∧ L' = RR)) (T.setTop (mkF m 177 #[.val (.int z0)] [])) := by
               intro T fd39 A
               refine A.iloadN (q := 178) d1_177 rfl rfl ?_
               refine A.ldc_w (q := 181) (v := (65536 : Int32)) (w := 15) d1_178 rfl rfl ?_
               refine A.icmp_lt (q := 184) (r := 195) d1_181 rfl (by decide) (fun h40 => ?_) (fun h40 => ?_)
               · refine A.iconst (q := 196) (v := (0 : Int32)) d1_195 rfl (by decide) ?_
                 exact A.retZ (v := (FR z0)) d1_196 (by rw [own_ref]; simp only [Int32.lt_iff_toInt_lt, Int32.reduceToInt] at fd3 fd6 fd9 fd12 fd15 fd18 fd21 fd24 fd27 fd30 fd33 fd36 fd39 fd3 fd6 fd9 fd12 fd15 fd18 fd21 fd24 fd27 fd30 fd33 fd36 fd39 h40; rw [if_neg (by unfold PR; omega)]; rfl) (by decide) (by decide) ⟨rfl, rfl⟩
               · refine A.iloadN (q := 185) d1_184 rfl rfl ?_
                 refine A.ldc_w (q := 188) (v := (983039 : Int32)) (w := 26) d1_185 rfl rfl ?_
                 refine A.icmp_gt (q := 191) (r := 195) d1_188 rfl (by decide) (fun h41 => ?_) (fun h41 => ?_)
                 · refine A.iconst (q := 196) (v := (0 : Int32)) d1_195 rfl (by decide) ?_
                   exact A.retZ (v := (FR z0)) d1_196 (by rw [own_ref]; simp only [Int32.lt_iff_toInt_lt, Int32.reduceToInt] at fd3 fd6 fd9 fd12 fd15 fd18 fd21 fd24 fd27 fd30 fd33 fd36 fd39 fd3 fd6 fd9 fd12 fd15 fd18 fd21 fd24 fd27 fd30 fd33 fd36 fd39 h40 h41; rw [if_neg (by unfold PR; omega)]; rfl) (by decide) (by decide) ⟨rfl, rfl⟩
                 · refine A.iconst (q := 192) (v := (1 : Int32)) d1_191 rfl (by decide) ?_
                   refine A.goto (r := 196) d1_192 (by decide) ?_
                   exact A.retZ (v := (FR z0)) d1_196 (by rw [own_ref]; simp only [Int32.lt_iff_toInt_lt, Int32.reduceToInt] at h40 h41; rw [if_pos (by unfold PR; omega)]; rfl) (by decide) (by decide) ⟨rfl, rfl⟩
              refine A.iloadN (q := 165) d1_164 rfl rfl ?_
              refine A.ldc_w (q := 168) (v := (65008 : Int32)) (w := 14) d1_165 rfl rfl ?_
              refine A.icmp_lt (q := 171) (r := 177) d1_168 rfl (by decide) (fun h37 => ?_) (fun h37 => ?_)
              · exact J164_38 T (by exact (Or.inl h37)) A
              · refine A.iloadN (q := 172) d1_171 rfl rfl ?_
                refine A.ldc (q := 174) (v := (65533 : Int32)) (w := 22) d1_172 rfl rfl ?_
                refine A.icmp_le (q := 177) (r := 191) d1_174 rfl (by decide) (fun h38 => ?_) (fun h38 => ?_)
                · refine A.iconst (q := 192) (v := (1 : Int32)) d1_191 rfl (by decide) ?_
                  refine A.goto (r := 196) d1_192 (by decide) ?_
                  have hD13 : ¬ ((z0 < (65008 : Int32)) ∨ (¬ (z0 < (65008 : Int32)) ∧ (65533 : Int32) < z0)) := by simp [h37, h38]
                  exact A.retZ (v := (FR z0)) d1_196 (by rw [own_ref]; simp only [Int32.lt_iff_toInt_lt, Int32.reduceToInt] at h37 h38; rw [if_pos (by unfold PR; omega)]; rfl) (by decide) (by decide) ⟨rfl, rfl⟩
                · exact J164_38 T (by exact (Or.inr ⟨h37, h38⟩)) A
             refine A.iloadN (q := 151) d1_150 rfl rfl ?_
             refine A.ldc_w (q := 154) (v := (63744 : Int32)) (w := 13) d1_151 rfl rfl ?_
             refine A.icmp_lt (q := 157) (r := 164) d1_154 rfl (by decide) (fun h34 => ?_) (fun h34 => ?_)
             · exact J150_35 T (by exact (Or.inl h34)) A
             · refine A.iloadN (q := 158) d1_157 rfl rfl ?_
               refine A.ldc_w (q := 161) (v := (64975 : Int32)) (w := 21) d1_158 rfl rfl ?_
               refine A.icmp_le (q := 164) (r := 191) d1_161 rfl (by decide) (fun h35 => ?_) (fun h35 => ?_)
               · refine A.iconst (q := 192) (v := (1 : Int32)) d1_191 rfl (by decide) ?_
                 refine A.goto (r := 196) d1_192 (by decide) ?_
                 have hD12 : ¬ ((z0 < (63744 : Int32)) ∨ (¬ (z0 < (63744 : Int32)) ∧ (64975 : Int32) < z0)) := by simp [h34, h35]
                 exact A.retZ (v := (FR z0)) d1_196 (by rw [own_ref]; simp only [Int32.lt_iff_toInt_lt, Int32.reduceToInt] at h34 h35; rw [if_pos (by unfold PR; omega)]; rfl) (by decide) (by decide) ⟨rfl, rfl⟩
               · exact J150_35 T (by exact (Or.inr ⟨h34, h35⟩)) A
            refine A.iloadN (q := 137) d1_136 rfl rfl ?_
            refine A.sipush (q := 140) (v := (12289 : Int32)) d1_137 rfl (by decide) ?_
            refine A.icmp_lt (q := 143) (r := 150) d1_140 rfl (by decide) (fun h31 => ?_) (fun h31 => ?_)
            · exact J136_32 T (by exact (Or.inl h31)) A
            · refine A.iloadN (q := 144) d1_143 rfl rfl ?_
              refine A.ldc_w (q := 147) (v := (55295 : Int32)) (w := 20) d1_144 rfl rfl ?_
              refine A.icmp_le (q := 150) (r := 191) d1_147 rfl (by decide) (fun h32 => ?_) (fun h32 => ?_)
              · refine A.iconst (q := 192) (v := (1 : Int32)) d1_191 rfl (by decide) ?_
                refine A.goto (r := 196) d1_192 (by decide) ?_
                have hD11 : ¬ ((z0 < (12289 : Int32)) ∨ (¬ (z0 < (12289 : Int32)) ∧ (55295 : Int32) < z0)) := by simp [h31, h32]
                exact A.retZ (v := (FR z0)) d1_196 (by rw [own_ref]; simp only [Int32.lt_iff_toInt_lt, Int32.reduceToInt] at h31 h32; rw [if_pos (by unfold PR; omega)]; rfl) (by decide) (by decide) ⟨rfl, rfl⟩
              · exact J136_32 T (by exact (Or.inr ⟨h31, h32⟩)) A
           refine A.iloadN (q := 123) d1_122 rfl rfl ?_
           refine A.sipush (q := 126) (v := (11264 : Int32)) d1_123 rfl (by decide) ?_
           refine A.icmp_lt (q := 129) (r := 136) d1_126 rfl (by decide) (fun h28 => ?_) (fun h28 => ?_)
           · exact J122_29 T (by exact (Or.inl h28)) A
           · refine A.iloadN (q := 130) d1_129 rfl rfl ?_
             refine A.sipush (q := 133) (v := (12271 : Int32)) d1_130 rfl (by decide) ?_
             refine A.icmp_le (q := 136) (r := 191) d1_133 rfl (by decide) (fun h29 => ?_) (fun h29 => ?_)
             · refine A.iconst (q := 192) (v := (1 : Int32)) d1_191 rfl (by decide) ?_
               refine A.goto (r := 196) d1_192 (by decide) ?_
               have hD10 : ¬ ((z0 < (11264 : Int32)) ∨ (¬ (z0 < (11264 : Int32)) ∧ (12271 : Int32) < z0)) := by simp [h28, h29]
               exact A.retZ (v := (FR z0)) d1_196 (by rw [own_ref]; simp only [Int32.lt_iff_toInt_lt, Int32.reduceToInt] at h28 h29; rw [if_pos (by unfold PR; omega)]; rfl) (by decide) (by decide) ⟨rfl, rfl⟩
             · exact J122_29 T (by exact (Or.inr ⟨h28, h29⟩)) A
          refine A.iloadN (q := 109) d1_108 rfl rfl ?_
          refine A.sipush (q := 112) (v := (8304 : Int32)) d1_109 rfl (by decide) ?_
          refine A.icmp_lt (q := 115) (r := 122) d1_112 rfl (by decide) (fun h25 => ?_) (fun h25 => ?_)
          · exact J108_26 T (by exact (Or.inl h25)) A
          · refine A.iloadN (q := 116) d1_115 rfl rfl ?_
            refine A.sipush (q := 119) (v := (8591 : Int32)) d1_116 rfl (by decide) ?_
            refine A.icmp_le (q := 122) (r := 191) d1_119 rfl (by decide) (fun h26 => ?_) (fun h26 => ?_)
            · refine A.iconst (q := 192) (v := (1 : Int32)) d1_191 rfl (by decide) ?_
              refine A.goto (r := 196) d1_192 (by decide) ?_
              have hD9 : ¬ ((z0 < (8304 : Int32)) ∨ (¬ (z0 < (8304 : Int32)) ∧ (8591 : Int32) < z0)) := by simp [h25, h26]
              exact A.retZ (v := (FR z0)) d1_196 (by rw [own_ref]; simp only [Int32.lt_iff_toInt_lt, Int32.reduceToInt] at h25 h26; rw [if_pos (by unfold PR; omega)]; rfl) (by decide) (by decide) ⟨rfl, rfl⟩
            · exact J108_26 T (by exact (Or.inr ⟨h25, h26⟩)) A
         refine A.iloadN (q := 95) d1_94 rfl rfl ?_
         refine A.sipush (q := 98) (v := (8204 : Int32)) d1_95 rfl (by decide) ?_
         refine A.icmp_lt (q := 101) (r := 108) d1_98 rfl (by decide) (fun h22 => ?_) (fun h22 => ?_)
         · exact J94_23 T (by exact (Or.inl h22)) A
         · refine A.iloadN (q := 102) d1_101 rfl rfl ?_
           refine A.sipush (q := 105) (v := (8205 : Int32)) d1_102 rfl (by decide) ?_
           refine A.icmp_le (q := 108) (r := 191) d1_105 rfl (by decide) (fun h23 => ?_) (fun h23 => ?_)
           · refine A.iconst (q := 192) (v := (1 : Int32)) d1_191 rfl (by decide) ?_
             refine A.goto (r := 196) d1_192 (by decide) ?_
             have hD8 : ¬ ((z0 < (8204 : Int32)) ∨ (¬ (z0 < (8204 : Int32)) ∧ (8205 : Int32) < z0)) := by simp [h22, h23]
             exact A.retZ (v := (FR z0)) d1_196 (by rw [own_ref]; simp only [Int32.lt_iff_toInt_lt, Int32.reduceToInt] at h22 h23; rw [if_pos (by unfold PR; omega)]; rfl) (by decide) (by decide) ⟨rfl, rfl⟩
           · exact J94_23 T (by exact (Or.inr ⟨h22, h23⟩)) A
        refine A.iloadN (q := 81) d1_80 rfl rfl ?_
        refine A.sipush (q := 84) (v := (895 : Int32)) d1_81 rfl (by decide) ?_
        refine A.icmp_lt (q := 87) (r := 94) d1_84 rfl (by decide) (fun h19 => ?_) (fun h19 => ?_)
        · exact J80_20 T (by exact (Or.inl h19)) A
        · refine A.iloadN (q := 88) d1_87 rfl rfl ?_
          refine A.sipush (q := 91) (v := (8191 : Int32)) d1_88 rfl (by decide) ?_
          refine A.icmp_le (q := 94) (r := 191) d1_91 rfl (by decide) (fun h20 => ?_) (fun h20 => ?_)
          · refine A.iconst (q := 192) (v := (1 : Int32)) d1_191 rfl (by decide) ?_
            refine A.goto (r := 196) d1_192 (by decide) ?_
            have hD7 : ¬ ((z0 < (895 : Int32)) ∨ (¬ (z0 < (895 : Int32)) ∧ (8191 : Int32) < z0)) := by simp [h19, h20]
            exact A.retZ (v := (FR z0)) d1_196 (by rw [own_ref]; simp only [Int32.lt_iff_toInt_lt, Int32.reduceToInt] at h19 h20; rw [if_pos (by unfold PR; omega)]; rfl) (by decide) (by decide) ⟨rfl, rfl⟩
          · exact J80_20 T (by exact (Or.inr ⟨h19, h20⟩)) A
       refine A.iloadN (q := 67) d1_66 rfl rfl ?_
       refine A.sipush (q := 70) (v := (880 : Int32)) d1_67 rfl (by decide) ?_
       refine A.icmp_lt (q := 73) (r := 80) d1_70 rfl (by decide) (fun h16 => ?_) (fun h16 => ?_)
       · exact J66_17 T (by exact (Or.inl h16)) A
       · refine A.iloadN (q := 74) d1_73 rfl rfl ?_
         refine A.sipush (q := 77) (v := (893 : Int32)) d1_74 rfl (by decide) ?_
         refine A.icmp_le (q := 80) (r := 191) d1_77 rfl (by decide) (fun h17 => ?_) (fun h17 => ?_)
         · refine A.iconst (q := 192) (v := (1 : Int32)) d1_191 rfl (by decide) ?_
           refine A.goto (r := 196) d1_192 (by decide) ?_
           have hD6 : ¬ ((z0 < (880 : Int32)) ∨ (¬ (z0 < (880 : Int32)) ∧ (893 : Int32) < z0)) := by simp [h16, h17]
           exact A.retZ (v := (FR z0)) d1_196 (by rw [own_ref]; simp only [Int32.lt_iff_toInt_lt, Int32.reduceToInt] at h16 h17; rw [if_pos (by unfold PR; omega)]; rfl) (by decide) (by decide) ⟨rfl, rfl⟩
         · exact J66_17 T (by exact (Or.inr ⟨h16, h17⟩)) A
      refine A.iloadN (q := 53) d1_52 rfl rfl ?_
      refine A.sipush (q := 56) (v := (248 : Int32)) d1_53 rfl (by decide) ?_
      refine A.icmp_lt (q := 59) (r := 66) d1_56 rfl (by decide) (fun h13 => ?_) (fun h13 => ?_)
      · exact J52_14 T (by exact (Or.inl h13)) A
      · refine A.iloadN (q := 60) d1_59 rfl rfl ?_
        refine A.sipush (q := 63) (v := (767 : Int32)) d1_60 rfl (by decide) ?_
        refine A.icmp_le (q := 66) (r := 191) d1_63 rfl (by decide) (fun h14 => ?_) (fun h14 => ?_)
        · refine A.iconst (q := 192) (v := (1 : Int32)) d1_191 rfl (by decide) ?_
          refine A.goto (r := 196) d1_192 (by decide) ?_
          have hD5 : ¬ ((z0 < (248 : Int32)) ∨ (¬ (z0 < (248 : Int32)) ∧ (767 : Int32) < z0)) := by simp [h13, h14]
          exact A.retZ (v := (FR z0)) d1_196 (by rw [own_ref]; simp only [Int32.lt_iff_toInt_lt, Int32.reduceToInt] at h13 h14; rw [if_pos (by unfold PR; omega)]; rfl) (by decide) (by decide) ⟨rfl, rfl⟩
        · exact J52_14 T (by exact (Or.inr ⟨h13, h14⟩)) A
     refine A.iloadN (q := 39) d1_38 rfl rfl ?_
     refine A.sipush (q := 42) (v := (216 : Int32)) d1_39 rfl (by decide) ?_
     refine A.icmp_lt (q := 45) (r := 52) d1_42 rfl (by decide) (fun h10 => ?_) (fun h10 => ?_)
     · exact J38_11 T (by exact (Or.inl h10)) A
     · refine A.iloadN (q := 46) d1_45 rfl rfl ?_
       refine A.sipush (q := 49) (v := (246 : Int32)) d1_46 rfl (by decide) ?_
       refine A.icmp_le (q := 52) (r := 191) d1_49 rfl (by decide) (fun h11 => ?_) (fun h11 => ?_)
       · refine A.iconst (q := 192) (v := (1 : Int32)) d1_191 rfl (by decide) ?_
         refine A.goto (r := 196) d1_192 (by decide) ?_
         have hD4 : ¬ ((z0 < (216 : Int32)) ∨ (¬ (z0 < (216 : Int32)) ∧ (246 : Int32) < z0)) := by simp [h10, h11]
         exact A.retZ (v := (FR z0)) d1_196 (by rw [own_ref]; simp only [Int32.lt_iff_toInt_lt, Int32.reduceToInt] at h10 h11; rw [if_pos (by unfold PR; omega)]; rfl) (by decide) (by decide) ⟨rfl, rfl⟩
       · exact J38_11 T (by exact (Or.inr ⟨h10, h11⟩)) A
    refine A.iloadN (q := 25) d1_24 rfl rfl ?_
    refine A.sipush (q := 28) (v := (192 : Int32)) d1_25 rfl (by decide) ?_
    refine A.icmp_lt (q := 31) (r := 38) d1_28 rfl (by decide) (fun h7 => ?_) (fun h7 => ?_)
    · exact J24_8 T (by exact (Or.inl h7)) A
    · refine A.iloadN (q := 32) d1_31 rfl rfl ?_
      refine A.sipush (q := 35) (v := (214 : Int32)) d1_32 rfl (by decide) ?_
      refine A.icmp_le (q := 38) (r := 191) d1_35 rfl (by decide) (fun h8 => ?_) (fun h8 => ?_)
      · refine A.iconst (q := 192) (v := (1 : Int32)) d1_191 rfl (by decide) ?_
        refine A.goto (r := 196) d1_192 (by decide) ?_
        have hD3 : ¬ ((z0 < (192 : Int32)) ∨ (¬ (z0 < (192 : Int32)) ∧ (214 : Int32) < z0)) := by simp [h7, h8]
        exact A.retZ (v := (FR z0)) d1_196 (by rw [own_ref]; simp only [Int32.lt_iff_toInt_lt, Int32.reduceToInt] at h7 h8; rw [if_pos (by unfold PR; omega)]; rfl) (by decide) (by decide) ⟨rfl, rfl⟩
      · exact J24_8 T (by exact (Or.inr ⟨h7, h8⟩)) A
   refine A.iloadN (q := 13) d1_12 rfl rfl ?_
   refine A.bipush (q := 15) (v := (97 : Int32)) d1_13 rfl (by decide) ?_
   refine A.icmp_lt (q := 18) (r := 24) d1_15 rfl (by decide) (fun h4 => ?_) (fun h4 => ?_)
   · exact J12_5 T (by exact (Or.inl h4)) A
   · refine A.iloadN (q := 19) d1_18 rfl rfl ?_
     refine A.bipush (q := 21) (v := (122 : Int32)) d1_19 rfl (by decide) ?_
     refine A.icmp_le (q := 24) (r := 191) d1_21 rfl (by decide) (fun h5 => ?_) (fun h5 => ?_)
     · refine A.iconst (q := 192) (v := (1 : Int32)) d1_191 rfl (by decide) ?_
       refine A.goto (r := 196) d1_192 (by decide) ?_
       have hD2 : ¬ ((z0 < (97 : Int32)) ∨ (¬ (z0 < (97 : Int32)) ∧ (122 : Int32) < z0)) := by simp [h4, h5]
       exact A.retZ (v := (FR z0)) d1_196 (by rw [own_ref]; simp only [Int32.lt_iff_toInt_lt, Int32.reduceToInt] at h4 h5; rw [if_pos (by unfold PR; omega)]; rfl) (by decide) (by decide) ⟨rfl, rfl⟩
     · exact J12_5 T (by exact (Or.inr ⟨h4, h5⟩)) A
  refine A.iloadN (q := 1) d1_0 rfl rfl ?_
  refine A.bipush (q := 3) (v := (65 : Int32)) d1_1 rfl (by decide) ?_
  refine A.icmp_lt (q := 6) (r := 12) d1_3 rfl (by decide) (fun h1 => ?_) (fun h1 => ?_)
  · exact J0_2 T (by exact (Or.inl h1)) A
  · refine A.iloadN (q := 7) d1_6 rfl rfl ?_
    refine A.bipush (q := 9) (v := (90 : Int32)) d1_7 rfl (by decide) ?_
    refine A.icmp_le (q := 12) (r := 191) d1_9 rfl (by decide) (fun h2 => ?_) (fun h2 => ?_)
    · refine A.iconst (q := 192) (v := (1 : Int32)) d1_191 rfl (by decide) ?_
      refine A.goto (r := 196) d1_192 (by decide) ?_
      have hD1 : ¬ ((z0 < (65 : Int32)) ∨ (¬ (z0 < (65 : Int32)) ∧ (90 : Int32) < z0)) := by simp [h1, h2]
      exact A.retZ (v := (FR z0)) d1_196 (by rw [own_ref]; simp only [Int32.lt_iff_toInt_lt, Int32.reduceToInt] at h1 h2; rw [if_pos (by unfold PR; omega)]; rfl) (by decide) (by decide) ⟨rfl, rfl⟩
    · exact J0_2 T (by exact (Or.inr ⟨h1, h2⟩)) A
theorem pd_0 : parseMethodDescriptor "(I)Z" = some ⟨[.int], some .boolean⟩ := by decide +kernel
theorem pn_0 : plainFor (⟨"com/example/triplemill/triplemill/rdf/SourceTextIsPnCharsBasePinLaw", "law", "(II)Z"⟩ : MethodName) = true := plainFor_of_name (by first | (simp [plainName, overriddenIn]; done) | decide +kernel)
set_option maxRecDepth 65536 in
set_option maxHeartbeats 40000000 in
theorem rm0 (l : Launch) (Z : State) (a0 : Array Value) (hw : ∀ d ∈ tables_1, d.before a0 Z = true) (n0 : Nat) (ch pk : Int32) :
    Triple l Z n0 x code 8 (some .boolean) room_1 16 128 [(.int ch), (.int pk)] [] (fun v _ => v = some (.int 1)) := by
  refine Triple.of_body (tbl := tables_1) (a0 := a0) (Ls := #[.val (.int ch), .val (.int pk), .unset, .unset, .unset, .unset, .unset, .unset]) pn_0 hw (fun m => by first | rfl | (simp [entryFrame, mkF, argsToLocals, Value.category]; done)) ?_
  intro p e s m below meth c T A
  refine A.bipush (q := 2) (v := (28 : Int32)) at_0 rfl (by decide) ?_
  refine A.newA (q := 4) (w := 0) (cap := 28) (ty := .int) (vs := [(.int (0 : Int32)), (.int (0 : Int32)), (.int (0 : Int32)), (.int (0 : Int32)), (.int (0 : Int32)), (.int (0 : Int32)), (.int (0 : Int32)), (.int (0 : Int32)), (.int (0 : Int32)), (.int (0 : Int32)), (.int (0 : Int32)), (.int (0 : Int32)), (.int (0 : Int32)), (.int (0 : Int32)), (.int (0 : Int32)), (.int (0 : Int32)), (.int (0 : Int32)), (.int (0 : Int32)), (.int (0 : Int32)), (.int (0 : Int32)), (.int (0 : Int32)), (.int (0 : Int32)), (.int (0 : Int32)), (.int (0 : Int32)), (.int (0 : Int32)), (.int (0 : Int32)), (.int (0 : Int32)), (.int (0 : Int32))]) at_2 rfl rfl rfl (by decide) (by decide) (by decide) rfl (by decide) (by decide) ?_
  intro T b1 A
  refine A.dup (q := 5) at_4 rfl rfl ?_
  refine A.iconst (q := 6) (v := (0 : Int32)) at_5 rfl (by decide) ?_
  refine A.bipush (q := 8) (v := (65 : Int32)) at_6 rfl (by decide) ?_
  refine A.iastore (q := 9) (i := 0) (x' := (65 : Int32)) (L' := [(b1, .inr (.int, [(.int (65 : Int32)), (.int (0 : Int32)), (.int (0 : Int32)), (.int (0 : Int32)), (.int (0 : Int32)), (.int (0 : Int32)), (.int (0 : Int32)), (.int (0 : Int32)), (.int (0 : Int32)), (.int (0 : Int32)), (.int (0 : Int32)), (.int (0 : Int32)), (.int (0 : Int32)), (.int (0 : Int32)), (.int (0 : Int32)), (.int (0 : Int32)), (.int (0 : Int32)), (.int (0 : Int32)), (.int (0 : Int32)), (.int (0 : Int32)), (.int (0 : Int32)), (.int (0 : Int32)), (.int (0 : Int32)), (.int (0 : Int32)), (.int (0 : Int32)), (.int (0 : Int32)), (.int (0 : Int32)), (.int (0 : Int32))]))]) at_8 rfl rfl (by decide) (by show Int32.toNatClampNeg (0 : Int32) < 28; decide) rfl rfl ?_
  intro T A
  refine A.dup (q := 10) at_9 rfl rfl ?_
  refine A.iconst (q := 11) (v := (1 : Int32)) at_10 rfl (by decide) ?_
  refine A.bipush (q := 13) (v := (90 : Int32)) at_11 rfl (by decide) ?_
  refine A.iastore (q := 14) (i := 0) (x' := (90 : Int32)) (L' := [(b1, .inr (.int, [(.int (65 : Int32)), (.int (90 : Int32)), (.int (0 : Int32)), (.int (0 : Int32)), (.int (0 : Int32)), (.int (0 : Int32)), (.int (0 : Int32)), (.int (0 : Int32)), (.int (0 : Int32)), (.int (0 : Int32)), (.int (0 : Int32)), (.int (0 : Int32)), (.int (0 : Int32)), (.int (0 : Int32)), (.int (0 : Int32)), (.int (0 : Int32)), (.int (0 : Int32)), (.int (0 : Int32)), (.int (0 : Int32)), (.int (0 : Int32)), (.int (0 : Int32)), (.int (0 : Int32)), (.int (0 : Int32)), (.int (0 : Int32)), (.int (0 : Int32)), (.int (0 : Int32)), (.int (0 : Int32)), (.int (0 : Int32))]))]) at_13 rfl rfl (by decide) (by show Int32.toNatClampNeg (1 : Int32) < 28; decide) rfl rfl ?_
  intro T A
  refine A.dup (q := 15) at_14 rfl rfl ?_
  refine A.iconst (q := 16) (v := (2 : Int32)) at_15 rfl (by decide) ?_
  refine A.bipush (q := 18) (v := (97 : Int32)) at_16 rfl (by decide) ?_
  refine A.iastore (q := 19) (i := 0) (x' := (97 : Int32)) (L' := [(b1, .inr (.int, [(.int (65 : Int32)), (.int (90 : Int32)), (.int (97 : Int32)), (.int (0 : Int32)), (.int (0 : Int32)), (.int (0 : Int32)), (.int (0 : Int32)), (.int (0 : Int32)), (.int (0 : Int32)), (.int (0 : Int32)), (.int (0 : Int32)), (.int (0 : Int32)), (.int (0 : Int32)), (.int (0 : Int32)), (.int (0 : Int32)), (.int (0 : Int32)), (.int (0 : Int32)), (.int (0 : Int32)), (.int (0 : Int32)), (.int (0 : Int32)), (.int (0 : Int32)), (.int (0 : Int32)), (.int (0 : Int32)), (.int (0 : Int32)), (.int (0 : Int32)), (.int (0 : Int32)), (.int (0 : Int32)), (.int (0 : Int32))]))]) at_18 rfl rfl (by decide) (by show Int32.toNatClampNeg (2 : Int32) < 28; decide) rfl rfl ?_
  intro T A
  refine A.dup (q := 20) at_19 rfl rfl ?_
  refine A.iconst (q := 21) (v := (3 : Int32)) at_20 rfl (by decide) ?_
  refine A.bipush (q := 23) (v := (122 : Int32)) at_21 rfl (by decide) ?_
  refine A.iastore (q := 24) (i := 0) (x' := (122 : Int32)) (L' := [(b1, .inr (.int, [(.int (65 : Int32)), (.int (90 : Int32)), (.int (97 : Int32)), (.int (122 : Int32)), (.int (0 : Int32)), (.int (0 : Int32)), (.int (0 : Int32)), (.int (0 : Int32)), (.int (0 : Int32)), (.int (0 : Int32)), (.int (0 : Int32)), (.int (0 : Int32)), (.int (0 : Int32)), (.int (0 : Int32)), (.int (0 : Int32)), (.int (0 : Int32)), (.int (0 : Int32)), (.int (0 : Int32)), (.int (0 : Int32)), (.int (0 : Int32)), (.int (0 : Int32)), (.int (0 : Int32)), (.int (0 : Int32)), (.int (0 : Int32)), (.int (0 : Int32)), (.int (0 : Int32)), (.int (0 : Int32)), (.int (0 : Int32))]))]) at_23 rfl rfl (by decide) (by show Int32.toNatClampNeg (3 : Int32) < 28; decide) rfl rfl ?_
  intro T A
  refine A.dup (q := 25) at_24 rfl rfl ?_
  refine A.iconst (q := 26) (v := (4 : Int32)) at_25 rfl (by decide) ?_
  refine A.sipush (q := 29) (v := (192 : Int32)) at_26 rfl (by decide) ?_
  refine A.iastore (q := 30) (i := 0) (x' := (192 : Int32)) (L' := [(b1, .inr (.int, [(.int (65 : Int32)), (.int (90 : Int32)), (.int (97 : Int32)), (.int (122 : Int32)), (.int (192 : Int32)), (.int (0 : Int32)), (.int (0 : Int32)), (.int (0 : Int32)), (.int (0 : Int32)), (.int (0 : Int32)), (.int (0 : Int32)), (.int (0 : Int32)), (.int (0 : Int32)), (.int (0 : Int32)), (.int (0 : Int32)), (.int (0 : Int32)), (.int (0 : Int32)), (.int (0 : Int32)), (.int (0 : Int32)), (.int (0 : Int32)), (.int (0 : Int32)), (.int (0 : Int32)), (.int (0 : Int32)), (.int (0 : Int32)), (.int (0 : Int32)), (.int (0 : Int32)), (.int (0 : Int32)), (.int (0 : Int32))]))]) at_29 rfl rfl (by decide) (by show Int32.toNatClampNeg (4 : Int32) < 28; decide) rfl rfl ?_
  intro T A
  refine A.dup (q := 31) at_30 rfl rfl ?_
  refine A.iconst (q := 32) (v := (5 : Int32)) at_31 rfl (by decide) ?_
  refine A.sipush (q := 35) (v := (214 : Int32)) at_32 rfl (by decide) ?_
  refine A.iastore (q := 36) (i := 0) (x' := (214 : Int32)) (L' := [(b1, .inr (.int, [(.int (65 : Int32)), (.int (90 : Int32)), (.int (97 : Int32)), (.int (122 : Int32)), (.int (192 : Int32)), (.int (214 : Int32)), (.int (0 : Int32)), (.int (0 : Int32)), (.int (0 : Int32)), (.int (0 : Int32)), (.int (0 : Int32)), (.int (0 : Int32)), (.int (0 : Int32)), (.int (0 : Int32)), (.int (0 : Int32)), (.int (0 : Int32)), (.int (0 : Int32)), (.int (0 : Int32)), (.int (0 : Int32)), (.int (0 : Int32)), (.int (0 : Int32)), (.int (0 : Int32)), (.int (0 : Int32)), (.int (0 : Int32)), (.int (0 : Int32)), (.int (0 : Int32)), (.int (0 : Int32)), (.int (0 : Int32))]))]) at_35 rfl rfl (by decide) (by show Int32.toNatClampNeg (5 : Int32) < 28; decide) rfl rfl ?_
  intro T A
  refine A.dup (q := 37) at_36 rfl rfl ?_
  refine A.bipush (q := 39) (v := (6 : Int32)) at_37 rfl (by decide) ?_
  refine A.sipush (q := 42) (v := (216 : Int32)) at_39 rfl (by decide) ?_
  refine A.iastore (q := 43) (i := 0) (x' := (216 : Int32)) (L' := [(b1, .inr (.int, [(.int (65 : Int32)), (.int (90 : Int32)), (.int (97 : Int32)), (.int (122 : Int32)), (.int (192 : Int32)), (.int (214 : Int32)), (.int (216 : Int32)), (.int (0 : Int32)), (.int (0 : Int32)), (.int (0 : Int32)), (.int (0 : Int32)), (.int (0 : Int32)), (.int (0 : Int32)), (.int (0 : Int32)), (.int (0 : Int32)), (.int (0 : Int32)), (.int (0 : Int32)), (.int (0 : Int32)), (.int (0 : Int32)), (.int (0 : Int32)), (.int (0 : Int32)), (.int (0 : Int32)), (.int (0 : Int32)), (.int (0 : Int32)), (.int (0 : Int32)), (.int (0 : Int32)), (.int (0 : Int32)), (.int (0 : Int32))]))]) at_42 rfl rfl (by decide) (by show Int32.toNatClampNeg (6 : Int32) < 28; decide) rfl rfl ?_
  intro T A
  refine A.dup (q := 44) at_43 rfl rfl ?_
  refine A.bipush (q := 46) (v := (7 : Int32)) at_44 rfl (by decide) ?_
  refine A.sipush (q := 49) (v := (246 : Int32)) at_46 rfl (by decide) ?_
  refine A.iastore (q := 50) (i := 0) (x' := (246 : Int32)) (L' := [(b1, .inr (.int, [(.int (65 : Int32)), (.int (90 : Int32)), (.int (97 : Int32)), (.int (122 : Int32)), (.int (192 : Int32)), (.int (214 : Int32)), (.int (216 : Int32)), (.int (246 : Int32)), (.int (0 : Int32)), (.int (0 : Int32)), (.int (0 : Int32)), (.int (0 : Int32)), (.int (0 : Int32)), (.int (0 : Int32)), (.int (0 : Int32)), (.int (0 : Int32)), (.int (0 : Int32)), (.int (0 : Int32)), (.int (0 : Int32)), (.int (0 : Int32)), (.int (0 : Int32)), (.int (0 : Int32)), (.int (0 : Int32)), (.int (0 : Int32)), (.int (0 : Int32)), (.int (0 : Int32)), (.int (0 : Int32)), (.int (0 : Int32))]))]) at_49 rfl rfl (by decide) (by show Int32.toNatClampNeg (7 : Int32) < 28; decide) rfl rfl ?_
  intro T A
  refine A.dup (q := 51) at_50 rfl rfl ?_
  refine A.bipush (q := 53) (v := (8 : Int32)) at_51 rfl (by decide) ?_
  refine A.sipush (q := 56) (v := (248 : Int32)) at_53 rfl (by decide) ?_
  refine A.iastore (q := 57) (i := 0) (x' := (248 : Int32)) (L' := [(b1, .inr (.int, [(.int (65 : Int32)), (.int (90 : Int32)), (.int (97 : Int32)), (.int (122 : Int32)), (.int (192 : Int32)), (.int (214 : Int32)), (.int (216 : Int32)), (.int (246 : Int32)), (.int (248 : Int32)), (.int (0 : Int32)), (.int (0 : Int32)), (.int (0 : Int32)), (.int (0 : Int32)), (.int (0 : Int32)), (.int (0 : Int32)), (.int (0 : Int32)), (.int (0 : Int32)), (.int (0 : Int32)), (.int (0 : Int32)), (.int (0 : Int32)), (.int (0 : Int32)), (.int (0 : Int32)), (.int (0 : Int32)), (.int (0 : Int32)), (.int (0 : Int32)), (.int (0 : Int32)), (.int (0 : Int32)), (.int (0 : Int32))]))]) at_56 rfl rfl (by decide) (by show Int32.toNatClampNeg (8 : Int32) < 28; decide) rfl rfl ?_
  intro T A
  refine A.dup (q := 58) at_57 rfl rfl ?_
  refine A.bipush (q := 60) (v := (9 : Int32)) at_58 rfl (by decide) ?_
  refine A.sipush (q := 63) (v := (767 : Int32)) at_60 rfl (by decide) ?_
  refine A.iastore (q := 64) (i := 0) (x' := (767 : Int32)) (L' := [(b1, .inr (.int, [(.int (65 : Int32)), (.int (90 : Int32)), (.int (97 : Int32)), (.int (122 : Int32)), (.int (192 : Int32)), (.int (214 : Int32)), (.int (216 : Int32)), (.int (246 : Int32)), (.int (248 : Int32)), (.int (767 : Int32)), (.int (0 : Int32)), (.int (0 : Int32)), (.int (0 : Int32)), (.int (0 : Int32)), (.int (0 : Int32)), (.int (0 : Int32)), (.int (0 : Int32)), (.int (0 : Int32)), (.int (0 : Int32)), (.int (0 : Int32)), (.int (0 : Int32)), (.int (0 : Int32)), (.int (0 : Int32)), (.int (0 : Int32)), (.int (0 : Int32)), (.int (0 : Int32)), (.int (0 : Int32)), (.int (0 : Int32))]))]) at_63 rfl rfl (by decide) (by show Int32.toNatClampNeg (9 : Int32) < 28; decide) rfl rfl ?_
  intro T A
  refine A.dup (q := 65) at_64 rfl rfl ?_
  refine A.bipush (q := 67) (v := (10 : Int32)) at_65 rfl (by decide) ?_
  refine A.sipush (q := 70) (v := (880 : Int32)) at_67 rfl (by decide) ?_
  refine A.iastore (q := 71) (i := 0) (x' := (880 : Int32)) (L' := [(b1, .inr (.int, [(.int (65 : Int32)), (.int (90 : Int32)), (.int (97 : Int32)), (.int (122 : Int32)), (.int (192 : Int32)), (.int (214 : Int32)), (.int (216 : Int32)), (.int (246 : Int32)), (.int (248 : Int32)), (.int (767 : Int32)), (.int (880 : Int32)), (.int (0 : Int32)), (.int (0 : Int32)), (.int (0 : Int32)), (.int (0 : Int32)), (.int (0 : Int32)), (.int (0 : Int32)), (.int (0 : Int32)), (.int (0 : Int32)), (.int (0 : Int32)), (.int (0 : Int32)), (.int (0 : Int32)), (.int (0 : Int32)), (.int (0 : Int32)), (.int (0 : Int32)), (.int (0 : Int32)), (.int (0 : Int32)), (.int (0 : Int32))]))]) at_70 rfl rfl (by decide) (by show Int32.toNatClampNeg (10 : Int32) < 28; decide) rfl rfl ?_
  intro T A
  refine A.dup (q := 72) at_71 rfl rfl ?_
  refine A.bipush (q := 74) (v := (11 : Int32)) at_72 rfl (by decide) ?_
  refine A.sipush (q := 77) (v := (893 : Int32)) at_74 rfl (by decide) ?_
  refine A.iastore (q := 78) (i := 0) (x' := (893 : Int32)) (L' := [(b1, .inr (.int, [(.int (65 : Int32)), (.int (90 : Int32)), (.int (97 : Int32)), (.int (122 : Int32)), (.int (192 : Int32)), (.int (214 : Int32)), (.int (216 : Int32)), (.int (246 : Int32)), (.int (248 : Int32)), (.int (767 : Int32)), (.int (880 : Int32)), (.int (893 : Int32)), (.int (0 : Int32)), (.int (0 : Int32)), (.int (0 : Int32)), (.int (0 : Int32)), (.int (0 : Int32)), (.int (0 : Int32)), (.int (0 : Int32)), (.int (0 : Int32)), (.int (0 : Int32)), (.int (0 : Int32)), (.int (0 : Int32)), (.int (0 : Int32)), (.int (0 : Int32)), (.int (0 : Int32)), (.int (0 : Int32)), (.int (0 : Int32))]))]) at_77 rfl rfl (by decide) (by show Int32.toNatClampNeg (11 : Int32) < 28; decide) rfl rfl ?_
  intro T A
  refine A.dup (q := 79) at_78 rfl rfl ?_
  refine A.bipush (q := 81) (v := (12 : Int32)) at_79 rfl (by decide) ?_
  refine A.sipush (q := 84) (v := (895 : Int32)) at_81 rfl (by decide) ?_
  refine A.iastore (q := 85) (i := 0) (x' := (895 : Int32)) (L' := [(b1, .inr (.int, [(.int (65 : Int32)), (.int (90 : Int32)), (.int (97 : Int32)), (.int (122 : Int32)), (.int (192 : Int32)), (.int (214 : Int32)), (.int (216 : Int32)), (.int (246 : Int32)), (.int (248 : Int32)), (.int (767 : Int32)), (.int (880 : Int32)), (.int (893 : Int32)), (.int (895 : Int32)), (.int (0 : Int32)), (.int (0 : Int32)), (.int (0 : Int32)), (.int (0 : Int32)), (.int (0 : Int32)), (.int (0 : Int32)), (.int (0 : Int32)), (.int (0 : Int32)), (.int (0 : Int32)), (.int (0 : Int32)), (.int (0 : Int32)), (.int (0 : Int32)), (.int (0 : Int32)), (.int (0 : Int32)), (.int (0 : Int32))]))]) at_84 rfl rfl (by decide) (by show Int32.toNatClampNeg (12 : Int32) < 28; decide) rfl rfl ?_
  intro T A
  refine A.dup (q := 86) at_85 rfl rfl ?_
  refine A.bipush (q := 88) (v := (13 : Int32)) at_86 rfl (by decide) ?_
  refine A.sipush (q := 91) (v := (8191 : Int32)) at_88 rfl (by decide) ?_
  refine A.iastore (q := 92) (i := 0) (x' := (8191 : Int32)) (L' := [(b1, .inr (.int, [(.int (65 : Int32)), (.int (90 : Int32)), (.int (97 : Int32)), (.int (122 : Int32)), (.int (192 : Int32)), (.int (214 : Int32)), (.int (216 : Int32)), (.int (246 : Int32)), (.int (248 : Int32)), (.int (767 : Int32)), (.int (880 : Int32)), (.int (893 : Int32)), (.int (895 : Int32)), (.int (8191 : Int32)), (.int (0 : Int32)), (.int (0 : Int32)), (.int (0 : Int32)), (.int (0 : Int32)), (.int (0 : Int32)), (.int (0 : Int32)), (.int (0 : Int32)), (.int (0 : Int32)), (.int (0 : Int32)), (.int (0 : Int32)), (.int (0 : Int32)), (.int (0 : Int32)), (.int (0 : Int32)), (.int (0 : Int32))]))]) at_91 rfl rfl (by decide) (by show Int32.toNatClampNeg (13 : Int32) < 28; decide) rfl rfl ?_
  intro T A
  refine A.dup (q := 93) at_92 rfl rfl ?_
  refine A.bipush (q := 95) (v := (14 : Int32)) at_93 rfl (by decide) ?_
  refine A.sipush (q := 98) (v := (8204 : Int32)) at_95 rfl (by decide) ?_
  refine A.iastore (q := 99) (i := 0) (x' := (8204 : Int32)) (L' := [(b1, .inr (.int, [(.int (65 : Int32)), (.int (90 : Int32)), (.int (97 : Int32)), (.int (122 : Int32)), (.int (192 : Int32)), (.int (214 : Int32)), (.int (216 : Int32)), (.int (246 : Int32)), (.int (248 : Int32)), (.int (767 : Int32)), (.int (880 : Int32)), (.int (893 : Int32)), (.int (895 : Int32)), (.int (8191 : Int32)), (.int (8204 : Int32)), (.int (0 : Int32)), (.int (0 : Int32)), (.int (0 : Int32)), (.int (0 : Int32)), (.int (0 : Int32)), (.int (0 : Int32)), (.int (0 : Int32)), (.int (0 : Int32)), (.int (0 : Int32)), (.int (0 : Int32)), (.int (0 : Int32)), (.int (0 : Int32)), (.int (0 : Int32))]))]) at_98 rfl rfl (by decide) (by show Int32.toNatClampNeg (14 : Int32) < 28; decide) rfl rfl ?_
  intro T A
  refine A.dup (q := 100) at_99 rfl rfl ?_
  refine A.bipush (q := 102) (v := (15 : Int32)) at_100 rfl (by decide) ?_
  refine A.sipush (q := 105) (v := (8205 : Int32)) at_102 rfl (by decide) ?_
  refine A.iastore (q := 106) (i := 0) (x' := (8205 : Int32)) (L' := [(b1, .inr (.int, [(.int (65 : Int32)), (.int (90 : Int32)), (.int (97 : Int32)), (.int (122 : Int32)), (.int (192 : Int32)), (.int (214 : Int32)), (.int (216 : Int32)), (.int (246 : Int32)), (.int (248 : Int32)), (.int (767 : Int32)), (.int (880 : Int32)), (.int (893 : Int32)), (.int (895 : Int32)), (.int (8191 : Int32)), (.int (8204 : Int32)), (.int (8205 : Int32)), (.int (0 : Int32)), (.int (0 : Int32)), (.int (0 : Int32)), (.int (0 : Int32)), (.int (0 : Int32)), (.int (0 : Int32)), (.int (0 : Int32)), (.int (0 : Int32)), (.int (0 : Int32)), (.int (0 : Int32)), (.int (0 : Int32)), (.int (0 : Int32))]))]) at_105 rfl rfl (by decide) (by show Int32.toNatClampNeg (15 : Int32) < 28; decide) rfl rfl ?_
  intro T A
  refine A.dup (q := 107) at_106 rfl rfl ?_
  refine A.bipush (q := 109) (v := (16 : Int32)) at_107 rfl (by decide) ?_
  refine A.sipush (q := 112) (v := (8304 : Int32)) at_109 rfl (by decide) ?_
  refine A.iastore (q := 113) (i := 0) (x' := (8304 : Int32)) (L' := [(b1, .inr (.int, [(.int (65 : Int32)), (.int (90 : Int32)), (.int (97 : Int32)), (.int (122 : Int32)), (.int (192 : Int32)), (.int (214 : Int32)), (.int (216 : Int32)), (.int (246 : Int32)), (.int (248 : Int32)), (.int (767 : Int32)), (.int (880 : Int32)), (.int (893 : Int32)), (.int (895 : Int32)), (.int (8191 : Int32)), (.int (8204 : Int32)), (.int (8205 : Int32)), (.int (8304 : Int32)), (.int (0 : Int32)), (.int (0 : Int32)), (.int (0 : Int32)), (.int (0 : Int32)), (.int (0 : Int32)), (.int (0 : Int32)), (.int (0 : Int32)), (.int (0 : Int32)), (.int (0 : Int32)), (.int (0 : Int32)), (.int (0 : Int32))]))]) at_112 rfl rfl (by decide) (by show Int32.toNatClampNeg (16 : Int32) < 28; decide) rfl rfl ?_
  intro T A
  refine A.dup (q := 114) at_113 rfl rfl ?_
  refine A.bipush (q := 116) (v := (17 : Int32)) at_114 rfl (by decide) ?_
  refine A.sipush (q := 119) (v := (8591 : Int32)) at_116 rfl (by decide) ?_
  refine A.iastore (q := 120) (i := 0) (x' := (8591 : Int32)) (L' := [(b1, .inr (.int, [(.int (65 : Int32)), (.int (90 : Int32)), (.int (97 : Int32)), (.int (122 : Int32)), (.int (192 : Int32)), (.int (214 : Int32)), (.int (216 : Int32)), (.int (246 : Int32)), (.int (248 : Int32)), (.int (767 : Int32)), (.int (880 : Int32)), (.int (893 : Int32)), (.int (895 : Int32)), (.int (8191 : Int32)), (.int (8204 : Int32)), (.int (8205 : Int32)), (.int (8304 : Int32)), (.int (8591 : Int32)), (.int (0 : Int32)), (.int (0 : Int32)), (.int (0 : Int32)), (.int (0 : Int32)), (.int (0 : Int32)), (.int (0 : Int32)), (.int (0 : Int32)), (.int (0 : Int32)), (.int (0 : Int32)), (.int (0 : Int32))]))]) at_119 rfl rfl (by decide) (by show Int32.toNatClampNeg (17 : Int32) < 28; decide) rfl rfl ?_
  intro T A
  refine A.dup (q := 121) at_120 rfl rfl ?_
  refine A.bipush (q := 123) (v := (18 : Int32)) at_121 rfl (by decide) ?_
  refine A.sipush (q := 126) (v := (11264 : Int32)) at_123 rfl (by decide) ?_
  refine A.iastore (q := 127) (i := 0) (x' := (11264 : Int32)) (L' := [(b1, .inr (.int, [(.int (65 : Int32)), (.int (90 : Int32)), (.int (97 : Int32)), (.int (122 : Int32)), (.int (192 : Int32)), (.int (214 : Int32)), (.int (216 : Int32)), (.int (246 : Int32)), (.int (248 : Int32)), (.int (767 : Int32)), (.int (880 : Int32)), (.int (893 : Int32)), (.int (895 : Int32)), (.int (8191 : Int32)), (.int (8204 : Int32)), (.int (8205 : Int32)), (.int (8304 : Int32)), (.int (8591 : Int32)), (.int (11264 : Int32)), (.int (0 : Int32)), (.int (0 : Int32)), (.int (0 : Int32)), (.int (0 : Int32)), (.int (0 : Int32)), (.int (0 : Int32)), (.int (0 : Int32)), (.int (0 : Int32)), (.int (0 : Int32))]))]) at_126 rfl rfl (by decide) (by show Int32.toNatClampNeg (18 : Int32) < 28; decide) rfl rfl ?_
  intro T A
  refine A.dup (q := 128) at_127 rfl rfl ?_
  refine A.bipush (q := 130) (v := (19 : Int32)) at_128 rfl (by decide) ?_
  refine A.sipush (q := 133) (v := (12271 : Int32)) at_130 rfl (by decide) ?_
  refine A.iastore (q := 134) (i := 0) (x' := (12271 : Int32)) (L' := [(b1, .inr (.int, [(.int (65 : Int32)), (.int (90 : Int32)), (.int (97 : Int32)), (.int (122 : Int32)), (.int (192 : Int32)), (.int (214 : Int32)), (.int (216 : Int32)), (.int (246 : Int32)), (.int (248 : Int32)), (.int (767 : Int32)), (.int (880 : Int32)), (.int (893 : Int32)), (.int (895 : Int32)), (.int (8191 : Int32)), (.int (8204 : Int32)), (.int (8205 : Int32)), (.int (8304 : Int32)), (.int (8591 : Int32)), (.int (11264 : Int32)), (.int (12271 : Int32)), (.int (0 : Int32)), (.int (0 : Int32)), (.int (0 : Int32)), (.int (0 : Int32)), (.int (0 : Int32)), (.int (0 : Int32)), (.int (0 : Int32)), (.int (0 : Int32))]))]) at_133 rfl rfl (by decide) (by show Int32.toNatClampNeg (19 : Int32) < 28; decide) rfl rfl ?_
  intro T A
  refine A.dup (q := 135) at_134 rfl rfl ?_
  refine A.bipush (q := 137) (v := (20 : Int32)) at_135 rfl (by decide) ?_
  refine A.sipush (q := 140) (v := (12289 : Int32)) at_137 rfl (by decide) ?_
  refine A.iastore (q := 141) (i := 0) (x' := (12289 : Int32)) (L' := [(b1, .inr (.int, [(.int (65 : Int32)), (.int (90 : Int32)), (.int (97 : Int32)), (.int (122 : Int32)), (.int (192 : Int32)), (.int (214 : Int32)), (.int (216 : Int32)), (.int (246 : Int32)), (.int (248 : Int32)), (.int (767 : Int32)), (.int (880 : Int32)), (.int (893 : Int32)), (.int (895 : Int32)), (.int (8191 : Int32)), (.int (8204 : Int32)), (.int (8205 : Int32)), (.int (8304 : Int32)), (.int (8591 : Int32)), (.int (11264 : Int32)), (.int (12271 : Int32)), (.int (12289 : Int32)), (.int (0 : Int32)), (.int (0 : Int32)), (.int (0 : Int32)), (.int (0 : Int32)), (.int (0 : Int32)), (.int (0 : Int32)), (.int (0 : Int32))]))]) at_140 rfl rfl (by decide) (by show Int32.toNatClampNeg (20 : Int32) < 28; decide) rfl rfl ?_
  intro T A
  refine A.dup (q := 142) at_141 rfl rfl ?_
  refine A.bipush (q := 144) (v := (21 : Int32)) at_142 rfl (by decide) ?_
  refine A.ldc (q := 146) (v := (55295 : Int32)) (w := 1) at_144 rfl rfl ?_
  refine A.iastore (q := 147) (i := 0) (x' := (55295 : Int32)) (L' := [(b1, .inr (.int, [(.int (65 : Int32)), (.int (90 : Int32)), (.int (97 : Int32)), (.int (122 : Int32)), (.int (192 : Int32)), (.int (214 : Int32)), (.int (216 : Int32)), (.int (246 : Int32)), (.int (248 : Int32)), (.int (767 : Int32)), (.int (880 : Int32)), (.int (893 : Int32)), (.int (895 : Int32)), (.int (8191 : Int32)), (.int (8204 : Int32)), (.int (8205 : Int32)), (.int (8304 : Int32)), (.int (8591 : Int32)), (.int (11264 : Int32)), (.int (12271 : Int32)), (.int (12289 : Int32)), (.int (55295 : Int32)), (.int (0 : Int32)), (.int (0 : Int32)), (.int (0 : Int32)), (.int (0 : Int32)), (.int (0 : Int32)), (.int (0 : Int32))]))]) at_146 rfl rfl (by decide) (by show Int32.toNatClampNeg (21 : Int32) < 28; decide) rfl rfl ?_
  intro T A
  refine A.dup (q := 148) at_147 rfl rfl ?_
  refine A.bipush (q := 150) (v := (22 : Int32)) at_148 rfl (by decide) ?_
  refine A.ldc (q := 152) (v := (63744 : Int32)) (w := 2) at_150 rfl rfl ?_
  refine A.iastore (q := 153) (i := 0) (x' := (63744 : Int32)) (L' := [(b1, .inr (.int, [(.int (65 : Int32)), (.int (90 : Int32)), (.int (97 : Int32)), (.int (122 : Int32)), (.int (192 : Int32)), (.int (214 : Int32)), (.int (216 : Int32)), (.int (246 : Int32)), (.int (248 : Int32)), (.int (767 : Int32)), (.int (880 : Int32)), (.int (893 : Int32)), (.int (895 : Int32)), (.int (8191 : Int32)), (.int (8204 : Int32)), (.int (8205 : Int32)), (.int (8304 : Int32)), (.int (8591 : Int32)), (.int (11264 : Int32)), (.int (12271 : Int32)), (.int (12289 : Int32)), (.int (55295 : Int32)), (.int (63744 : Int32)), (.int (0 : Int32)), (.int (0 : Int32)), (.int (0 : Int32)), (.int (0 : Int32)), (.int (0 : Int32))]))]) at_152 rfl rfl (by decide) (by show Int32.toNatClampNeg (22 : Int32) < 28; decide) rfl rfl ?_
  intro T A
  refine A.dup (q := 154) at_153 rfl rfl ?_
  refine A.bipush (q := 156) (v := (23 : Int32)) at_154 rfl (by decide) ?_
  refine A.ldc (q := 158) (v := (64975 : Int32)) (w := 3) at_156 rfl rfl ?_
  refine A.iastore (q := 159) (i := 0) (x' := (64975 : Int32)) (L' := [(b1, .inr (.int, [(.int (65 : Int32)), (.int (90 : Int32)), (.int (97 : Int32)), (.int (122 : Int32)), (.int (192 : Int32)), (.int (214 : Int32)), (.int (216 : Int32)), (.int (246 : Int32)), (.int (248 : Int32)), (.int (767 : Int32)), (.int (880 : Int32)), (.int (893 : Int32)), (.int (895 : Int32)), (.int (8191 : Int32)), (.int (8204 : Int32)), (.int (8205 : Int32)), (.int (8304 : Int32)), (.int (8591 : Int32)), (.int (11264 : Int32)), (.int (12271 : Int32)), (.int (12289 : Int32)), (.int (55295 : Int32)), (.int (63744 : Int32)), (.int (64975 : Int32)), (.int (0 : Int32)), (.int (0 : Int32)), (.int (0 : Int32)), (.int (0 : Int32))]))]) at_158 rfl rfl (by decide) (by show Int32.toNatClampNeg (23 : Int32) < 28; decide) rfl rfl ?_
  intro T A
  refine A.dup (q := 160) at_159 rfl rfl ?_
  refine A.bipush (q := 162) (v := (24 : Int32)) at_160 rfl (by decide) ?_
  refine A.ldc (q := 164) (v := (65008 : Int32)) (w := 4) at_162 rfl rfl ?_
  refine A.iastore (q := 165) (i := 0) (x' := (65008 : Int32)) (L' := [(b1, .inr (.int, [(.int (65 : Int32)), (.int (90 : Int32)), (.int (97 : Int32)), (.int (122 : Int32)), (.int (192 : Int32)), (.int (214 : Int32)), (.int (216 : Int32)), (.int (246 : Int32)), (.int (248 : Int32)), (.int (767 : Int32)), (.int (880 : Int32)), (.int (893 : Int32)), (.int (895 : Int32)), (.int (8191 : Int32)), (.int (8204 : Int32)), (.int (8205 : Int32)), (.int (8304 : Int32)), (.int (8591 : Int32)), (.int (11264 : Int32)), (.int (12271 : Int32)), (.int (12289 : Int32)), (.int (55295 : Int32)), (.int (63744 : Int32)), (.int (64975 : Int32)), (.int (65008 : Int32)), (.int (0 : Int32)), (.int (0 : Int32)), (.int (0 : Int32))]))]) at_164 rfl rfl (by decide) (by show Int32.toNatClampNeg (24 : Int32) < 28; decide) rfl rfl ?_
  intro T A
  refine A.dup (q := 166) at_165 rfl rfl ?_
  refine A.bipush (q := 168) (v := (25 : Int32)) at_166 rfl (by decide) ?_
  refine A.ldc (q := 170) (v := (65533 : Int32)) (w := 5) at_168 rfl rfl ?_
  refine A.iastore (q := 171) (i := 0) (x' := (65533 : Int32)) (L' := [(b1, .inr (.int, [(.int (65 : Int32)), (.int (90 : Int32)), (.int (97 : Int32)), (.int (122 : Int32)), (.int (192 : Int32)), (.int (214 : Int32)), (.int (216 : Int32)), (.int (246 : Int32)), (.int (248 : Int32)), (.int (767 : Int32)), (.int (880 : Int32)), (.int (893 : Int32)), (.int (895 : Int32)), (.int (8191 : Int32)), (.int (8204 : Int32)), (.int (8205 : Int32)), (.int (8304 : Int32)), (.int (8591 : Int32)), (.int (11264 : Int32)), (.int (12271 : Int32)), (.int (12289 : Int32)), (.int (55295 : Int32)), (.int (63744 : Int32)), (.int (64975 : Int32)), (.int (65008 : Int32)), (.int (65533 : Int32)), (.int (0 : Int32)), (.int (0 : Int32))]))]) at_170 rfl rfl (by decide) (by show Int32.toNatClampNeg (25 : Int32) < 28; decide) rfl rfl ?_
  intro T A
  refine A.dup (q := 172) at_171 rfl rfl ?_
  refine A.bipush (q := 174) (v := (26 : Int32)) at_172 rfl (by decide) ?_
  refine A.ldc (q := 176) (v := (65536 : Int32)) (w := 6) at_174 rfl rfl ?_
  refine A.iastore (q := 177) (i := 0) (x' := (65536 : Int32)) (L' := [(b1, .inr (.int, [(.int (65 : Int32)), (.int (90 : Int32)), (.int (97 : Int32)), (.int (122 : Int32)), (.int (192 : Int32)), (.int (214 : Int32)), (.int (216 : Int32)), (.int (246 : Int32)), (.int (248 : Int32)), (.int (767 : Int32)), (.int (880 : Int32)), (.int (893 : Int32)), (.int (895 : Int32)), (.int (8191 : Int32)), (.int (8204 : Int32)), (.int (8205 : Int32)), (.int (8304 : Int32)), (.int (8591 : Int32)), (.int (11264 : Int32)), (.int (12271 : Int32)), (.int (12289 : Int32)), (.int (55295 : Int32)), (.int (63744 : Int32)), (.int (64975 : Int32)), (.int (65008 : Int32)), (.int (65533 : Int32)), (.int (65536 : Int32)), (.int (0 : Int32))]))]) at_176 rfl rfl (by decide) (by show Int32.toNatClampNeg (26 : Int32) < 28; decide) rfl rfl ?_
  intro T A
  refine A.dup (q := 178) at_177 rfl rfl ?_
  refine A.bipush (q := 180) (v := (27 : Int32)) at_178 rfl (by decide) ?_
  refine A.ldc (q := 182) (v := (983039 : Int32)) (w := 7) at_180 rfl rfl ?_
  refine A.iastore (q := 183) (i := 0) (x' := (983039 : Int32)) (L' := [(b1, .inr (.int, [(.int (65 : Int32)), (.int (90 : Int32)), (.int (97 : Int32)), (.int (122 : Int32)), (.int (192 : Int32)), (.int (214 : Int32)), (.int (216 : Int32)), (.int (246 : Int32)), (.int (248 : Int32)), (.int (767 : Int32)), (.int (880 : Int32)), (.int (893 : Int32)), (.int (895 : Int32)), (.int (8191 : Int32)), (.int (8204 : Int32)), (.int (8205 : Int32)), (.int (8304 : Int32)), (.int (8591 : Int32)), (.int (11264 : Int32)), (.int (12271 : Int32)), (.int (12289 : Int32)), (.int (55295 : Int32)), (.int (63744 : Int32)), (.int (64975 : Int32)), (.int (65008 : Int32)), (.int (65533 : Int32)), (.int (65536 : Int32)), (.int (983039 : Int32))]))]) at_182 rfl rfl (by decide) (by show Int32.toNatClampNeg (27 : Int32) < 28; decide) rfl rfl ?_
  intro T A
  refine A.astoreN (q := 184) (l' := #[.val (.int ch), .val (.int pk), .val (.ref b1), .unset, .unset, .unset, .unset, .unset]) at_183 rfl rfl rfl ?_
  refine A.iloadN (q := 185) at_184 rfl rfl ?_
  refine A.ldc (q := 187) (v := (2147483647 : Int32)) (w := 8) at_185 rfl rfl ?_
  obtain ⟨v2, e2⟩ : ∃ v : Int32, pk &&& (2147483647 : Int32) = v := ⟨_, rfl⟩
  refine A.iand (q := 188) at_187 rfl e2 ?_
  refine A.bipush (q := 190) (v := (28 : Int32)) at_188 rfl (by decide) ?_
  obtain ⟨v3, e3⟩ : ∃ v : Int32, v2 % (28 : Int32) = v := ⟨_, rfl⟩
  refine A.irem (q := 191) at_190 rfl (by decide) e3 ?_
  refine A.istoreN (q := 192) (l' := #[.val (.int ch), .val (.int pk), .val (.ref b1), .val (.int v3), .unset, .unset, .unset, .unset]) at_191 rfl rfl ?_
  refine A.iloadN (q := 193) at_192 rfl rfl ?_
  refine A.bipush (q := 195) (v := (8 : Int32)) at_193 rfl (by decide) ?_
  obtain ⟨v4, e4⟩ : ∃ v : Int32, (pk.toUInt32 >>> ((8 : Int32) &&& 31).toUInt32).toInt32 = v := ⟨_, rfl⟩
  refine A.iushr (q := 196) at_195 rfl e4 ?_
  refine A.sipush (q := 199) (v := (255 : Int32)) at_196 rfl (by decide) ?_
  obtain ⟨v5, e5⟩ : ∃ v : Int32, v4 &&& (255 : Int32) = v := ⟨_, rfl⟩
  refine A.iand (q := 200) at_199 rfl e5 ?_
  refine A.iconst (q := 201) (v := (3 : Int32)) at_200 rfl (by decide) ?_
  obtain ⟨v6, e6⟩ : ∃ v : Int32, v5 % (3 : Int32) = v := ⟨_, rfl⟩
  refine A.irem (q := 202) at_201 rfl (by decide) e6 ?_
  refine A.iconst (q := 203) (v := (1 : Int32)) at_202 rfl (by decide) ?_
  obtain ⟨v7, e7⟩ : ∃ v : Int32, v6 - (1 : Int32) = v := ⟨_, rfl⟩
  refine A.isub (q := 204) at_203 rfl e7 ?_
  refine A.istore (q := 206) (l' := #[.val (.int ch), .val (.int pk), .val (.ref b1), .val (.int v3), .val (.int v7), .unset, .unset, .unset]) at_204 rfl rfl ?_
  refine A.aloadN (q := 207) at_206 rfl rfl rfl ?_
  refine A.iloadN (q := 208) at_207 rfl rfl ?_
  have hix := own_ix _ _ _ (rfl : pk &&& (2147483647 : Int32) = _) rfl
  obtain ⟨x8, hxx8⟩ : ∃ x : Int32, ([(65 : Int32), (90 : Int32), (97 : Int32), (122 : Int32), (192 : Int32), (214 : Int32), (216 : Int32), (246 : Int32), (248 : Int32), (767 : Int32), (880 : Int32), (893 : Int32), (895 : Int32), (8191 : Int32), (8204 : Int32), (8205 : Int32), (8304 : Int32), (8591 : Int32), (11264 : Int32), (12271 : Int32), (12289 : Int32), (55295 : Int32), (63744 : Int32), (64975 : Int32), (65008 : Int32), (65533 : Int32), (65536 : Int32), (983039 : Int32)] : List Int32)[(v3).toNatClampNeg]? = some x := ⟨_, own_gd (d := 0) (by subst e2 e3 e4 e5 e6 e7; simp only [Int32.toNatClampNeg, List.length_cons, List.length_nil]; omega)⟩
  refine A.ialoadM (q := 209) (xs := [(65 : Int32), (90 : Int32), (97 : Int32), (122 : Int32), (192 : Int32), (214 : Int32), (216 : Int32), (246 : Int32), (248 : Int32), (767 : Int32), (880 : Int32), (893 : Int32), (895 : Int32), (8191 : Int32), (8204 : Int32), (8205 : Int32), (8304 : Int32), (8591 : Int32), (11264 : Int32), (12271 : Int32), (12289 : Int32), (55295 : Int32), (63744 : Int32), (64975 : Int32), (65008 : Int32), (65533 : Int32), (65536 : Int32), (983039 : Int32)]) (i := 0) (v := x8) at_208 rfl rfl (by subst e2 e3 e4 e5 e6 e7; rw [Int32.lt_iff_toInt_lt]; simp only [Int32.reduceToInt]; omega) hxx8 ?_
  refine A.iload (q := 211) at_209 rfl rfl ?_
  obtain ⟨v9, e9⟩ : ∃ v : Int32, x8 + v7 = v := ⟨_, rfl⟩
  refine A.iadd (q := 212) at_211 rfl e9 ?_
  refine A.istore (q := 214) (l' := #[.val (.int ch), .val (.int pk), .val (.ref b1), .val (.int v3), .val (.int v7), .val (.int v9), .unset, .unset]) at_212 rfl rfl ?_
  refine A.iloadN (q := 215) at_214 rfl rfl ?_
  refine A.callS (q := 218) (w1 := 9) (w2 := 10) (w3 := 11) (w4 := 12) (as := [(.int ch)]) (st := []) (W := 0) at_215 rfl rfl rfl rfl rfl (rmP l Z a0 hw n0 ch _) (by decide) ⟨_, _, pd_0, rfl⟩ rfl rfl rfl (by decide) (by decide) (by decide) (by decide) ?_
  rintro _ T _ ⟨rfl, rfl⟩ A
  show Go p e below _ (T.setTop (mkF m 218 #[.val (.int ch), .val (.int pk), .val (.ref b1), .val (.int v3), .val (.int v7), .val (.int v9), .unset, .unset] [(.int (FR ch))]))
  obtain ⟨v10, e10⟩ : ∃ v : Int32, (FR ch) = v := ⟨_, rfl⟩
  rw [e10]
  refine A.iloadN (q := 219) at_218 rfl rfl ?_
  refine A.callS (q := 222) (w1 := 16) (w2 := 17) (w3 := 18) (w4 := 19) (as := [(.int ch)]) (st := [(.int v10)]) (W := 1) at_219 rfl rfl rfl rfl rfl (rmR l Z a0 hw n0 ch _) (by decide) ⟨_, _, pd_0, rfl⟩ rfl rfl rfl (by decide) (by decide) (by decide) (by decide) ?_
  rintro _ T _ ⟨rfl, rfl⟩ A
  show Go p e below _ (T.setTop (mkF m 222 #[.val (.int ch), .val (.int pk), .val (.ref b1), .val (.int v3), .val (.int v7), .val (.int v9), .unset, .unset] [(.int (FR ch)), (.int v10)]))
  obtain ⟨v11, e11⟩ : ∃ v : Int32, (FR ch) = v := ⟨_, rfl⟩
  rw [e11]
  refine A.icmpF (q := 225) at_222 rfl (teq (by subst e2 e3 e4 e5 e6 e7 e9 e10 e11; rfl : v10 = v11)).2 ?_
  refine A.iconst (q := 226) (v := (1 : Int32)) at_225 rfl (by decide) ?_
  refine A.goto (r := 230) at_226 (by decide) ?_
  refine A.istore (q := 232) (l' := #[.val (.int ch), .val (.int pk), .val (.ref b1), .val (.int v3), .val (.int v7), .val (.int v9), .val (.int (1 : Int32)), .unset]) at_230 rfl rfl ?_
  refine A.iload (q := 234) at_232 rfl rfl ?_
  refine A.callS (q := 237) (w1 := 9) (w2 := 10) (w3 := 11) (w4 := 12) (as := [(.int v9)]) (st := []) (W := 0) at_234 rfl rfl rfl rfl rfl (rmP l Z a0 hw n0 v9 _) (by decide) ⟨_, _, pd_0, rfl⟩ rfl rfl rfl (by decide) (by decide) (by decide) (by decide) ?_
  rintro _ T _ ⟨rfl, rfl⟩ A
  show Go p e below _ (T.setTop (mkF m 237 #[.val (.int ch), .val (.int pk), .val (.ref b1), .val (.int v3), .val (.int v7), .val (.int v9), .val (.int (1 : Int32)), .unset] [(.int (FR v9))]))
  obtain ⟨v12, e12⟩ : ∃ v : Int32, (FR v9) = v := ⟨_, rfl⟩
  rw [e12]
  refine A.iload (q := 239) at_237 rfl rfl ?_
  refine A.callS (q := 242) (w1 := 16) (w2 := 17) (w3 := 18) (w4 := 19) (as := [(.int v9)]) (st := [(.int v12)]) (W := 1) at_239 rfl rfl rfl rfl rfl (rmR l Z a0 hw n0 v9 _) (by decide) ⟨_, _, pd_0, rfl⟩ rfl rfl rfl (by decide) (by decide) (by decide) (by decide) ?_
  rintro _ T _ ⟨rfl, rfl⟩ A
  show Go p e below _ (T.setTop (mkF m 242 #[.val (.int ch), .val (.int pk), .val (.ref b1), .val (.int v3), .val (.int v7), .val (.int v9), .val (.int (1 : Int32)), .unset] [(.int (FR v9)), (.int v12)]))
  obtain ⟨v13, e13⟩ : ∃ v : Int32, (FR v9) = v := ⟨_, rfl⟩
  rw [e13]
  refine A.icmpF (q := 245) at_242 rfl (teq (by subst e2 e3 e4 e5 e6 e7 e9 e10 e11 e12 e13; rfl : v12 = v13)).2 ?_
  refine A.iconst (q := 246) (v := (1 : Int32)) at_245 rfl (by decide) ?_
  refine A.goto (r := 250) at_246 (by decide) ?_
  refine A.istore (q := 252) (l' := #[.val (.int ch), .val (.int pk), .val (.ref b1), .val (.int v3), .val (.int v7), .val (.int v9), .val (.int (1 : Int32)), .val (.int (1 : Int32))]) at_250 rfl rfl ?_
  refine A.iload (q := 254) at_252 rfl rfl ?_
  refine A.ifF (q := 257) at_254 rfl (by decide) ?_
  refine A.iload (q := 259) at_257 rfl rfl ?_
  refine A.ifF (q := 262) at_259 rfl (by decide) ?_
  refine A.iconst (q := 263) (v := (1 : Int32)) at_262 rfl (by decide) ?_
  refine A.goto (r := 267) at_263 (by decide) ?_
  exact A.retZ (v := 1) at_267 (by decide) (by decide) (by decide) rfl
set_option maxRecDepth 65536 in
set_option maxHeartbeats 40000000 in
theorem comes_1 {Post : Tables → Env → Array Value → State → Outcome → State → Prop} (hpost : ∀ tb e args s v u, (limb_1_1.after args s (.returned v) u = true ∧ limb_1_2.after args s (.returned v) u = true ∧ True) → FrameEnd s (.returned v) u (Jvm.fieldLocs frame_1_writes args s ++ Jvm.arrayLocs frame_1_arrays args s ++ Jvm.staticLocs frame_1_statics s) 16 128 → Post tb e args s (.returned v) u) :
    ArmFor flags0 classFile x code maxLocals ret World_1 tables_1 room_1 Calls_1 rest_1 Pre_1 Post := by
  intro l hfl _ _ p e ha hc hk s m args below hf hA hF happ hP
  obtain ⟨hcalls, hrest, hpre⟩ := hP
  obtain ⟨-, -, -, hnamed, -, -, -, hat⟩ := (Spec.applies_iff hf).mp happ
  obtain ⟨hg, hn⟩ := and_e (Cond.before_iff.mp (show (Jvm.Cond.and given_1 narrow_1).before args s = true from hpre))
  obtain ⟨g1, hg⟩ := and_e hg
  obtain ⟨gv0, hg⟩ := and_e hg
  have gv1 := hg
  obtain ⟨w0, w1, rfl⟩ : ∃ w0 w1 : Value, args = #[w0, w1] := by
    have hs : args.size = 2 := by simpa [Cond.value, given_1] using g1
    obtain ⟨L⟩ := args
    match L, hs with
    | [w0, w1], _ => exact ⟨w0, w1, rfl⟩
  have hw := fun d (hd : d ∈ tables_1) => atoms_spec (ws := Jvm.Cond.code x code maxLocals ret :: tables_1) hat d (List.mem_cons_of_mem _ hd)
  obtain ⟨i0, ei0⟩ := is_v gv0
  obtain rfl : w0 = (.int i0) := Option.some.inj ei0
  obtain ⟨i1, ei1⟩ := is_v gv1
  obtain rfl : w1 = (.int i1) := Option.some.inj ei1
  obtain ⟨n, o, h1, h2, h3, _, L, rfl, ⟨N, _, L', rfl, _⟩, hq⟩ := rm0 l s _ hw s.heap.size i0 i1 s.heap tables_1 (Nat.le_refl _) ⟨fun _ q => (nomatch q), List.nodup_nil⟩ p e ha hc hk s m _ below hf ((Spec.applies_iff_loose hf).mp happ).1 ⟨rfl, State.Warmed39.refl s, rfl⟩ trivial
  refine ⟨n, _, h1, h2, h3, hpost _ _ _ _ _ _ ⟨Cond.after_iff.mpr rfl, Cond.after_iff.mpr (eq_i res_at (Term.int_eval (1)) rfl), trivial⟩ ⟨hq.1, hq.2.1, hq.2.2.sift fun y hy => Or.inr (N y hy)⟩⟩
theorem main_1_1 : Claimed_1_1 := comes_1 fun _ _ _ _ _ _ h hF => ⟨h.1, hF⟩
theorem main_1_2 : Claimed_1_2 := comes_1 fun _ _ _ _ _ _ h hF => ⟨h.2.1, hF⟩
end Jvm.Pilot.@@N@@
namespace Jvm.Pilot.@@N@@
open Jvm Jvm.ClassFile Sem Op Lib Jvm.Free Jvm.Stand Jvm.Pilot.@@N@@.Jvm.D
/-! MADE BY PROGRAM (witnessworld.py) out of the Statement's table words and the real class files: 9 classes; the members and pool entries that the words name. The judged class is class 1, her method 2. -/
namespace start1
open Jvm.ClassFile
def u (s : String) : CpInfo := .utf8 (stringToUtf16 s)
/-- a pool by its gaps: so many unusable entries, then the entry; so many at the end -/
def gap : Nat → List CpInfo → List CpInfo
  | 0, r => r
  | n + 1, r => .unusable :: gap n r
def poolList (es : List (Nat × CpInfo)) (last : Nat) : List CpInfo := es.foldr (fun e r => gap e.1 (e.2 :: r)) (gap last [])
def pool (es : List (Nat × CpInfo)) (last : Nat) : Array CpInfo := ⟨poolList es last⟩
def fileOf (pool : Array CpInfo) (this : Nat) (attrs : Array Attribute := #[]) (ms : Array MethodInfo := #[]) (fl : Nat := 33) (sup : Nat := 0) (ifs : Array Nat := #[]) (fds : Array FieldInfo := #[]) : ClassFile where
  minorVersion := 0
  majorVersion := 65
  constantPool := pool
  accessFlags := fl
  thisClass := this
  superClass := sup
  interfaces := ifs
  fields := fds
  methods := ms
  attributes := attrs
def plain (name : String) (sup : Option ClassId) : Class where
  name := name
  kind := .ordinary
  loader := none
  accessFlags := 33
  super := sup
  interfaces := #[]
  cf := none
  fields := #[]
  methods := #[]
  instanceTypes := #[]
  staticTypes := #[]
  resolved := #[]
  callSites := []
  init := .initialized
  statics := none
  mirror := none

def pool0 : Array CpInfo := pool [(5, u "<init>"), (0, u "()V"), (1, .class_ 10), (1, u "java/lang/Object")] 113

def k0m0 : Method := { name := "<init>", desc := "()V", sig := { parameters := [], returnType := none }, accessFlags := 1, code := none }
/-- java/lang/Object -/
def k0 : Class := { plain "java/lang/Object" none with
  accessFlags := 33
  interfaces := #[]
  cf := some (fileOf pool0 8 #[] #[{ accessFlags := 1, nameIndex := 5, descriptorIndex := 6, attributes := #[] }] 33 0 #[] #[])
  fields := #[]
  methods := #[k0m0]
  instanceTypes := #[]
  staticTypes := #[]
  resolved := Array.replicate 124 none
  statics := none }

def pool1 : Array CpInfo := pool [(2, .class_ 4), (1, u "java/lang/Object"), (0, u "<init>"), (0, u "()V"), (0, .integer 55296), (0, .integer 63744), (0, .integer 64976), (0, .integer 65008), (0, .integer 65534), (0, .integer 65536), (0, .integer 983040), (0, .integer 55295), (0, .integer 64975), (0, .integer 65533), (0, .integer 983039), (0, .integer 2147483647), (0, .methodref 20 21), (0, .class_ 22), (0, .nameAndType 23 24), (0, u "com/example/triplemill/triplemill/rdf/SourceText"), (0, u "isPnCharsBase"), (0, u "(I)Z"), (0, .methodref 26 27), (0, .class_ 28), (0, .nameAndType 29 24), (0, u "com/example/triplemill/triplemill/rdf/SourceTextIsPnCharsBasePinLaw"), (0, u "ref"), (3, u "law"), (0, u "(II)Z")] 4

def k1m0 : Method := { name := "<init>", desc := "()V", sig := { parameters := [], returnType := none }, accessFlags := 2, code := none }
def k1c1 : Code := { maxStack := 2, maxLocals := 1, code := method_2_code, exceptionTable := #[], attributes := #[] }
def k1m1 : Method := { name := "ref", desc := "(I)Z", sig := { parameters := [.int], returnType := some .boolean }, accessFlags := 10, code := some k1c1 }
def k1c2 : Code := { maxStack := 4, maxLocals := 8, code := code, exceptionTable := #[], attributes := #[] }
def k1m2 : Method := { name := "law", desc := "(II)Z", sig := { parameters := [.int, .int], returnType := some .boolean }, accessFlags := 9, code := some k1c2 }
/-- com/example/triplemill/triplemill/rdf/SourceTextIsPnCharsBasePinLaw -/
def k1 : Class := { plain "com/example/triplemill/triplemill/rdf/SourceTextIsPnCharsBasePinLaw" (some 0) with
  accessFlags := 49
  interfaces := #[]
  cf := some (fileOf pool1 26 #[] #[{ accessFlags := 2, nameIndex := 5, descriptorIndex := 6, attributes := #[] }, { accessFlags := 10, nameIndex := 29, descriptorIndex := 24, attributes := #[] }, { accessFlags := 9, nameIndex := 33, descriptorIndex := 34, attributes := #[] }] 49 2 #[] #[])
  fields := #[]
  methods := #[k1m0, k1m1, k1m2]
  instanceTypes := #[]
  staticTypes := #[]
  resolved := Array.replicate 39 none
  statics := none }

def pool2 : Array CpInfo := pool [(1, .class_ 2), (0, u "com/example/triplemill/triplemill/rdf/SourceText"), (1, .class_ 6), (1, u "java/lang/Object"), (9, u "text"), (0, u "Ljava/lang/StringBuilder;"), (2, u "source"), (0, u "Ljava/lang/String;"), (2, u "firstLine"), (0, u "J"), (11, .integer 65533), (57, .class_ 96), (0, u "com/example/triplemill/triplemill/rdf/SourceText$Refill"), (11, u "refill"), (0, u "Lcom/example/triplemill/triplemill/rdf/SourceText$Refill;"), (10, u "firstColumn"), (13, u "pos"), (0, u "I"), (3, u "(I)Z"), (148, .integer 55295), (0, .integer 63744), (0, .integer 64975), (0, .integer 65008), (0, .integer 65536), (0, .integer 983039), (2, u "isPnCharsBase"), (12, u "STREAM_BYTES"), (1, u "WINDOW_ROOM"), (0, u "NOT_UTF8"), (26, .class_ 340), (0, u "com/example/triplemill/triplemill/rdf/SourceText$StreamFailure")] 21

def k2c0 : Code := { maxStack := 2, maxLocals := 1, code := prog_113_method_28_code, exceptionTable := #[], attributes := #[] }
def k2m0 : Method := { name := "isPnCharsBase", desc := "(I)Z", sig := { parameters := [.int], returnType := some .boolean }, accessFlags := 9, code := some k2c0 }
/-- com/example/triplemill/triplemill/rdf/SourceText -/
def k2 : Class := { plain "com/example/triplemill/triplemill/rdf/SourceText" (some 0) with
  accessFlags := 49
  interfaces := #[]
  cf := some (fileOf pool2 1 #[.nestMembers #[95, 339]] #[{ accessFlags := 9, nameIndex := 296, descriptorIndex := 139, attributes := #[] }] 49 4 #[] #[{ accessFlags := 26, nameIndex := 309, descriptorIndex := 135, attributes := #[] }, { accessFlags := 26, nameIndex := 311, descriptorIndex := 135, attributes := #[] }, { accessFlags := 26, nameIndex := 312, descriptorIndex := 21, attributes := #[] }, { accessFlags := 18, nameIndex := 16, descriptorIndex := 17, attributes := #[] }, { accessFlags := 18, nameIndex := 20, descriptorIndex := 21, attributes := #[] }, { accessFlags := 2, nameIndex := 24, descriptorIndex := 25, attributes := #[] }, { accessFlags := 2, nameIndex := 120, descriptorIndex := 25, attributes := #[] }, { accessFlags := 2, nameIndex := 134, descriptorIndex := 135, attributes := #[] }, { accessFlags := 2, nameIndex := 108, descriptorIndex := 109, attributes := #[] }])
  fields := #[{ name := "STREAM_BYTES", type := .int, accessFlags := 26, slot := 0, constantValue := 0 }, { name := "WINDOW_ROOM", type := .int, accessFlags := 26, slot := 1, constantValue := 0 }, { name := "NOT_UTF8", type := (.object "java/lang/String"), accessFlags := 26, slot := 2, constantValue := 0 }, { name := "text", type := (.object "java/lang/StringBuilder"), accessFlags := 18, slot := 0, constantValue := 0 }, { name := "source", type := (.object "java/lang/String"), accessFlags := 18, slot := 1, constantValue := 0 }, { name := "firstLine", type := .long, accessFlags := 2, slot := 2, constantValue := 0 }, { name := "firstColumn", type := .long, accessFlags := 2, slot := 3, constantValue := 0 }, { name := "pos", type := .int, accessFlags := 2, slot := 4, constantValue := 0 }, { name := "refill", type := (.object "com/example/triplemill/triplemill/rdf/SourceText$Refill"), accessFlags := 2, slot := 5, constantValue := 0 }]
  methods := #[k2m0]
  instanceTypes := #[(.object "java/lang/StringBuilder"), (.object "java/lang/String"), .long, .long, .int, (.object "com/example/triplemill/triplemill/rdf/SourceText$Refill")]
  staticTypes := #[.int, .int, (.object "java/lang/String")]
  resolved := Array.replicate 362 none
  statics := none }

def pool3 : Array CpInfo := pool [(1, u "java/lang/Cloneable"), (0, .class_ 1), (0, u "java/lang/Object"), (0, .class_ 3)] 3

/-- java/lang/Cloneable -/
def k3 : Class := { plain "java/lang/Cloneable" (some 0) with
  accessFlags := 1537
  interfaces := #[]
  cf := some (fileOf pool3 2 #[] #[] 1537 4 #[] #[])
  fields := #[]
  methods := #[]
  instanceTypes := #[]
  staticTypes := #[]
  resolved := Array.replicate 8 none
  statics := none }

def pool4 : Array CpInfo := pool [(1, u "java/io/Serializable"), (0, .class_ 1), (0, u "java/lang/Object"), (0, .class_ 3)] 3

/-- java/io/Serializable -/
def k4 : Class := { plain "java/io/Serializable" (some 0) with
  accessFlags := 1537
  interfaces := #[]
  cf := some (fileOf pool4 2 #[] #[] 1537 4 #[] #[])
  fields := #[]
  methods := #[]
  instanceTypes := #[]
  staticTypes := #[]
  resolved := Array.replicate 8 none
  statics := none }

/-- the primitive byte -/
def k5 : Class := { plain "byte" none with kind := .primitive 'B', accessFlags := 0x411 }
/-- [B -/
def k6 : Class := { plain "[B" (some 0) with kind := .array 5 .byte, interfaces := #[3, 4], accessFlags := 1041 }

/-- the primitive int -/
def k7 : Class := { plain "int" none with kind := .primitive 'I', accessFlags := 0x411 }
/-- [I -/
def k8 : Class := { plain "[I" (some 0) with kind := .array 7 .int, interfaces := #[3, 4], accessFlags := 1041 }

def heap : Heap := #[]
def classes : Array Class := #[k0, k1, k2, k3, k4, k5, k6, k7, k8]
def interned : List (Array UInt16 × Addr) := []
def slotsUsed : Nat := 0
def theMethod : MethodId := ⟨1, 2⟩
def args0 : Array Value := #[.int 5, .int 3]
def aboutOver (below : List Frame) : State where
  vm := { classes := classes, interned := interned.toArray }
  heap := heap
  slotsUsed := slotsUsed
  threads := #[{ frames := .invoking theMethod args0 :: below }]
def below0 : List Frame := [.native { method := ⟨0, 0⟩, args := #[] }]
def about1 : State := aboutOver below0
def p0 : Program := .bare "" "" ""
def e0 : Env := launch0.env 0 0 0
theorem w_frames : about1.frames = Frame.invoking theMethod args0 :: below0 := rfl
set_option maxRecDepth 65536 in
theorem w_args : argsFit about1.vm theMethod args0 = true := by decide +kernel
set_option maxRecDepth 65536 in
theorem w_heap : heapFits about1 = true := by decide +kernel
set_option maxRecDepth 65536 in
theorem w_runnable : about1.curStatus? = some .runnable := by decide +kernel
set_option maxRecDepth 65536 in
theorem w_alone : about1.alone = true := by decide +kernel
set_option maxRecDepth 65536 in
theorem w_named : about1.methodNamed? x = some theMethod := by decide +kernel
set_option maxRecDepth 65536 in
theorem w_hears : about1.hears theMethod below0 = true := by decide +kernel
set_option maxRecDepth 65536 in
theorem w_ripe : about1.ripe theMethod args0 below0 = true := by decide +kernel
theorem w_running : about1.status = .running := rfl
set_option maxRecDepth 65536 in
theorem w_room : about1.hasRoom e0.platform room_1 = true :=
  launch0.hasRoom_least _ room_1 (by decide +kernel) (by decide +kernel) (by decide +kernel) (by decide +kernel) (by decide +kernel) (by decide +kernel)
theorem allAtoms_all (ts : List Jvm.Cond) (a : Array Jvm.Value) (st : Jvm.State) : (allAtoms ts).before a st = ts.all (fun c => c.before a st) := by
  induction ts with
  | nil => rfl
  | cons c t ih =>
    show (Jvm.Cond.and c (allAtoms t)).before a st = _
    rw [Jvm.Cond.before_and, ih, List.all_cons]
def words1 : List Jvm.Cond := Jvm.Cond.code x code maxLocals ret :: tables_1
/-- a 'code' word, met by the world's own term for the bytes: nothing is compared byte by byte -/
theorem code_word {y : MethodName} {bytes : ByteArray} {mx : Nat} {rt : Option FieldType} {a : Array Value} {s : State} {m : MethodId} {meth : Method} {c : Code} (h1 : s.methodNamed? y = some m) (h2 : s.vm.method? m = some meth) (h3 : meth.code = some c) (h4 : c.code = bytes)
    (h5 : (c.maxLocals == mx && c.exceptionTable.isEmpty && decide (c.maxStack ≤ mostOperands) && decide (meth.sig.returnType = rt) && !meth.locks && decide (parseMethodDescriptor y.desc = some meth.sig)) = true) : (Jvm.Cond.code y bytes mx rt).before a s = true := by
  simp only [Bool.and_eq_true, beq_iff_eq, Bool.not_eq_true', decide_eq_true_eq] at h5
  obtain ⟨⟨⟨⟨⟨g1, g2⟩, g3⟩, g4⟩, g5⟩, g6⟩ := h5
  simp [Cond.before, Cond.holds, Cond.value, h1, h2, h3, h4, g1, g2, g3, g4, g5, g6]
def isCode : Jvm.Cond → Bool
  | .code _ _ _ _ => true
  | _ => false
theorem all_split {L : List Jvm.Cond} {P : Jvm.Cond → Bool} (h1 : L.all (fun c => isCode c || P c) = true) (h2 : ∀ c ∈ L.filter isCode, P c = true) : L.all P = true := by
  refine List.all_eq_true.mpr fun c hc => ?_
  have h := List.all_eq_true.mp h1 c hc
  rcases Bool.eq_false_or_eq_true (isCode c) with hi | hi
  · exact h2 c (List.mem_filter.mpr ⟨hc, hi⟩)
  · simpa [hi] using h
set_option maxRecDepth 65536 in
theorem w_c0 : (Jvm.Cond.code x code maxLocals ret).before args0 about1 = true := code_word (m := ⟨1, 2⟩) (meth := k1m2) (c := k1c2) (by decide +kernel) rfl rfl rfl (by decide +kernel)
set_option maxRecDepth 65536 in
theorem w_c1 : (Jvm.Cond.code ({ cls := "com/example/triplemill/triplemill/rdf/SourceText", name := "isPnCharsBase", desc := "(I)Z" } : Jvm.MethodName) prog_113_method_28_code (1 : Nat) (Option.some Jvm.ClassFile.FieldType.boolean)).before args0 about1 = true := code_word (m := ⟨2, 0⟩) (meth := k2m0) (c := k2c0) (by decide +kernel) rfl rfl rfl (by decide +kernel)
set_option maxRecDepth 65536 in
theorem w_c2 : (Jvm.Cond.code ({ cls := "com/example/triplemill/triplemill/rdf/SourceTextIsPnCharsBasePinLaw", name := "ref", desc := "(I)Z" } : Jvm.MethodName) method_2_code (1 : Nat) (Option.some Jvm.ClassFile.FieldType.boolean)).before args0 about1 = true := code_word (m := ⟨1, 1⟩) (meth := k1m1) (c := k1c1) (by decide +kernel) rfl rfl rfl (by decide +kernel)
def codes1 : List Jvm.Cond := [Jvm.Cond.code x code maxLocals ret, Jvm.Cond.code ({ cls := "com/example/triplemill/triplemill/rdf/SourceText", name := "isPnCharsBase", desc := "(I)Z" } : Jvm.MethodName) prog_113_method_28_code (1 : Nat) (Option.some Jvm.ClassFile.FieldType.boolean), Jvm.Cond.code ({ cls := "com/example/triplemill/triplemill/rdf/SourceTextIsPnCharsBasePinLaw", name := "ref", desc := "(I)Z" } : Jvm.MethodName) method_2_code (1 : Nat) (Option.some Jvm.ClassFile.FieldType.boolean)]
set_option maxRecDepth 65536 in
theorem codes_eq : words1.filter isCode = codes1 := rfl
theorem w_codes : ∀ c ∈ words1.filter isCode, c.before args0 about1 = true := by
  rw [codes_eq]
  intro c hc
  simp only [codes1, List.mem_cons, List.not_mem_nil, or_false] at hc
  rcases hc with rfl | rfl | rfl
  · exact w_c0
  · exact w_c1
  · exact w_c2
set_option maxRecDepth 65536 in
theorem w_t1 : (words1.take 24).all (fun c => isCode c || c.before args0 about1) = true := by decide +kernel
set_option maxRecDepth 65536 in
theorem w_t2 : (words1.drop 24).all (fun c => isCode c || c.before args0 about1) = true := by decide +kernel
theorem w_tables : (allAtoms (Jvm.Cond.code x code maxLocals ret :: tables_1)).before args0 about1 = true := by
  rw [allAtoms_all]
  show words1.all (fun c => c.before args0 about1) = true
  refine all_split ?_ w_codes
  rw [← List.take_append_drop 24 words1, List.all_append, w_t1, w_t2]
  rfl
set_option maxRecDepth 65536 in
theorem w_case : (Jvm.Cond.and given_1 narrow_1).before args0 about1 = true := by decide +kernel
theorem w_applies : (headSpec (Jvm.Cond.code x code maxLocals ret :: tables_1) room_1).applies x e0.platform about1 = true :=
  (Spec.applies_iff w_frames).mpr ⟨w_running, w_runnable, w_alone, w_named, w_hears, w_ripe, w_room, w_tables⟩
theorem atStart : AtStart classFile x code maxLocals ret World_1 tables_1 room_1 Calls_1 rest_1 Pre_1 launch0 p0 e0 about1 theMethod args0 below0 :=
  ⟨lists_1, trivial, launch0.admits_env _ _ _, launch0.least_env, fairChoices_fair.cas, fairChoices_fair.clock, w_frames, w_args, w_heap, w_applies, trivial, trivial, w_case⟩
end start1
theorem witness_1 : WitnessClaimed_1 := ⟨start1.p0, start1.e0, start1.about1, start1.theMethod, start1.args0, start1.below0, start1.atStart⟩
end Jvm.Pilot.@@N@@
