import JvmDerived
import JvmDerived.Pilot.@@N@@Statement
import JvmDerived.Pilot.@@N@@Code
set_option linter.unusedVariables false
set_option linter.unusedSimpArgs false
namespace Jvm.Pilot.@@N@@
open Jvm Jvm.ClassFile Sem Op Lib Jvm.Free Jvm.Stand Jvm.LawKit Jvm.RoadKit Bundle Jvm.Pilot.@@N@@.Jvm.D
section OwnKit
def own_Go (tb : Tables) (e : Env) (below : List Frame) (P : State → Outcome → Prop) (S : State) : Prop := ∃ s₂ o, Steps tb e below S s₂ ∧ s₂.status = .running ∧ Ended s₂ below o ∧ P s₂ o
theorem own_Go.st {tb : Tables} {e : Env} {below : List Frame} {P : State → Outcome → Prop} {S S' : State} (g : own_Go tb e below P S') (h : ∀ t, Steps tb e below S' t → Steps tb e below S t) : own_Go tb e below P S := by
  obtain ⟨s₂, o, h1, h2⟩ := g; exact ⟨s₂, o, h _ h1, h2⟩
/-- the heap: all that stood at the start stands; the listed new cells, all different, are as their predicates say -/
def own_H (h0 h : Heap) (L : List (Addr × (Cell → Prop))) : Prop := Ext h0 h ∧ (∀ q ∈ L, h0.size ≤ q.1 ∧ ∃ c, h[q.1]? = some c ∧ q.2 c) ∧ (L.map (·.1)).Nodup
def own_ex (Z : State) (C : String) (c : Cell) : Prop := ∃ k : Class, Z.vm.findClass C = some c.cls ∧ Z.vm.classes[c.cls]? = some k ∧ c.vm.isStatics = false ∧ (k.kind = .ordinary → c.slots.size = k.instanceTypes.size)
def own_fd (Z : State) (C n d : String) (v : Value) (c : Cell) : Prop := ∃ (cf : ClassId) (k : Class) (i : Nat) (f : Field), Z.fieldFound? C n d = some (cf, k, i, f) ∧ f.isStatic = false ∧ c.vm ≠ .unknown ∧ c.vm.isStatics = false ∧ Z.vm.assignable c.cls cf = true ∧ c.slots[f.slot]? = some v
def own_ob (Z : State) (C : String) (fs : List (String × String × Value)) (c : Cell) : Prop := own_ex Z C c ∧ ∀ q ∈ fs, own_fd Z C q.1 q.2.1 q.2.2 c
def own_ar (Z : State) (ty : FieldType) (vs : List Value) (c : Cell) : Prop := Z.isArrayOf c ty ∧ c.vm ≠ .unknown ∧ c.slots.toList = vs ∧ own_ex Z ("[" ++ ty.toString) c
def own_lay (Z : State) (a0 : Array Value) (C : String) : List (String × String × FieldType) → Prop
  | [] => True
  | q :: r => (Laid Z a0 C C q.1 q.2.1 ∧ parseFieldDescriptor q.2.1 = some q.2.2) ∧ own_lay Z a0 C r
theorem own_lay.mem {Z : State} {a0 : Array Value} {C : String} : ∀ {N : List (String × String × FieldType)}, own_lay Z a0 C N → ∀ q ∈ N, Laid Z a0 C C q.1 q.2.1 ∧ parseFieldDescriptor q.2.1 = some q.2.2
  | [], _, _, h => nomatch h
  | _ :: _, ⟨h1, h2⟩, q, h => (List.mem_cons.mp h).elim (fun e => e ▸ h1) (own_lay.mem h2 q)
def own_S (p : Program) (l : Launch) (e : Env) (R : Room) (s : State) (m : MethodId) (args : Array Value) (below : List Frame) (meth : Method) (c : Code) (Z T : State) (L : List (Addr × (Cell → Prop))) (k n : Nat) : Prop :=
  ∃ locs, Stand p l e R s m args below meth c T locs k n ∧ Fr Z.heap.size locs ∧ own_H Z.heap T.heap L
def own_C (p : Program) (s : State) (m : MethodId) (meth : Method) (c : Code) (Z : State) (own nm : String) (code : ByteArray) (ml : Nat) (rt : Option FieldType) : Prop :=
  p.tables.exec = Jvm.exec ∧ c.code = code ∧ c.maxLocals = ml ∧ Z.Warmed39 s.vm ∧ s.vm.findClass own = some m.cls ∧ meth.name = nm ∧ meth.sig.returnType = rt ∧ meth.locks = false
def own_E (Z s : State) (R : Room) (Q : Option Value → List (Addr × (Cell → Prop)) → Prop) (t : State) (o : Outcome) : Prop :=
  ∃ v L locs, o = .returned v ∧ Q v L ∧ own_H Z.heap t.heap L ∧ Fr Z.heap.size locs ∧ FrameEnd s o t locs R.cells R.slots
def own_Con (l : Launch) (Z : State) (y : MethodName) (bytes : ByteArray) (maxL : Nat) (ret : Option FieldType) (rm : Room) (as' : Array Value) (L : List (Addr × (Cell → Prop))) (Q : Option Value → List (Addr × (Cell → Prop)) → Prop) : Prop :=
  ∀ ws, MetFree l y (head1 (Jvm.Cond.code y bytes maxL ret :: ws) rm) (fun a U => a = as' ∧ Z.Warmed39 U.vm ∧ own_H Z.heap U.heap L) (fun _ _ _ _ _ => True) (fun _ U o U' => own_E Z U rm Q U' o)
/-! the heap's list -/
section Heaps
variable {h0 h h' : Heap} {L : List (Addr × (Cell → Prop))} {a : Addr} {Pq Pq' : Cell → Prop} {i : Nat}
theorem own_H.get (H : own_H h0 h L) (hi : L[i]? = some (a, Pq)) : h0.size ≤ a ∧ ∃ c, h[a]? = some c ∧ Pq c := H.2.1 _ (List.mem_of_getElem? hi)
theorem own_H.lt (H : own_H h0 h L) : ∀ q ∈ L, q.1 < h.size := fun q hq => by
  obtain ⟨-, c, h1, -⟩ := H.2.1 q hq; exact (Array.getElem?_eq_some_iff.mp h1).1
theorem own_H.push (H : own_H h0 h L) (E : Ext h h') {c : Cell} (hc : h'[h.size]? = some c) (hP : Pq c) : own_H h0 h' ((h.size, Pq) :: L) := by
  refine ⟨⟨Nat.le_trans H.1.1 E.1, fun a c q => E.2 a c (H.1.2 a c q)⟩, fun q hq => ?_, ?_⟩
  · rcases List.mem_cons.mp hq with rfl | hq
    · exact ⟨H.1.1, c, hc, hP⟩
    · obtain ⟨h1, c', h2, h3⟩ := H.2.1 q hq; exact ⟨h1, c', E.2 _ _ h2, h3⟩
  · rw [List.map_cons, List.nodup_cons]
    refine ⟨fun hm => ?_, H.2.2⟩
    obtain ⟨q, hq, e⟩ := List.mem_map.mp hm
    exact absurd (H.lt q hq) (by rw [show q.1 = h.size from e]; exact Nat.lt_irrefl _)
theorem own_setmem {α : Type} : ∀ {L : List α} {i : Nat} {x q : α}, q ∈ L.set i x → q = x ∨ ∃ j, j ≠ i ∧ L[j]? = some q
  | [], _, _, _, h => nomatch h
  | y :: L, 0, x, q, h => by
    rcases List.mem_cons.mp h with rfl | h
    · exact Or.inl rfl
    · obtain ⟨j, hj⟩ := List.mem_iff_getElem?.mp h
      exact Or.inr ⟨j + 1, by omega, hj⟩
  | y :: L, i + 1, x, q, h => by
    rcases List.mem_cons.mp h with rfl | h
    · exact Or.inr ⟨0, by omega, rfl⟩
    · rcases own_setmem h with e | ⟨j, hj, e⟩
      · exact Or.inl e
      · exact Or.inr ⟨j + 1, by omega, e⟩
theorem own_nodup_ne {α : Type} {L : List α} (h : L.Nodup) {i j : Nat} {x y : α} (hi : L[i]? = some x) (hj : L[j]? = some y) (hn : i ≠ j) : x ≠ y := fun e => by
  subst e
  obtain ⟨hi1, hi2⟩ := List.getElem?_eq_some_iff.mp hi
  obtain ⟨hj1, hj2⟩ := List.getElem?_eq_some_iff.mp hj
  have hp := List.pairwise_iff_getElem.mp h
  rcases Nat.lt_or_gt_of_ne hn with q | q
  · exact hp i j hi1 hj1 q (hi2.trans hj2.symm)
  · exact hp j i hj1 hi1 q (hj2.trans hi2.symm)
theorem own_setself {α : Type} {L : List α} {i : Nat} {x : α} (h : L[i]? = some x) : L.set i x = L := by
  obtain ⟨h1, h2⟩ := List.getElem?_eq_some_iff.mp h
  rw [← h2]; exact List.set_getElem_self h1
theorem own_erase {α : Type} : ∀ (L : List α) (i : Nat) (x : α), L[i]? = some x → L.Perm (x :: L.eraseIdx i)
  | [], i, x, h => by simp at h
  | y :: L, 0, x, h => by simp at h; subst h; exact List.Perm.refl _
  | y :: L, i + 1, x, h => by
    have q := own_erase L i x (by simpa using h)
    exact (q.cons y).trans (List.Perm.swap x y _)
theorem own_H.set (H : own_H h0 h L) (hi : L[i]? = some (a, Pq)) {sl : Nat} {v : Value} (W : Wr h h' a sl v) (hP : ∀ c : Cell, Pq c → sl < c.slots.size → Pq' (c.setSlot sl v)) : own_H h0 h' (L.set i (a, Pq')) := by
  have hE : Ext h0 h' := by
    refine ⟨by rw [W.size]; exact H.1.1, fun b cb hb => ?_⟩
    obtain ⟨cb', h1, -, -, -, h2, -⟩ := wr_at W (H.1.2 b cb hb)
    have : b ≠ a := by
      have q1 := (Array.getElem?_eq_some_iff.mp hb).1
      have q2 := (H.get hi).1
      intro e; rw [e] at q1; exact absurd q1 (Nat.not_lt.mpr q2)
    rw [h2 this] at h1; exact h1
  refine ⟨hE, fun q hq => ?_, ?_⟩
  · rcases own_setmem hq with rfl | ⟨j, hj, e⟩
    · obtain ⟨h1, c, h2, h3⟩ := H.get hi
      obtain ⟨cb', g1, -, -, -, -, -, g2⟩ := wr_at W h2
      obtain ⟨g3, -, -⟩ := g2 rfl
      subst g3
      refine ⟨h1, _, g1, hP c h3 ?_⟩
      obtain ⟨cc, w1, -, w3, -⟩ := W
      rw [h2] at w1; cases w1; exact w3
    · obtain ⟨h1, c, h2, h3⟩ := H.2.1 q (List.mem_of_getElem? e)
      obtain ⟨cb', g1, -, -, -, g2, -⟩ := wr_at W h2
      have hne : q.1 ≠ a := own_nodup_ne (L := L.map (·.1)) H.2.2 (i := j) (j := i) (by rw [List.getElem?_map, e]; rfl) (by rw [List.getElem?_map, hi]; rfl) hj
      rw [g2 hne] at g1
      exact ⟨h1, c, g1, h3⟩
  · have : (L.set i (a, Pq')).map (·.1) = L.map (·.1) := by
      rw [List.map_set]
      have : (L.map (·.1))[i]? = some a := by rw [List.getElem?_map, hi]; rfl
      exact own_setself this
    rw [this]; exact H.2.2
theorem own_H.sub {M : List (Addr × (Cell → Prop))} (H : own_H h0 h L) (hs : M.Sublist L) : own_H h0 h M :=
  ⟨H.1, fun q hq => H.2.1 q (hs.subset hq), H.2.2.sublist (hs.map _)⟩
theorem own_H.perm {M : List (Addr × (Cell → Prop))} (H : own_H h0 h L) (hs : L.Perm M) : own_H h0 h M :=
  ⟨H.1, fun q hq => H.2.1 q (hs.mem_iff.mpr hq), (hs.map _).nodup_iff.mp H.2.2⟩
theorem own_H.bring (H : own_H h0 h L) (hi : L[i]? = some (a, Pq)) : own_H h0 h ((a, Pq) :: L.eraseIdx i) := by
  exact H.perm (own_erase L i _ hi)
theorem own_H.imp (H : own_H h0 h L) (hi : L[i]? = some (a, Pq)) (hP : ∀ c, Pq c → Pq' c) : own_H h0 h (L.set i (a, Pq')) := by
  refine ⟨H.1, fun q hq => ?_, ?_⟩
  · rcases own_setmem hq with rfl | ⟨j, hj, e⟩
    · obtain ⟨h1, c, h2, h3⟩ := H.get hi; exact ⟨h1, c, h2, hP c h3⟩
    · exact H.2.1 q (List.mem_of_getElem? e)
  · have : (L.set i (a, Pq')).map (·.1) = L.map (·.1) := by
      rw [List.map_set]
      have : (L.map (·.1))[i]? = some a := by rw [List.getElem?_map, hi]; rfl
      exact own_setself this
    rw [this]; exact H.2.2
theorem own_H.ne (H : own_H h0 h L) {j : Nat} {b : Addr} {Pb : Cell → Prop} (hi : L[i]? = some (a, Pq)) (hj : L[j]? = some (b, Pb)) (hn : i ≠ j) : a ≠ b :=
  own_nodup_ne (L := L.map (·.1)) H.2.2 (i := i) (j := j) (by rw [List.getElem?_map, hi]; rfl) (by rw [List.getElem?_map, hj]; rfl) hn
theorem own_ex.exa {Z : State} {C : String} {c : Cell} (hc : h[a]? = some c) (E : own_ex Z C c) : Exa Z h a C := by obtain ⟨k, r⟩ := E; exact ⟨c, k, hc, r⟩
theorem own_ex.of {Z : State} {C : String} (E : Exa Z h a C) {c : Cell} (hc : h[a]? = some c) : own_ex Z C c := by obtain ⟨c', k, h1, r⟩ := E; cases h1.symm.trans hc; exact ⟨k, r⟩
theorem own_fd.fld {Z : State} {C n d : String} {v : Value} {c : Cell} (hc : h[a]? = some c) (E : own_fd Z C n d v c) : Fld Z h a C n d v := by obtain ⟨cf, k, i, f, r⟩ := E; exact ⟨c, cf, k, i, f, hc, r⟩
theorem own_fd.of {Z : State} {C n d : String} {v : Value} {c : Cell} (hc : h[a]? = some c) (E : Fld Z h a C n d v) : own_fd Z C n d v c := by obtain ⟨c', cf, k, i, f, h1, r⟩ := E; cases h1.symm.trans hc; exact ⟨cf, k, i, f, r⟩
theorem own_fL {Z : State} {ix j : Nat} {K f d : String} {v : Value} {fs : List (String × String × Value)} (hi : L[ix]? = some (a, own_ob Z K fs)) (hj : fs[j]? = some (f, d, v)) (H : own_H h0 h L) : Fld Z h a K f d v := by
  obtain ⟨-, cc, h1, h2⟩ := H.get hi
  exact (h2.2 _ (List.mem_of_getElem? hj)).fld h1
theorem own_fO {Z : State} {K f d : String} {v : Value} (F : Fld Z h0 a K f d v) (H : own_H h0 h L) : Fld Z h a K f d v := F.ext H.1
theorem own_eL {Z : State} {ix : Nat} {K : String} {fs : List (String × String × Value)} (hi : L[ix]? = some (a, own_ob Z K fs)) (H : own_H h0 h L) : Exa Z h a K := by
  obtain ⟨-, cc, h1, h2⟩ := H.get hi
  exact h2.1.exa h1
theorem own_eO {Z : State} {K : String} (F : Exa Z h0 a K) (H : own_H h0 h L) : Exa Z h a K := F.ext H.1
theorem own_ar.arr {Z : State} {ty : FieldType} {vs : List Value} {c : Cell} (hc : h[a]? = some c) (E : own_ar Z ty vs c) : Arr Z h a c ty := ⟨hc, E.1, E.2.1⟩
end Heaps

variable {p : Program} {l : Launch} {e : Env} {R : Room} {s : State} {m : MethodId} {args : Array Value} {below : List Frame} {meth : Method} {c : Code} {Z T : State} {L : List (Addr × (Cell → Prop))} {k n : Nat} {own nm : String} {code : ByteArray} {ml : Nat} {rt : Option FieldType} {P : State → Outcome → Prop} {pc npc tpc : Nat} {ls : Array Slot} {st : List Value} {a0 : Array Value}
theorem own_S.stand (X : own_S p l e R s m args below meth c Z T L k n) : ∃ locs, Stand p l e R s m args below meth c T locs k n := by obtain ⟨locs, X, -⟩ := X; exact ⟨locs, X⟩
theorem own_S.heap (X : own_S p l e R s m args below meth c Z T L k n) : own_H Z.heap T.heap L := by obtain ⟨_, _, _, h⟩ := X; exact h
theorem own_S.more (X : own_S p l e R s m args below meth c Z T L k n) {k' n' : Nat} (hk : k ≤ k') (hn : n ≤ n') : own_S p l e R s m args below meth c Z T L k' n' := by obtain ⟨locs, X, h⟩ := X; exact ⟨locs, X.more hk hn, h⟩
theorem own_S.re (X : own_S p l e R s m args below meth c Z T L k n) {M : List (Addr × (Cell → Prop))} (h : own_H Z.heap T.heap L → own_H Z.heap T.heap M) : own_S p l e R s m args below meth c Z T M k n := by obtain ⟨locs, X, h1, h2⟩ := X; exact ⟨locs, X, h1, h h2⟩
theorem own_S.bring (X : own_S p l e R s m args below meth c Z T L k n) {i : Nat} {a : Addr} {Pq : Cell → Prop} (hi : L[i]? = some (a, Pq)) {M : List (Addr × (Cell → Prop))} (hM : (a, Pq) :: L.eraseIdx i = M) : own_S p l e R s m args below meth c Z T M k n := by subst hM; exact X.re fun H => H.bring hi

theorem own_swap3 {a1 a2 a3 b1 b2 b3 : Addr × (Cell → Prop)} (X : own_S p l e R s m args below meth c Z T (a1 :: a2 :: a3 :: b1 :: b2 :: b3 :: L) k n) : own_S p l e R s m args below meth c Z T (b1 :: b2 :: b3 :: a1 :: a2 :: a3 :: L) k n :=
  X.re fun H => H.perm ((List.perm_append_comm (l₁ := [a1, a2, a3]) (l₂ := [b1, b2, b3])).append_right L)

theorem own_con {y : MethodName} {bytes : ByteArray} {maxL : Nat} {ret : Option FieldType} {rm : Room} {as' : Array Value} {Q : Option Value → List (Addr × (Cell → Prop)) → Prop} (hx : plainFor y = true) (hent : ∀ m, entryFrame m as' maxL = mkF m 0 ls [])
    (body : ∀ p e s m below meth c T, own_C p s m meth c Z y.cls y.name bytes maxL ret → own_S p l e rm s m as' below meth c Z T L 0 0 → own_Go p.tables e below (own_E Z s rm Q) (T.setTop (mkF m 0 ls []))) : own_Con l Z y bytes maxL ret rm as' L Q := by
  intro ws
  refine MetFree.of_bodySF hx hisR ?_
  intro p e s m args below meth c s₁ Bd hml hP hK
  obtain ⟨rfl, hZ, hH⟩ := hP
  have hnm := (name_of_methodNamed Bd.named Bd.method).1
  have X0 : Stand p l e rm s m args below meth c s₁ [] 0 0 := Stand.of_body Bd
  have q := body p e s m below meth c s₁ ⟨Bd.exec, Bd.bytes, hml, hZ, findClass_of_methodNamed Bd.named, hnm, Bd.returns, Bd.notSynchronized⟩ ⟨[], X0, Fr.nil _, by rw [Bd.state]; exact hH⟩
  rw [← hent] at q
  exact q

theorem k_iadd (C : own_C p s m meth c Z own nm code ml rt) (X : own_S p l e R s m args below meth c Z T L k n) {x y : Int32} (hd : decode code pc = .ok (.iadd, 1)) (hp : pc + 1 = npc) (g : own_Go p.tables e below P (T.setTop (mkF m npc ls (.int (x + y) :: st)))) : own_Go p.tables e below P (T.setTop (mkF m pc ls (.int y :: .int x :: st))) := by
  subst hp; obtain ⟨_, X, -, -⟩ := X
  exact g.st fun t k => Jvm.Free.XS.iadd X.here C.1 rfl (hb C.2.1 hd) rfl k
theorem k_isub (C : own_C p s m meth c Z own nm code ml rt) (X : own_S p l e R s m args below meth c Z T L k n) {x y : Int32} (hd : decode code pc = .ok (.isub, 1)) (hp : pc + 1 = npc) (g : own_Go p.tables e below P (T.setTop (mkF m npc ls (.int (x - y) :: st)))) : own_Go p.tables e below P (T.setTop (mkF m pc ls (.int y :: .int x :: st))) := by
  subst hp; obtain ⟨_, X, -, -⟩ := X
  exact g.st fun t k => Jvm.Free.XS.isub X.here C.1 rfl (hb C.2.1 hd) rfl k
theorem k_imul (C : own_C p s m meth c Z own nm code ml rt) (X : own_S p l e R s m args below meth c Z T L k n) {x y : Int32} (hd : decode code pc = .ok (.imul, 1)) (hp : pc + 1 = npc) (g : own_Go p.tables e below P (T.setTop (mkF m npc ls (.int (x * y) :: st)))) : own_Go p.tables e below P (T.setTop (mkF m pc ls (.int y :: .int x :: st))) := by
  subst hp; obtain ⟨_, X, -, -⟩ := X
  exact g.st fun t k => Jvm.Free.XS.imul X.here C.1 rfl (hb C.2.1 hd) rfl k
theorem k_iand (C : own_C p s m meth c Z own nm code ml rt) (X : own_S p l e R s m args below meth c Z T L k n) {x y : Int32} (hd : decode code pc = .ok (.iand, 1)) (hp : pc + 1 = npc) (g : own_Go p.tables e below P (T.setTop (mkF m npc ls (.int (x &&& y) :: st)))) : own_Go p.tables e below P (T.setTop (mkF m pc ls (.int y :: .int x :: st))) := by
  subst hp; obtain ⟨_, X, -, -⟩ := X
  exact g.st fun t k => Jvm.Free.XS.iand X.here C.1 rfl (hb C.2.1 hd) rfl k
theorem k_ior (C : own_C p s m meth c Z own nm code ml rt) (X : own_S p l e R s m args below meth c Z T L k n) {x y : Int32} (hd : decode code pc = .ok (.ior, 1)) (hp : pc + 1 = npc) (g : own_Go p.tables e below P (T.setTop (mkF m npc ls (.int (x ||| y) :: st)))) : own_Go p.tables e below P (T.setTop (mkF m pc ls (.int y :: .int x :: st))) := by
  subst hp; obtain ⟨_, X, -, -⟩ := X
  exact g.st fun t k => Jvm.Free.XT.ior X.here C.1 rfl (hb C.2.1 hd) rfl k
theorem k_ixor (C : own_C p s m meth c Z own nm code ml rt) (X : own_S p l e R s m args below meth c Z T L k n) {x y : Int32} (hd : decode code pc = .ok (.ixor, 1)) (hp : pc + 1 = npc) (g : own_Go p.tables e below P (T.setTop (mkF m npc ls (.int (x ^^^ y) :: st)))) : own_Go p.tables e below P (T.setTop (mkF m pc ls (.int y :: .int x :: st))) := by
  subst hp; obtain ⟨_, X, -, -⟩ := X
  exact g.st fun t k => Jvm.Free.XT.ixor X.here C.1 rfl (hb C.2.1 hd) rfl k
theorem k_ishl (C : own_C p s m meth c Z own nm code ml rt) (X : own_S p l e R s m args below meth c Z T L k n) {x y : Int32} (hd : decode code pc = .ok (.ishl, 1)) (hp : pc + 1 = npc) (g : own_Go p.tables e below P (T.setTop (mkF m npc ls (.int (x <<< (y &&& 31)) :: st)))) : own_Go p.tables e below P (T.setTop (mkF m pc ls (.int y :: .int x :: st))) := by
  subst hp; obtain ⟨_, X, -, -⟩ := X
  exact g.st fun t k => Jvm.Free.XT.ishl X.here C.1 rfl (hb C.2.1 hd) rfl k
theorem k_ishr (C : own_C p s m meth c Z own nm code ml rt) (X : own_S p l e R s m args below meth c Z T L k n) {x y : Int32} (hd : decode code pc = .ok (.ishr, 1)) (hp : pc + 1 = npc) (g : own_Go p.tables e below P (T.setTop (mkF m npc ls (.int (x >>> (y &&& 31)) :: st)))) : own_Go p.tables e below P (T.setTop (mkF m pc ls (.int y :: .int x :: st))) := by
  subst hp; obtain ⟨_, X, -, -⟩ := X
  exact g.st fun t k => Jvm.Free.XT.ishr X.here C.1 rfl (hb C.2.1 hd) rfl k
theorem k_iushr (C : own_C p s m meth c Z own nm code ml rt) (X : own_S p l e R s m args below meth c Z T L k n) {x y : Int32} (hd : decode code pc = .ok (.iushr, 1)) (hp : pc + 1 = npc) (g : own_Go p.tables e below P (T.setTop (mkF m npc ls (.int (Jvm.Free.XT.ushr x y) :: st)))) : own_Go p.tables e below P (T.setTop (mkF m pc ls (.int y :: .int x :: st))) := by
  subst hp; obtain ⟨_, X, -, -⟩ := X
  exact g.st fun t k => Jvm.Free.XT.iushr X.here C.1 rfl (hb C.2.1 hd) rfl k
theorem k_ladd (C : own_C p s m meth c Z own nm code ml rt) (X : own_S p l e R s m args below meth c Z T L k n) {x y : Int64} (hd : decode code pc = .ok (.ladd, 1)) (hp : pc + 1 = npc) (g : own_Go p.tables e below P (T.setTop (mkF m npc ls (.long (x + y) :: st)))) : own_Go p.tables e below P (T.setTop (mkF m pc ls (.long y :: .long x :: st))) := by
  subst hp; obtain ⟨_, X, -, -⟩ := X
  exact g.st fun t k => Jvm.Free.XT.ladd X.here C.1 rfl (hb C.2.1 hd) rfl k
theorem k_lsub (C : own_C p s m meth c Z own nm code ml rt) (X : own_S p l e R s m args below meth c Z T L k n) {x y : Int64} (hd : decode code pc = .ok (.lsub, 1)) (hp : pc + 1 = npc) (g : own_Go p.tables e below P (T.setTop (mkF m npc ls (.long (x - y) :: st)))) : own_Go p.tables e below P (T.setTop (mkF m pc ls (.long y :: .long x :: st))) := by
  subst hp; obtain ⟨_, X, -, -⟩ := X
  exact g.st fun t k => Jvm.Free.XT.lsub X.here C.1 rfl (hb C.2.1 hd) rfl k
theorem k_lmul (C : own_C p s m meth c Z own nm code ml rt) (X : own_S p l e R s m args below meth c Z T L k n) {x y : Int64} (hd : decode code pc = .ok (.lmul, 1)) (hp : pc + 1 = npc) (g : own_Go p.tables e below P (T.setTop (mkF m npc ls (.long (x * y) :: st)))) : own_Go p.tables e below P (T.setTop (mkF m pc ls (.long y :: .long x :: st))) := by
  subst hp; obtain ⟨_, X, -, -⟩ := X
  exact g.st fun t k => Jvm.Free.XT.lmul X.here C.1 rfl (hb C.2.1 hd) rfl k
theorem k_land (C : own_C p s m meth c Z own nm code ml rt) (X : own_S p l e R s m args below meth c Z T L k n) {x y : Int64} (hd : decode code pc = .ok (.land, 1)) (hp : pc + 1 = npc) (g : own_Go p.tables e below P (T.setTop (mkF m npc ls (.long (x &&& y) :: st)))) : own_Go p.tables e below P (T.setTop (mkF m pc ls (.long y :: .long x :: st))) := by
  subst hp; obtain ⟨_, X, -, -⟩ := X
  exact g.st fun t k => Jvm.Free.XT.land X.here C.1 rfl (hb C.2.1 hd) rfl k
theorem k_lor (C : own_C p s m meth c Z own nm code ml rt) (X : own_S p l e R s m args below meth c Z T L k n) {x y : Int64} (hd : decode code pc = .ok (.lor, 1)) (hp : pc + 1 = npc) (g : own_Go p.tables e below P (T.setTop (mkF m npc ls (.long (x ||| y) :: st)))) : own_Go p.tables e below P (T.setTop (mkF m pc ls (.long y :: .long x :: st))) := by
  subst hp; obtain ⟨_, X, -, -⟩ := X
  exact g.st fun t k => Jvm.Free.XT.lor X.here C.1 rfl (hb C.2.1 hd) rfl k
theorem k_lxor (C : own_C p s m meth c Z own nm code ml rt) (X : own_S p l e R s m args below meth c Z T L k n) {x y : Int64} (hd : decode code pc = .ok (.lxor, 1)) (hp : pc + 1 = npc) (g : own_Go p.tables e below P (T.setTop (mkF m npc ls (.long (x ^^^ y) :: st)))) : own_Go p.tables e below P (T.setTop (mkF m pc ls (.long y :: .long x :: st))) := by
  subst hp; obtain ⟨_, X, -, -⟩ := X
  exact g.st fun t k => Jvm.Free.XT.lxor X.here C.1 rfl (hb C.2.1 hd) rfl k
theorem k_lshl (C : own_C p s m meth c Z own nm code ml rt) (X : own_S p l e R s m args below meth c Z T L k n) {x : Int64} {y : Int32} (hd : decode code pc = .ok (.lshl, 1)) (hp : pc + 1 = npc) (g : own_Go p.tables e below P (T.setTop (mkF m npc ls (.long (x <<< (y.toInt64 &&& 63)) :: st)))) : own_Go p.tables e below P (T.setTop (mkF m pc ls (.int y :: .long x :: st))) := by
  subst hp; obtain ⟨_, X, -, -⟩ := X
  exact g.st fun t k => Jvm.Free.XT.lshl X.here C.1 rfl (hb C.2.1 hd) rfl k
theorem k_lshr (C : own_C p s m meth c Z own nm code ml rt) (X : own_S p l e R s m args below meth c Z T L k n) {x : Int64} {y : Int32} (hd : decode code pc = .ok (.lshr, 1)) (hp : pc + 1 = npc) (g : own_Go p.tables e below P (T.setTop (mkF m npc ls (.long (x >>> (y.toInt64 &&& 63)) :: st)))) : own_Go p.tables e below P (T.setTop (mkF m pc ls (.int y :: .long x :: st))) := by
  subst hp; obtain ⟨_, X, -, -⟩ := X
  exact g.st fun t k => Jvm.Free.XT.lshr X.here C.1 rfl (hb C.2.1 hd) rfl k
theorem k_lushr (C : own_C p s m meth c Z own nm code ml rt) (X : own_S p l e R s m args below meth c Z T L k n) {x : Int64} {y : Int32} (hd : decode code pc = .ok (.lushr, 1)) (hp : pc + 1 = npc) (g : own_Go p.tables e below P (T.setTop (mkF m npc ls (.long (Jvm.Free.XT.ushrL x y) :: st)))) : own_Go p.tables e below P (T.setTop (mkF m pc ls (.int y :: .long x :: st))) := by
  subst hp; obtain ⟨_, X, -, -⟩ := X
  exact g.st fun t k => Jvm.Free.XT.lushr X.here C.1 rfl (hb C.2.1 hd) rfl k
theorem k_idiv (C : own_C p s m meth c Z own nm code ml rt) (X : own_S p l e R s m args below meth c Z T L k n) {x y : Int32} (hd : decode code pc = .ok (.idiv, 1)) (hp : pc + 1 = npc) (hy : y ≠ 0) (g : own_Go p.tables e below P (T.setTop (mkF m npc ls (.int (x / y) :: st)))) : own_Go p.tables e below P (T.setTop (mkF m pc ls (.int y :: .int x :: st))) := by
  subst hp; obtain ⟨_, X, -, -⟩ := X
  exact g.st fun t k => Jvm.Free.XS.idiv X.here C.1 rfl (hb C.2.1 hd) rfl hy k
theorem k_irem (C : own_C p s m meth c Z own nm code ml rt) (X : own_S p l e R s m args below meth c Z T L k n) {x y : Int32} (hd : decode code pc = .ok (.irem, 1)) (hp : pc + 1 = npc) (hy : y ≠ 0) (g : own_Go p.tables e below P (T.setTop (mkF m npc ls (.int (x % y) :: st)))) : own_Go p.tables e below P (T.setTop (mkF m pc ls (.int y :: .int x :: st))) := by
  subst hp; obtain ⟨_, X, -, -⟩ := X
  exact g.st fun t k => iremM X C.1 rfl (hb C.2.1 hd) rfl hy k
theorem k_ldiv (C : own_C p s m meth c Z own nm code ml rt) (X : own_S p l e R s m args below meth c Z T L k n) {x y : Int64} (hd : decode code pc = .ok (.ldiv, 1)) (hp : pc + 1 = npc) (hy : y ≠ 0) (g : own_Go p.tables e below P (T.setTop (mkF m npc ls (.long (x / y) :: st)))) : own_Go p.tables e below P (T.setTop (mkF m pc ls (.long y :: .long x :: st))) := by
  subst hp; obtain ⟨_, X, -, -⟩ := X
  exact g.st fun t k => Jvm.Free.XT.ldiv X.here C.1 rfl (hb C.2.1 hd) rfl hy k
theorem k_lrem (C : own_C p s m meth c Z own nm code ml rt) (X : own_S p l e R s m args below meth c Z T L k n) {x y : Int64} (hd : decode code pc = .ok (.lrem, 1)) (hp : pc + 1 = npc) (hy : y ≠ 0) (g : own_Go p.tables e below P (T.setTop (mkF m npc ls (.long (x - (x / y) * y) :: st)))) : own_Go p.tables e below P (T.setTop (mkF m pc ls (.long y :: .long x :: st))) := by
  subst hp; obtain ⟨_, X, -, -⟩ := X
  exact g.st fun t k => Jvm.Free.XT.lrem X.here C.1 rfl (hb C.2.1 hd) rfl hy k
theorem k_ineg (C : own_C p s m meth c Z own nm code ml rt) (X : own_S p l e R s m args below meth c Z T L k n) {x : Int32} (hd : decode code pc = .ok (.ineg, 1)) (hp : pc + 1 = npc) (g : own_Go p.tables e below P (T.setTop (mkF m npc ls (.int (-x) :: st)))) : own_Go p.tables e below P (T.setTop (mkF m pc ls (.int x :: st))) := by
  subst hp; obtain ⟨_, X, -, -⟩ := X
  exact g.st fun t k => Jvm.Free.XS.ineg X.here C.1 rfl (hb C.2.1 hd) rfl k
theorem k_lneg (C : own_C p s m meth c Z own nm code ml rt) (X : own_S p l e R s m args below meth c Z T L k n) {x : Int64} (hd : decode code pc = .ok (.lneg, 1)) (hp : pc + 1 = npc) (g : own_Go p.tables e below P (T.setTop (mkF m npc ls (.long (-x) :: st)))) : own_Go p.tables e below P (T.setTop (mkF m pc ls (.long x :: st))) := by
  subst hp; obtain ⟨_, X, -, -⟩ := X
  exact g.st fun t k => Jvm.Free.XT.lneg X.here C.1 rfl (hb C.2.1 hd) rfl k
theorem k_i2l (C : own_C p s m meth c Z own nm code ml rt) (X : own_S p l e R s m args below meth c Z T L k n) {x : Int32} (hd : decode code pc = .ok (.i2l, 1)) (hp : pc + 1 = npc) (g : own_Go p.tables e below P (T.setTop (mkF m npc ls (.long x.toInt64 :: st)))) : own_Go p.tables e below P (T.setTop (mkF m pc ls (.int x :: st))) := by
  subst hp; obtain ⟨_, X, -, -⟩ := X
  exact g.st fun t k => Jvm.Free.XT.i2l X.here C.1 rfl (hb C.2.1 hd) rfl k
theorem k_l2i (C : own_C p s m meth c Z own nm code ml rt) (X : own_S p l e R s m args below meth c Z T L k n) {x : Int64} (hd : decode code pc = .ok (.l2i, 1)) (hp : pc + 1 = npc) (g : own_Go p.tables e below P (T.setTop (mkF m npc ls (.int x.toInt32 :: st)))) : own_Go p.tables e below P (T.setTop (mkF m pc ls (.long x :: st))) := by
  subst hp; obtain ⟨_, X, -, -⟩ := X
  exact g.st fun t k => Jvm.Free.XT.l2i X.here C.1 rfl (hb C.2.1 hd) rfl k
theorem k_i2b (C : own_C p s m meth c Z own nm code ml rt) (X : own_S p l e R s m args below meth c Z T L k n) {x : Int32} (hd : decode code pc = .ok (.i2b, 1)) (hp : pc + 1 = npc) (g : own_Go p.tables e below P (T.setTop (mkF m npc ls (.int x.toInt8.toInt32 :: st)))) : own_Go p.tables e below P (T.setTop (mkF m pc ls (.int x :: st))) := by
  subst hp; obtain ⟨_, X, -, -⟩ := X
  exact g.st fun t k => Jvm.Free.XT.i2b X.here C.1 rfl (hb C.2.1 hd) rfl k
theorem k_i2c (C : own_C p s m meth c Z own nm code ml rt) (X : own_S p l e R s m args below meth c Z T L k n) {x : Int32} (hd : decode code pc = .ok (.i2c, 1)) (hp : pc + 1 = npc) (g : own_Go p.tables e below P (T.setTop (mkF m npc ls (.int x.toUInt32.toUInt16.toUInt32.toInt32 :: st)))) : own_Go p.tables e below P (T.setTop (mkF m pc ls (.int x :: st))) := by
  subst hp; obtain ⟨_, X, -, -⟩ := X
  exact g.st fun t k => Jvm.Free.XT.i2c X.here C.1 rfl (hb C.2.1 hd) rfl k
theorem k_i2s (C : own_C p s m meth c Z own nm code ml rt) (X : own_S p l e R s m args below meth c Z T L k n) {x : Int32} (hd : decode code pc = .ok (.i2s, 1)) (hp : pc + 1 = npc) (g : own_Go p.tables e below P (T.setTop (mkF m npc ls (.int x.toInt16.toInt32 :: st)))) : own_Go p.tables e below P (T.setTop (mkF m pc ls (.int x :: st))) := by
  subst hp; obtain ⟨_, X, -, -⟩ := X
  exact g.st fun t k => Jvm.Free.XT.i2s X.here C.1 rfl (hb C.2.1 hd) rfl k
theorem k_i2d (C : own_C p s m meth c Z own nm code ml rt) (X : own_S p l e R s m args below meth c Z T L k n) {x : Int32} (hd : decode code pc = .ok (.i2d, 1)) (hp : pc + 1 = npc) (g : own_Go p.tables e below P (T.setTop (mkF m npc ls (.double (FP.i2d x) :: st)))) : own_Go p.tables e below P (T.setTop (mkF m pc ls (.int x :: st))) := by
  subst hp; obtain ⟨_, X, -, -⟩ := X
  exact g.st fun t k => Jvm.Free.XS.i2dS X.here C.1 rfl (hb C.2.1 hd) rfl rfl k
theorem k_l2d (C : own_C p s m meth c Z own nm code ml rt) (X : own_S p l e R s m args below meth c Z T L k n) {x : Int64} (hd : decode code pc = .ok (.l2d, 1)) (hp : pc + 1 = npc) (g : own_Go p.tables e below P (T.setTop (mkF m npc ls (.double (FP.l2d x) :: st)))) : own_Go p.tables e below P (T.setTop (mkF m pc ls (.long x :: st))) := by
  subst hp; obtain ⟨_, X, -, -⟩ := X
  exact g.st fun t k => Jvm.Free.XS.l2dS X.here C.1 rfl (hb C.2.1 hd) rfl rfl k
theorem k_d2i (C : own_C p s m meth c Z own nm code ml rt) (X : own_S p l e R s m args below meth c Z T L k n) {x : UInt64} (hd : decode code pc = .ok (.d2i, 1)) (hp : pc + 1 = npc) (g : own_Go p.tables e below P (T.setTop (mkF m npc ls (.int (FP.d2i x) :: st)))) : own_Go p.tables e below P (T.setTop (mkF m pc ls (.double x :: st))) := by
  subst hp; obtain ⟨_, X, -, -⟩ := X
  exact g.st fun t k => Jvm.Free.XS.d2iS X.here C.1 rfl (hb C.2.1 hd) rfl rfl k
theorem k_d2l (C : own_C p s m meth c Z own nm code ml rt) (X : own_S p l e R s m args below meth c Z T L k n) {x : UInt64} (hd : decode code pc = .ok (.d2l, 1)) (hp : pc + 1 = npc) (g : own_Go p.tables e below P (T.setTop (mkF m npc ls (.long (FP.d2l x) :: st)))) : own_Go p.tables e below P (T.setTop (mkF m pc ls (.double x :: st))) := by
  subst hp; obtain ⟨_, X, -, -⟩ := X
  exact g.st fun t k => Jvm.Free.XS.d2lS X.here C.1 rfl (hb C.2.1 hd) rfl rfl k
theorem k_dneg (C : own_C p s m meth c Z own nm code ml rt) (X : own_S p l e R s m args below meth c Z T L k n) {x : UInt64} (hd : decode code pc = .ok (.dneg, 1)) (hp : pc + 1 = npc) (g : own_Go p.tables e below P (T.setTop (mkF m npc ls (.double (FP.dneg x) :: st)))) : own_Go p.tables e below P (T.setTop (mkF m pc ls (.double x :: st))) := by
  subst hp; obtain ⟨_, X, -, -⟩ := X
  exact g.st fun t k => Jvm.Free.XS.dnegS X.here C.1 rfl (hb C.2.1 hd) rfl rfl k
theorem k_lcmp (C : own_C p s m meth c Z own nm code ml rt) (X : own_S p l e R s m args below meth c Z T L k n) {x y : Int64} (hd : decode code pc = .ok (.lcmp, 1)) (hp : pc + 1 = npc) (g : own_Go p.tables e below P (T.setTop (mkF m npc ls (.int (Jvm.Free.XT.cmpL x y) :: st)))) : own_Go p.tables e below P (T.setTop (mkF m pc ls (.long y :: .long x :: st))) := by
  subst hp; obtain ⟨_, X, -, -⟩ := X
  exact g.st fun t k => Jvm.Free.XT.lcmp X.here C.1 rfl (hb C.2.1 hd) rfl k
theorem k_dcmpl (C : own_C p s m meth c Z own nm code ml rt) (X : own_S p l e R s m args below meth c Z T L k n) {x y : UInt64} (hd : decode code pc = .ok (.dcmp .l, 1)) (hp : pc + 1 = npc) (g : own_Go p.tables e below P (T.setTop (mkF m npc ls (.int (FP.cmpInt (-1) (FP.dcmp x y)) :: st)))) : own_Go p.tables e below P (T.setTop (mkF m pc ls (.double y :: .double x :: st))) := by
  subst hp; obtain ⟨_, X, -, -⟩ := X
  exact g.st fun t k => Jvm.Free.XS.dcmpS X.here C.1 rfl (hb C.2.1 hd) rfl (cmpV_l _) k
theorem k_dcmpg (C : own_C p s m meth c Z own nm code ml rt) (X : own_S p l e R s m args below meth c Z T L k n) {x y : UInt64} (hd : decode code pc = .ok (.dcmp .g, 1)) (hp : pc + 1 = npc) (g : own_Go p.tables e below P (T.setTop (mkF m npc ls (.int (FP.cmpInt 1 (FP.dcmp x y)) :: st)))) : own_Go p.tables e below P (T.setTop (mkF m pc ls (.double y :: .double x :: st))) := by
  subst hp; obtain ⟨_, X, -, -⟩ := X
  exact g.st fun t k => Jvm.Free.XS.dcmpS X.here C.1 rfl (hb C.2.1 hd) rfl (cmpV_g _) k
theorem k_dadd (C : own_C p s m meth c Z own nm code ml rt) (X : own_S p l e R s m args below meth c Z T L k n) {x y : UInt64} (hd : decode code pc = .ok (.dadd, 1)) (hp : pc + 1 = npc) (hn : Jvm.Free.Fl.NoNaN64 (FP.dadd x y)) (g : ∀ v, v = FP.dadd x y → own_Go p.tables e below P (T.setTop (mkF m npc ls (.double v :: st)))) : own_Go p.tables e below P (T.setTop (mkF m pc ls (.double y :: .double x :: st))) := by
  subst hp; obtain ⟨_, X, -, -⟩ := X
  exact (g _ rfl).st fun t k => Jvm.Free.XS.daddS X.here C.1 rfl (hb C.2.1 hd) rfl hn rfl k
theorem k_dsub (C : own_C p s m meth c Z own nm code ml rt) (X : own_S p l e R s m args below meth c Z T L k n) {x y : UInt64} (hd : decode code pc = .ok (.dsub, 1)) (hp : pc + 1 = npc) (hn : Jvm.Free.Fl.NoNaN64 (FP.dsub x y)) (g : ∀ v, v = FP.dsub x y → own_Go p.tables e below P (T.setTop (mkF m npc ls (.double v :: st)))) : own_Go p.tables e below P (T.setTop (mkF m pc ls (.double y :: .double x :: st))) := by
  subst hp; obtain ⟨_, X, -, -⟩ := X
  exact (g _ rfl).st fun t k => Jvm.Free.XS.dsubS X.here C.1 rfl (hb C.2.1 hd) rfl hn rfl k
theorem k_dmul (C : own_C p s m meth c Z own nm code ml rt) (X : own_S p l e R s m args below meth c Z T L k n) {x y : UInt64} (hd : decode code pc = .ok (.dmul, 1)) (hp : pc + 1 = npc) (hn : Jvm.Free.Fl.NoNaN64 (FP.dmul x y)) (g : ∀ v, v = FP.dmul x y → own_Go p.tables e below P (T.setTop (mkF m npc ls (.double v :: st)))) : own_Go p.tables e below P (T.setTop (mkF m pc ls (.double y :: .double x :: st))) := by
  subst hp; obtain ⟨_, X, -, -⟩ := X
  exact (g _ rfl).st fun t k => Jvm.Free.XS.dmulS X.here C.1 rfl (hb C.2.1 hd) rfl hn rfl k
theorem k_ddiv (C : own_C p s m meth c Z own nm code ml rt) (X : own_S p l e R s m args below meth c Z T L k n) {x y : UInt64} (hd : decode code pc = .ok (.ddiv, 1)) (hp : pc + 1 = npc) (hn : Jvm.Free.Fl.NoNaN64 (FP.ddiv x y)) (g : ∀ v, v = FP.ddiv x y → own_Go p.tables e below P (T.setTop (mkF m npc ls (.double v :: st)))) : own_Go p.tables e below P (T.setTop (mkF m pc ls (.double y :: .double x :: st))) := by
  subst hp; obtain ⟨_, X, -, -⟩ := X
  exact (g _ rfl).st fun t k => Jvm.Free.XS.ddivS X.here C.1 rfl (hb C.2.1 hd) rfl hn rfl k
theorem k_daddE (C : own_C p s m meth c Z own nm code ml rt) (X : own_S p l e R s m args below meth c Z T L k n) {x y : UInt64} (hd : decode code pc = .ok (.dadd, 1)) (hp : pc + 1 = npc) (hn : Jvm.Free.Fl.NoNaN64 (FP.dadd x y)) (g : own_Go p.tables e below P (T.setTop (mkF m npc ls (.double (FP.dadd x y) :: st)))) : own_Go p.tables e below P (T.setTop (mkF m pc ls (.double y :: .double x :: st))) := by
  subst hp; obtain ⟨_, X, -, -⟩ := X
  exact g.st fun t k => Jvm.Free.XS.daddS X.here C.1 rfl (hb C.2.1 hd) rfl hn rfl k
theorem k_dsubE (C : own_C p s m meth c Z own nm code ml rt) (X : own_S p l e R s m args below meth c Z T L k n) {x y : UInt64} (hd : decode code pc = .ok (.dsub, 1)) (hp : pc + 1 = npc) (hn : Jvm.Free.Fl.NoNaN64 (FP.dsub x y)) (g : own_Go p.tables e below P (T.setTop (mkF m npc ls (.double (FP.dsub x y) :: st)))) : own_Go p.tables e below P (T.setTop (mkF m pc ls (.double y :: .double x :: st))) := by
  subst hp; obtain ⟨_, X, -, -⟩ := X
  exact g.st fun t k => Jvm.Free.XS.dsubS X.here C.1 rfl (hb C.2.1 hd) rfl hn rfl k
theorem k_dmulE (C : own_C p s m meth c Z own nm code ml rt) (X : own_S p l e R s m args below meth c Z T L k n) {x y : UInt64} (hd : decode code pc = .ok (.dmul, 1)) (hp : pc + 1 = npc) (hn : Jvm.Free.Fl.NoNaN64 (FP.dmul x y)) (g : own_Go p.tables e below P (T.setTop (mkF m npc ls (.double (FP.dmul x y) :: st)))) : own_Go p.tables e below P (T.setTop (mkF m pc ls (.double y :: .double x :: st))) := by
  subst hp; obtain ⟨_, X, -, -⟩ := X
  exact g.st fun t k => Jvm.Free.XS.dmulS X.here C.1 rfl (hb C.2.1 hd) rfl hn rfl k
theorem k_ddivE (C : own_C p s m meth c Z own nm code ml rt) (X : own_S p l e R s m args below meth c Z T L k n) {x y : UInt64} (hd : decode code pc = .ok (.ddiv, 1)) (hp : pc + 1 = npc) (hn : Jvm.Free.Fl.NoNaN64 (FP.ddiv x y)) (g : own_Go p.tables e below P (T.setTop (mkF m npc ls (.double (FP.ddiv x y) :: st)))) : own_Go p.tables e below P (T.setTop (mkF m pc ls (.double y :: .double x :: st))) := by
  subst hp; obtain ⟨_, X, -, -⟩ := X
  exact g.st fun t k => Jvm.Free.XS.ddivS X.here C.1 rfl (hb C.2.1 hd) rfl hn rfl k
theorem k_iconst (C : own_C p s m meth c Z own nm code ml rt) (X : own_S p l e R s m args below meth c Z T L k n) {i : Int} {v : Int32} (hd : decode code pc = .ok (.iconst i, 1)) (hp : pc + 1 = npc) (hv : Int32.ofInt i = v) (g : own_Go p.tables e below P (T.setTop (mkF m npc ls (.int v :: st)))) : own_Go p.tables e below P (T.setTop (mkF m pc ls (st))) := by
  subst hp; obtain ⟨_, X, -, -⟩ := X
  exact g.st fun t k => Jvm.Free.XT.iconstV X.here C.1 rfl v (hb C.2.1 hd) hv k
theorem k_bipush (C : own_C p s m meth c Z own nm code ml rt) (X : own_S p l e R s m args below meth c Z T L k n) {i : Int} {v : Int32} (hd : decode code pc = .ok (.bipush i, 2)) (hp : pc + 2 = npc) (hv : (Int8.ofInt i).toInt32 = v) (g : own_Go p.tables e below P (T.setTop (mkF m npc ls (.int v :: st)))) : own_Go p.tables e below P (T.setTop (mkF m pc ls (st))) := by
  subst hp; obtain ⟨_, X, -, -⟩ := X
  exact g.st fun t k => Jvm.Free.XT.bipushV X.here C.1 rfl v (hb C.2.1 hd) hv k
theorem k_sipush (C : own_C p s m meth c Z own nm code ml rt) (X : own_S p l e R s m args below meth c Z T L k n) {i : Int} {v : Int32} (hd : decode code pc = .ok (.sipush i, 3)) (hp : pc + 3 = npc) (hv : (Int16.ofInt i).toInt32 = v) (g : own_Go p.tables e below P (T.setTop (mkF m npc ls (.int v :: st)))) : own_Go p.tables e below P (T.setTop (mkF m pc ls (st))) := by
  subst hp; obtain ⟨_, X, -, -⟩ := X
  exact g.st fun t k => Jvm.Free.XT.sipushV X.here C.1 rfl v (hb C.2.1 hd) hv k
theorem k_lconst (C : own_C p s m meth c Z own nm code ml rt) (X : own_S p l e R s m args below meth c Z T L k n) {i : Fin 2} {v : Int64} (hd : decode code pc = .ok (.lconst i, 1)) (hp : pc + 1 = npc) (hv : Int64.ofNat i = v) (g : own_Go p.tables e below P (T.setTop (mkF m npc ls (.long v :: st)))) : own_Go p.tables e below P (T.setTop (mkF m pc ls (st))) := by
  subst hp; obtain ⟨_, X, -, -⟩ := X
  exact g.st fun t k => Jvm.Free.XT.lconstV X.here C.1 rfl v (hb C.2.1 hd) hv k
theorem k_dconst0 (C : own_C p s m meth c Z own nm code ml rt) (X : own_S p l e R s m args below meth c Z T L k n) (hd : decode code pc = .ok (.dconst 0, 1)) (hp : pc + 1 = npc) (g : own_Go p.tables e below P (T.setTop (mkF m npc ls (.double 0 :: st)))) : own_Go p.tables e below P (T.setTop (mkF m pc ls (st))) := by
  subst hp; obtain ⟨_, X, -, -⟩ := X
  exact g.st fun t k => Jvm.Free.XS.dconst0 X.here C.1 rfl (hb C.2.1 hd) rfl k
theorem k_dconst1 (C : own_C p s m meth c Z own nm code ml rt) (X : own_S p l e R s m args below meth c Z T L k n) (hd : decode code pc = .ok (.dconst 1, 1)) (hp : pc + 1 = npc) (g : own_Go p.tables e below P (T.setTop (mkF m npc ls (.double 4607182418800017408 :: st)))) : own_Go p.tables e below P (T.setTop (mkF m pc ls (st))) := by
  subst hp; obtain ⟨_, X, -, -⟩ := X
  exact g.st fun t k => Jvm.Free.XS.dconst1 X.here C.1 rfl (hb C.2.1 hd) rfl k
theorem k_aconst_null (C : own_C p s m meth c Z own nm code ml rt) (X : own_S p l e R s m args below meth c Z T L k n) (hd : decode code pc = .ok (.aconst_null, 1)) (hp : pc + 1 = npc) (g : own_Go p.tables e below P (T.setTop (mkF m npc ls (.null :: st)))) : own_Go p.tables e below P (T.setTop (mkF m pc ls (st))) := by
  subst hp; obtain ⟨_, X, -, -⟩ := X
  exact g.st fun t k => Jvm.Free.XS.aconstNull X.here C.1 rfl (hb C.2.1 hd)  k
theorem k_pop (C : own_C p s m meth c Z own nm code ml rt) (X : own_S p l e R s m args below meth c Z T L k n) {x : Value} (hd : decode code pc = .ok (.pop, 1)) (hp : pc + 1 = npc) (hc : x.category = 1) (g : own_Go p.tables e below P (T.setTop (mkF m npc ls (st)))) : own_Go p.tables e below P (T.setTop (mkF m pc ls (x :: st))) := by
  subst hp; obtain ⟨_, X, -, -⟩ := X
  exact g.st fun t k => Jvm.Free.XT.pop X.here C.1 rfl (hb C.2.1 hd) rfl hc k
theorem k_dup (C : own_C p s m meth c Z own nm code ml rt) (X : own_S p l e R s m args below meth c Z T L k n) {x : Value} (hd : decode code pc = .ok (.dup, 1)) (hp : pc + 1 = npc) (hc : x.category = 1) (g : own_Go p.tables e below P (T.setTop (mkF m npc ls (x :: x :: st)))) : own_Go p.tables e below P (T.setTop (mkF m pc ls (x :: st))) := by
  subst hp; obtain ⟨_, X, -, -⟩ := X
  exact g.st fun t k => Jvm.Free.XS.dup X.here C.1 rfl (hb C.2.1 hd) rfl hc k
theorem k_dup_x1 (C : own_C p s m meth c Z own nm code ml rt) (X : own_S p l e R s m args below meth c Z T L k n) {x y : Value} (hd : decode code pc = .ok (.dup_x1, 1)) (hp : pc + 1 = npc) (hc : x.category = 1) (hc' : y.category = 1) (g : own_Go p.tables e below P (T.setTop (mkF m npc ls (x :: y :: x :: st)))) : own_Go p.tables e below P (T.setTop (mkF m pc ls (x :: y :: st))) := by
  subst hp; obtain ⟨_, X, -, -⟩ := X
  exact g.st fun t k => Jvm.Free.XT.dupX1 X.here C.1 rfl (hb C.2.1 hd) rfl hc hc' k
theorem k_dup2 (C : own_C p s m meth c Z own nm code ml rt) (X : own_S p l e R s m args below meth c Z T L k n) {x y : Value} (hd : decode code pc = .ok (.dup2, 1)) (hp : pc + 1 = npc) (hc : x.category = 1) (hc' : y.category = 1) (g : own_Go p.tables e below P (T.setTop (mkF m npc ls (x :: y :: x :: y :: st)))) : own_Go p.tables e below P (T.setTop (mkF m pc ls (x :: y :: st))) := by
  subst hp; obtain ⟨_, X, -, -⟩ := X
  exact g.st fun t k => Jvm.Free.XT.dup2 X.here C.1 rfl (hb C.2.1 hd) rfl hc hc' k
theorem k_iload (C : own_C p s m meth c Z own nm code ml rt) (X : own_S p l e R s m args below meth c Z T L k n) {i : Nat} {v : Int32} (hd : decode code pc = .ok (.iload i, 2)) (hp : pc + 2 = npc) (hl : ls[i]? = some (.val (.int v))) (g : own_Go p.tables e below P (T.setTop (mkF m npc ls (.int v :: st)))) : own_Go p.tables e below P (T.setTop (mkF m pc ls (st))) := by
  subst hp; obtain ⟨_, X, -, -⟩ := X
  exact g.st fun t k => Jvm.Free.XS.iload X.here C.1 rfl (hb C.2.1 hd) hl k
theorem k_istore (C : own_C p s m meth c Z own nm code ml rt) (X : own_S p l e R s m args below meth c Z T L k n) {i : Nat} {v : Int32} {l' : Array Slot} (hd : decode code pc = .ok (.istore i, 2)) (hp : pc + 2 = npc) (hl : storeLocals ls i (.int v) = some l') (g : own_Go p.tables e below P (T.setTop (mkF m npc l' st))) : own_Go p.tables e below P (T.setTop (mkF m pc ls (.int v :: st))) := by
  subst hp; obtain ⟨_, X, -, -⟩ := X
  exact g.st fun t k => Jvm.Free.XS.istore X.here C.1 rfl (hb C.2.1 hd) rfl hl k
theorem k_iloadN (C : own_C p s m meth c Z own nm code ml rt) (X : own_S p l e R s m args below meth c Z T L k n) {i : Fin 4} {v : Int32} (hd : decode code pc = .ok (.iload_n i, 1)) (hp : pc + 1 = npc) (hl : ls[i.val]? = some (.val (.int v))) (g : own_Go p.tables e below P (T.setTop (mkF m npc ls (.int v :: st)))) : own_Go p.tables e below P (T.setTop (mkF m pc ls (st))) := by
  subst hp; obtain ⟨_, X, -, -⟩ := X
  exact g.st fun t k => Jvm.Free.XS.iloadN X.here C.1 rfl (hb C.2.1 hd) hl k
theorem k_istoreN (C : own_C p s m meth c Z own nm code ml rt) (X : own_S p l e R s m args below meth c Z T L k n) {i : Fin 4} {v : Int32} {l' : Array Slot} (hd : decode code pc = .ok (.istore_n i, 1)) (hp : pc + 1 = npc) (hl : storeLocals ls i.val (.int v) = some l') (g : own_Go p.tables e below P (T.setTop (mkF m npc l' st))) : own_Go p.tables e below P (T.setTop (mkF m pc ls (.int v :: st))) := by
  subst hp; obtain ⟨_, X, -, -⟩ := X
  exact g.st fun t k => Jvm.Free.XS.istoreN X.here C.1 rfl (hb C.2.1 hd) rfl hl k
theorem k_lload (C : own_C p s m meth c Z own nm code ml rt) (X : own_S p l e R s m args below meth c Z T L k n) {i : Nat} {v : Int64} (hd : decode code pc = .ok (.lload i, 2)) (hp : pc + 2 = npc) (hl : ls[i]? = some (.val (.long v))) (g : own_Go p.tables e below P (T.setTop (mkF m npc ls (.long v :: st)))) : own_Go p.tables e below P (T.setTop (mkF m pc ls (st))) := by
  subst hp; obtain ⟨_, X, -, -⟩ := X
  exact g.st fun t k => Jvm.Free.XT.lload X.here C.1 rfl (hb C.2.1 hd) hl k
theorem k_lstore (C : own_C p s m meth c Z own nm code ml rt) (X : own_S p l e R s m args below meth c Z T L k n) {i : Nat} {v : Int64} {l' : Array Slot} (hd : decode code pc = .ok (.lstore i, 2)) (hp : pc + 2 = npc) (hl : storeLocals ls i (.long v) = some l') (g : own_Go p.tables e below P (T.setTop (mkF m npc l' st))) : own_Go p.tables e below P (T.setTop (mkF m pc ls (.long v :: st))) := by
  subst hp; obtain ⟨_, X, -, -⟩ := X
  exact g.st fun t k => Jvm.Free.XT.lstore X.here C.1 rfl (hb C.2.1 hd) rfl hl k
theorem k_lloadN (C : own_C p s m meth c Z own nm code ml rt) (X : own_S p l e R s m args below meth c Z T L k n) {i : Fin 4} {v : Int64} (hd : decode code pc = .ok (.lload_n i, 1)) (hp : pc + 1 = npc) (hl : ls[i.val]? = some (.val (.long v))) (g : own_Go p.tables e below P (T.setTop (mkF m npc ls (.long v :: st)))) : own_Go p.tables e below P (T.setTop (mkF m pc ls (st))) := by
  subst hp; obtain ⟨_, X, -, -⟩ := X
  exact g.st fun t k => Jvm.Free.XT.lloadN X.here C.1 rfl (hb C.2.1 hd) hl k
theorem k_lstoreN (C : own_C p s m meth c Z own nm code ml rt) (X : own_S p l e R s m args below meth c Z T L k n) {i : Fin 4} {v : Int64} {l' : Array Slot} (hd : decode code pc = .ok (.lstore_n i, 1)) (hp : pc + 1 = npc) (hl : storeLocals ls i.val (.long v) = some l') (g : own_Go p.tables e below P (T.setTop (mkF m npc l' st))) : own_Go p.tables e below P (T.setTop (mkF m pc ls (.long v :: st))) := by
  subst hp; obtain ⟨_, X, -, -⟩ := X
  exact g.st fun t k => Jvm.Free.XT.lstoreN X.here C.1 rfl (hb C.2.1 hd) rfl hl k
theorem k_dload (C : own_C p s m meth c Z own nm code ml rt) (X : own_S p l e R s m args below meth c Z T L k n) {i : Nat} {v : UInt64} (hd : decode code pc = .ok (.dload i, 2)) (hp : pc + 2 = npc) (hl : ls[i]? = some (.val (.double v))) (g : own_Go p.tables e below P (T.setTop (mkF m npc ls (.double v :: st)))) : own_Go p.tables e below P (T.setTop (mkF m pc ls (st))) := by
  subst hp; obtain ⟨_, X, -, -⟩ := X
  exact g.st fun t k => Jvm.Free.XS.dload X.here C.1 rfl (hb C.2.1 hd) hl k
theorem k_dstore (C : own_C p s m meth c Z own nm code ml rt) (X : own_S p l e R s m args below meth c Z T L k n) {i : Nat} {v : UInt64} {l' : Array Slot} (hd : decode code pc = .ok (.dstore i, 2)) (hp : pc + 2 = npc) (hl : storeLocals ls i (.double v) = some l') (g : own_Go p.tables e below P (T.setTop (mkF m npc l' st))) : own_Go p.tables e below P (T.setTop (mkF m pc ls (.double v :: st))) := by
  subst hp; obtain ⟨_, X, -, -⟩ := X
  exact g.st fun t k => Jvm.Free.XS.dstore X.here C.1 rfl (hb C.2.1 hd) rfl hl k
theorem k_dloadN (C : own_C p s m meth c Z own nm code ml rt) (X : own_S p l e R s m args below meth c Z T L k n) {i : Fin 4} {v : UInt64} (hd : decode code pc = .ok (.dload_n i, 1)) (hp : pc + 1 = npc) (hl : ls[i.val]? = some (.val (.double v))) (g : own_Go p.tables e below P (T.setTop (mkF m npc ls (.double v :: st)))) : own_Go p.tables e below P (T.setTop (mkF m pc ls (st))) := by
  subst hp; obtain ⟨_, X, -, -⟩ := X
  exact g.st fun t k => Jvm.Free.XS.dloadN X.here C.1 rfl (hb C.2.1 hd) hl k
theorem k_dstoreN (C : own_C p s m meth c Z own nm code ml rt) (X : own_S p l e R s m args below meth c Z T L k n) {i : Fin 4} {v : UInt64} {l' : Array Slot} (hd : decode code pc = .ok (.dstore_n i, 1)) (hp : pc + 1 = npc) (hl : storeLocals ls i.val (.double v) = some l') (g : own_Go p.tables e below P (T.setTop (mkF m npc l' st))) : own_Go p.tables e below P (T.setTop (mkF m pc ls (.double v :: st))) := by
  subst hp; obtain ⟨_, X, -, -⟩ := X
  exact g.st fun t k => Jvm.Free.XS.dstoreN X.here C.1 rfl (hb C.2.1 hd) rfl hl k
theorem k_aload (C : own_C p s m meth c Z own nm code ml rt) (X : own_S p l e R s m args below meth c Z T L k n) {i : Nat} {v : Value} (hd : decode code pc = .ok (.aload i, 2)) (hp : pc + 2 = npc) (hl : ls[i]? = some (.val (v))) (hv : v.isRef = true) (g : own_Go p.tables e below P (T.setTop (mkF m npc ls (v :: st)))) : own_Go p.tables e below P (T.setTop (mkF m pc ls (st))) := by
  subst hp; obtain ⟨_, X, -, -⟩ := X
  exact g.st fun t k => Jvm.Free.XS.aload X.here C.1 rfl (hb C.2.1 hd) hl hv k
theorem k_astore (C : own_C p s m meth c Z own nm code ml rt) (X : own_S p l e R s m args below meth c Z T L k n) {i : Nat} {v : Value} {l' : Array Slot} (hd : decode code pc = .ok (.astore i, 2)) (hp : pc + 2 = npc) (hv : v.isRef = true) (hl : storeLocals ls i (v) = some l') (g : own_Go p.tables e below P (T.setTop (mkF m npc l' st))) : own_Go p.tables e below P (T.setTop (mkF m pc ls (v :: st))) := by
  subst hp; obtain ⟨_, X, -, -⟩ := X
  exact g.st fun t k => Jvm.Free.XS.astore X.here C.1 rfl (hb C.2.1 hd) rfl hv hl k
theorem k_aloadN (C : own_C p s m meth c Z own nm code ml rt) (X : own_S p l e R s m args below meth c Z T L k n) {i : Fin 4} {v : Value} (hd : decode code pc = .ok (.aload_n i, 1)) (hp : pc + 1 = npc) (hl : ls[i.val]? = some (.val (v))) (hv : v.isRef = true) (g : own_Go p.tables e below P (T.setTop (mkF m npc ls (v :: st)))) : own_Go p.tables e below P (T.setTop (mkF m pc ls (st))) := by
  subst hp; obtain ⟨_, X, -, -⟩ := X
  exact g.st fun t k => Jvm.Free.XS.aloadN X.here C.1 rfl (hb C.2.1 hd) hl hv k
theorem k_astoreN (C : own_C p s m meth c Z own nm code ml rt) (X : own_S p l e R s m args below meth c Z T L k n) {i : Fin 4} {v : Value} {l' : Array Slot} (hd : decode code pc = .ok (.astore_n i, 1)) (hp : pc + 1 = npc) (hv : v.isRef = true) (hl : storeLocals ls i.val (v) = some l') (g : own_Go p.tables e below P (T.setTop (mkF m npc l' st))) : own_Go p.tables e below P (T.setTop (mkF m pc ls (v :: st))) := by
  subst hp; obtain ⟨_, X, -, -⟩ := X
  exact g.st fun t k => Jvm.Free.XS.astoreN X.here C.1 rfl (hb C.2.1 hd) rfl hv hl k
theorem k_iinc (C : own_C p s m meth c Z own nm code ml rt) (X : own_S p l e R s m args below meth c Z T L k n) {i : Nat} {cst : Int} {x v : Int32} {l' : Array Slot} (hd : decode code pc = .ok (.iinc i cst, 3)) (hp : pc + 3 = npc) (hv : Int32.ofInt cst = v) (hl : ls[i]? = some (.val (.int x))) (hl' : storeLocals ls i (.int (x + v)) = some l') (g : own_Go p.tables e below P (T.setTop (mkF m npc l' st))) : own_Go p.tables e below P (T.setTop (mkF m pc ls st)) := by
  subst hp; obtain ⟨_, X, -, -⟩ := X
  exact g.st fun t k => Jvm.Free.XT.iincV X.here C.1 rfl v (hb C.2.1 hd) hv hl hl' k
theorem k_goto (C : own_C p s m meth c Z own nm code ml rt) (X : own_S p l e R s m args below meth c Z T L k n) {o : Int} (hd : decode code pc = .ok (.goto o, 3)) (ht : (pc : Int) + o = (tpc : Int)) (g : own_Go p.tables e below P (T.setTop (mkF m tpc ls st))) : own_Go p.tables e below P (T.setTop (mkF m pc ls st)) := by
  obtain ⟨_, X, -, -⟩ := X
  exact g.st fun t k => Jvm.Free.XS.goto X.here C.1 rfl (pc0 := pc) (pc' := tpc) rfl (hb C.2.1 hd) (by omega) (by omega) k
theorem k_if_eq (C : own_C p s m meth c Z own nm code ml rt) (X : own_S p l e R s m args below meth c Z T L k n) {x : Int32} {o : Int} (hd : decode code pc = .ok (.ifCond .eq o, 3)) (hp : pc + 3 = npc) (ht : (pc : Int) + o = (tpc : Int)) (yes : x = 0 → own_Go p.tables e below P (T.setTop (mkF m tpc ls st))) (no : ¬ x = 0 → own_Go p.tables e below P (T.setTop (mkF m npc ls st))) : own_Go p.tables e below P (T.setTop (mkF m pc ls (.int x :: st))) := by
  subst hp; obtain ⟨_, X, -, -⟩ := X
  by_cases q : x = 0
  · exact (yes q).st fun t k => Jvm.Free.XS.ifYes X.here C.1 rfl (pc0 := pc) (pc' := tpc) rfl (hb C.2.1 hd) rfl (Jvm.Free.XT.i0_eq_t q) (by omega) (by omega) k
  · exact (no q).st fun t k => Jvm.Free.XS.ifNo X.here C.1 rfl (hb C.2.1 hd) rfl (Jvm.Free.XT.i0_eq_f q) k
theorem k_if_ne (C : own_C p s m meth c Z own nm code ml rt) (X : own_S p l e R s m args below meth c Z T L k n) {x : Int32} {o : Int} (hd : decode code pc = .ok (.ifCond .ne o, 3)) (hp : pc + 3 = npc) (ht : (pc : Int) + o = (tpc : Int)) (yes : ¬ x = 0 → own_Go p.tables e below P (T.setTop (mkF m tpc ls st))) (no : x = 0 → own_Go p.tables e below P (T.setTop (mkF m npc ls st))) : own_Go p.tables e below P (T.setTop (mkF m pc ls (.int x :: st))) := by
  subst hp; obtain ⟨_, X, -, -⟩ := X
  by_cases q : ¬ x = 0
  · exact (yes q).st fun t k => Jvm.Free.XS.ifYes X.here C.1 rfl (pc0 := pc) (pc' := tpc) rfl (hb C.2.1 hd) rfl (Jvm.Free.XT.i0_ne_t q) (by omega) (by omega) k
  · have q := Decidable.not_not.mp q
    exact (no q).st fun t k => Jvm.Free.XS.ifNo X.here C.1 rfl (hb C.2.1 hd) rfl (Jvm.Free.XT.i0_ne_f q) k
theorem k_if_lt (C : own_C p s m meth c Z own nm code ml rt) (X : own_S p l e R s m args below meth c Z T L k n) {x : Int32} {o : Int} (hd : decode code pc = .ok (.ifCond .lt o, 3)) (hp : pc + 3 = npc) (ht : (pc : Int) + o = (tpc : Int)) (yes : x < 0 → own_Go p.tables e below P (T.setTop (mkF m tpc ls st))) (no : ¬ x < 0 → own_Go p.tables e below P (T.setTop (mkF m npc ls st))) : own_Go p.tables e below P (T.setTop (mkF m pc ls (.int x :: st))) := by
  subst hp; obtain ⟨_, X, -, -⟩ := X
  by_cases q : x < 0
  · exact (yes q).st fun t k => Jvm.Free.XS.ifYes X.here C.1 rfl (pc0 := pc) (pc' := tpc) rfl (hb C.2.1 hd) rfl (Jvm.Free.XT.i0_lt_t q) (by omega) (by omega) k
  · exact (no q).st fun t k => Jvm.Free.XS.ifNo X.here C.1 rfl (hb C.2.1 hd) rfl (Jvm.Free.XT.i0_lt_f q) k
theorem k_if_ge (C : own_C p s m meth c Z own nm code ml rt) (X : own_S p l e R s m args below meth c Z T L k n) {x : Int32} {o : Int} (hd : decode code pc = .ok (.ifCond .ge o, 3)) (hp : pc + 3 = npc) (ht : (pc : Int) + o = (tpc : Int)) (yes : ¬ x < 0 → own_Go p.tables e below P (T.setTop (mkF m tpc ls st))) (no : x < 0 → own_Go p.tables e below P (T.setTop (mkF m npc ls st))) : own_Go p.tables e below P (T.setTop (mkF m pc ls (.int x :: st))) := by
  subst hp; obtain ⟨_, X, -, -⟩ := X
  by_cases q : ¬ x < 0
  · exact (yes q).st fun t k => Jvm.Free.XS.ifYes X.here C.1 rfl (pc0 := pc) (pc' := tpc) rfl (hb C.2.1 hd) rfl (Jvm.Free.XT.i0_ge_t q) (by omega) (by omega) k
  · have q := Decidable.not_not.mp q
    exact (no q).st fun t k => Jvm.Free.XS.ifNo X.here C.1 rfl (hb C.2.1 hd) rfl (Jvm.Free.XT.i0_ge_f q) k
theorem k_if_gt (C : own_C p s m meth c Z own nm code ml rt) (X : own_S p l e R s m args below meth c Z T L k n) {x : Int32} {o : Int} (hd : decode code pc = .ok (.ifCond .gt o, 3)) (hp : pc + 3 = npc) (ht : (pc : Int) + o = (tpc : Int)) (yes : 0 < x → own_Go p.tables e below P (T.setTop (mkF m tpc ls st))) (no : ¬ 0 < x → own_Go p.tables e below P (T.setTop (mkF m npc ls st))) : own_Go p.tables e below P (T.setTop (mkF m pc ls (.int x :: st))) := by
  subst hp; obtain ⟨_, X, -, -⟩ := X
  by_cases q : 0 < x
  · exact (yes q).st fun t k => Jvm.Free.XS.ifYes X.here C.1 rfl (pc0 := pc) (pc' := tpc) rfl (hb C.2.1 hd) rfl (Jvm.Free.XT.i0_gt_t q) (by omega) (by omega) k
  · exact (no q).st fun t k => Jvm.Free.XS.ifNo X.here C.1 rfl (hb C.2.1 hd) rfl (Jvm.Free.XT.i0_gt_f q) k
theorem k_if_le (C : own_C p s m meth c Z own nm code ml rt) (X : own_S p l e R s m args below meth c Z T L k n) {x : Int32} {o : Int} (hd : decode code pc = .ok (.ifCond .le o, 3)) (hp : pc + 3 = npc) (ht : (pc : Int) + o = (tpc : Int)) (yes : ¬ 0 < x → own_Go p.tables e below P (T.setTop (mkF m tpc ls st))) (no : 0 < x → own_Go p.tables e below P (T.setTop (mkF m npc ls st))) : own_Go p.tables e below P (T.setTop (mkF m pc ls (.int x :: st))) := by
  subst hp; obtain ⟨_, X, -, -⟩ := X
  by_cases q : ¬ 0 < x
  · exact (yes q).st fun t k => Jvm.Free.XS.ifYes X.here C.1 rfl (pc0 := pc) (pc' := tpc) rfl (hb C.2.1 hd) rfl (Jvm.Free.XT.i0_le_t q) (by omega) (by omega) k
  · have q := Decidable.not_not.mp q
    exact (no q).st fun t k => Jvm.Free.XS.ifNo X.here C.1 rfl (hb C.2.1 hd) rfl (Jvm.Free.XT.i0_le_f q) k
theorem k_icmp_eq (C : own_C p s m meth c Z own nm code ml rt) (X : own_S p l e R s m args below meth c Z T L k n) {x y : Int32} {o : Int} (hd : decode code pc = .ok (.if_icmp .eq o, 3)) (hp : pc + 3 = npc) (ht : (pc : Int) + o = (tpc : Int)) (yes : x = y → own_Go p.tables e below P (T.setTop (mkF m tpc ls st))) (no : ¬ x = y → own_Go p.tables e below P (T.setTop (mkF m npc ls st))) : own_Go p.tables e below P (T.setTop (mkF m pc ls (.int y :: .int x :: st))) := by
  subst hp; obtain ⟨_, X, -, -⟩ := X
  by_cases q : x = y
  · exact (yes q).st fun t k => Jvm.Free.XS.icmpYes X.here C.1 rfl (pc0 := pc) (pc' := tpc) rfl (hb C.2.1 hd) rfl (Jvm.Free.XT.ii_eq_t q) (by omega) (by omega) k
  · exact (no q).st fun t k => Jvm.Free.XS.icmpNo X.here C.1 rfl (hb C.2.1 hd) rfl (Jvm.Free.XT.ii_eq_f q) k
theorem k_icmp_ne (C : own_C p s m meth c Z own nm code ml rt) (X : own_S p l e R s m args below meth c Z T L k n) {x y : Int32} {o : Int} (hd : decode code pc = .ok (.if_icmp .ne o, 3)) (hp : pc + 3 = npc) (ht : (pc : Int) + o = (tpc : Int)) (yes : ¬ x = y → own_Go p.tables e below P (T.setTop (mkF m tpc ls st))) (no : x = y → own_Go p.tables e below P (T.setTop (mkF m npc ls st))) : own_Go p.tables e below P (T.setTop (mkF m pc ls (.int y :: .int x :: st))) := by
  subst hp; obtain ⟨_, X, -, -⟩ := X
  by_cases q : ¬ x = y
  · exact (yes q).st fun t k => Jvm.Free.XS.icmpYes X.here C.1 rfl (pc0 := pc) (pc' := tpc) rfl (hb C.2.1 hd) rfl (Jvm.Free.XT.ii_ne_t q) (by omega) (by omega) k
  · have q := Decidable.not_not.mp q
    exact (no q).st fun t k => Jvm.Free.XS.icmpNo X.here C.1 rfl (hb C.2.1 hd) rfl (Jvm.Free.XT.ii_ne_f q) k
theorem k_icmp_lt (C : own_C p s m meth c Z own nm code ml rt) (X : own_S p l e R s m args below meth c Z T L k n) {x y : Int32} {o : Int} (hd : decode code pc = .ok (.if_icmp .lt o, 3)) (hp : pc + 3 = npc) (ht : (pc : Int) + o = (tpc : Int)) (yes : x < y → own_Go p.tables e below P (T.setTop (mkF m tpc ls st))) (no : ¬ x < y → own_Go p.tables e below P (T.setTop (mkF m npc ls st))) : own_Go p.tables e below P (T.setTop (mkF m pc ls (.int y :: .int x :: st))) := by
  subst hp; obtain ⟨_, X, -, -⟩ := X
  by_cases q : x < y
  · exact (yes q).st fun t k => Jvm.Free.XS.icmpYes X.here C.1 rfl (pc0 := pc) (pc' := tpc) rfl (hb C.2.1 hd) rfl (Jvm.Free.XT.ii_lt_t q) (by omega) (by omega) k
  · exact (no q).st fun t k => Jvm.Free.XS.icmpNo X.here C.1 rfl (hb C.2.1 hd) rfl (Jvm.Free.XT.ii_lt_f q) k
theorem k_icmp_ge (C : own_C p s m meth c Z own nm code ml rt) (X : own_S p l e R s m args below meth c Z T L k n) {x y : Int32} {o : Int} (hd : decode code pc = .ok (.if_icmp .ge o, 3)) (hp : pc + 3 = npc) (ht : (pc : Int) + o = (tpc : Int)) (yes : ¬ x < y → own_Go p.tables e below P (T.setTop (mkF m tpc ls st))) (no : x < y → own_Go p.tables e below P (T.setTop (mkF m npc ls st))) : own_Go p.tables e below P (T.setTop (mkF m pc ls (.int y :: .int x :: st))) := by
  subst hp; obtain ⟨_, X, -, -⟩ := X
  by_cases q : ¬ x < y
  · exact (yes q).st fun t k => Jvm.Free.XS.icmpYes X.here C.1 rfl (pc0 := pc) (pc' := tpc) rfl (hb C.2.1 hd) rfl (Jvm.Free.XT.ii_ge_t q) (by omega) (by omega) k
  · have q := Decidable.not_not.mp q
    exact (no q).st fun t k => Jvm.Free.XS.icmpNo X.here C.1 rfl (hb C.2.1 hd) rfl (Jvm.Free.XT.ii_ge_f q) k
theorem k_icmp_gt (C : own_C p s m meth c Z own nm code ml rt) (X : own_S p l e R s m args below meth c Z T L k n) {x y : Int32} {o : Int} (hd : decode code pc = .ok (.if_icmp .gt o, 3)) (hp : pc + 3 = npc) (ht : (pc : Int) + o = (tpc : Int)) (yes : y < x → own_Go p.tables e below P (T.setTop (mkF m tpc ls st))) (no : ¬ y < x → own_Go p.tables e below P (T.setTop (mkF m npc ls st))) : own_Go p.tables e below P (T.setTop (mkF m pc ls (.int y :: .int x :: st))) := by
  subst hp; obtain ⟨_, X, -, -⟩ := X
  by_cases q : y < x
  · exact (yes q).st fun t k => Jvm.Free.XS.icmpYes X.here C.1 rfl (pc0 := pc) (pc' := tpc) rfl (hb C.2.1 hd) rfl (Jvm.Free.XT.ii_gt_t q) (by omega) (by omega) k
  · exact (no q).st fun t k => Jvm.Free.XS.icmpNo X.here C.1 rfl (hb C.2.1 hd) rfl (Jvm.Free.XT.ii_gt_f q) k
theorem k_icmp_le (C : own_C p s m meth c Z own nm code ml rt) (X : own_S p l e R s m args below meth c Z T L k n) {x y : Int32} {o : Int} (hd : decode code pc = .ok (.if_icmp .le o, 3)) (hp : pc + 3 = npc) (ht : (pc : Int) + o = (tpc : Int)) (yes : ¬ y < x → own_Go p.tables e below P (T.setTop (mkF m tpc ls st))) (no : y < x → own_Go p.tables e below P (T.setTop (mkF m npc ls st))) : own_Go p.tables e below P (T.setTop (mkF m pc ls (.int y :: .int x :: st))) := by
  subst hp; obtain ⟨_, X, -, -⟩ := X
  by_cases q : ¬ y < x
  · exact (yes q).st fun t k => Jvm.Free.XS.icmpYes X.here C.1 rfl (pc0 := pc) (pc' := tpc) rfl (hb C.2.1 hd) rfl (Jvm.Free.XT.ii_le_t q) (by omega) (by omega) k
  · have q := Decidable.not_not.mp q
    exact (no q).st fun t k => Jvm.Free.XS.icmpNo X.here C.1 rfl (hb C.2.1 hd) rfl (Jvm.Free.XT.ii_le_f q) k
theorem k_ifl_eq (C : own_C p s m meth c Z own nm code ml rt) (X : own_S p l e R s m args below meth c Z T L k n) {x y : Int64} {o : Int} (hd : decode code pc = .ok (.ifCond .eq o, 3)) (hp : pc + 3 = npc) (ht : (pc : Int) + o = (tpc : Int)) (yes : x = y → own_Go p.tables e below P (T.setTop (mkF m tpc ls st))) (no : ¬ x = y → own_Go p.tables e below P (T.setTop (mkF m npc ls st))) : own_Go p.tables e below P (T.setTop (mkF m pc ls (.int (Jvm.Free.XT.cmpL x y) :: st))) := by
  subst hp; obtain ⟨_, X, -, -⟩ := X
  by_cases q : x = y
  · exact (yes q).st fun t k => Jvm.Free.XS.ifYes X.here C.1 rfl (pc0 := pc) (pc' := tpc) rfl (hb C.2.1 hd) rfl (Jvm.Free.XT.ll_eq_t q) (by omega) (by omega) k
  · exact (no q).st fun t k => Jvm.Free.XS.ifNo X.here C.1 rfl (hb C.2.1 hd) rfl (Jvm.Free.XT.ll_eq_f q) k
theorem k_ifl_ne (C : own_C p s m meth c Z own nm code ml rt) (X : own_S p l e R s m args below meth c Z T L k n) {x y : Int64} {o : Int} (hd : decode code pc = .ok (.ifCond .ne o, 3)) (hp : pc + 3 = npc) (ht : (pc : Int) + o = (tpc : Int)) (yes : ¬ x = y → own_Go p.tables e below P (T.setTop (mkF m tpc ls st))) (no : x = y → own_Go p.tables e below P (T.setTop (mkF m npc ls st))) : own_Go p.tables e below P (T.setTop (mkF m pc ls (.int (Jvm.Free.XT.cmpL x y) :: st))) := by
  subst hp; obtain ⟨_, X, -, -⟩ := X
  by_cases q : ¬ x = y
  · exact (yes q).st fun t k => Jvm.Free.XS.ifYes X.here C.1 rfl (pc0 := pc) (pc' := tpc) rfl (hb C.2.1 hd) rfl (Jvm.Free.XT.ll_ne_t q) (by omega) (by omega) k
  · have q := Decidable.not_not.mp q
    exact (no q).st fun t k => Jvm.Free.XS.ifNo X.here C.1 rfl (hb C.2.1 hd) rfl (Jvm.Free.XT.ll_ne_f q) k
theorem k_ifl_lt (C : own_C p s m meth c Z own nm code ml rt) (X : own_S p l e R s m args below meth c Z T L k n) {x y : Int64} {o : Int} (hd : decode code pc = .ok (.ifCond .lt o, 3)) (hp : pc + 3 = npc) (ht : (pc : Int) + o = (tpc : Int)) (yes : x < y → own_Go p.tables e below P (T.setTop (mkF m tpc ls st))) (no : ¬ x < y → own_Go p.tables e below P (T.setTop (mkF m npc ls st))) : own_Go p.tables e below P (T.setTop (mkF m pc ls (.int (Jvm.Free.XT.cmpL x y) :: st))) := by
  subst hp; obtain ⟨_, X, -, -⟩ := X
  by_cases q : x < y
  · exact (yes q).st fun t k => Jvm.Free.XS.ifYes X.here C.1 rfl (pc0 := pc) (pc' := tpc) rfl (hb C.2.1 hd) rfl (Jvm.Free.XT.ll_lt_t q) (by omega) (by omega) k
  · exact (no q).st fun t k => Jvm.Free.XS.ifNo X.here C.1 rfl (hb C.2.1 hd) rfl (Jvm.Free.XT.ll_lt_f q) k
theorem k_ifl_ge (C : own_C p s m meth c Z own nm code ml rt) (X : own_S p l e R s m args below meth c Z T L k n) {x y : Int64} {o : Int} (hd : decode code pc = .ok (.ifCond .ge o, 3)) (hp : pc + 3 = npc) (ht : (pc : Int) + o = (tpc : Int)) (yes : ¬ x < y → own_Go p.tables e below P (T.setTop (mkF m tpc ls st))) (no : x < y → own_Go p.tables e below P (T.setTop (mkF m npc ls st))) : own_Go p.tables e below P (T.setTop (mkF m pc ls (.int (Jvm.Free.XT.cmpL x y) :: st))) := by
  subst hp; obtain ⟨_, X, -, -⟩ := X
  by_cases q : ¬ x < y
  · exact (yes q).st fun t k => Jvm.Free.XS.ifYes X.here C.1 rfl (pc0 := pc) (pc' := tpc) rfl (hb C.2.1 hd) rfl (Jvm.Free.XT.ll_ge_t q) (by omega) (by omega) k
  · have q := Decidable.not_not.mp q
    exact (no q).st fun t k => Jvm.Free.XS.ifNo X.here C.1 rfl (hb C.2.1 hd) rfl (Jvm.Free.XT.ll_ge_f q) k
theorem k_ifl_gt (C : own_C p s m meth c Z own nm code ml rt) (X : own_S p l e R s m args below meth c Z T L k n) {x y : Int64} {o : Int} (hd : decode code pc = .ok (.ifCond .gt o, 3)) (hp : pc + 3 = npc) (ht : (pc : Int) + o = (tpc : Int)) (yes : y < x → own_Go p.tables e below P (T.setTop (mkF m tpc ls st))) (no : ¬ y < x → own_Go p.tables e below P (T.setTop (mkF m npc ls st))) : own_Go p.tables e below P (T.setTop (mkF m pc ls (.int (Jvm.Free.XT.cmpL x y) :: st))) := by
  subst hp; obtain ⟨_, X, -, -⟩ := X
  by_cases q : y < x
  · exact (yes q).st fun t k => Jvm.Free.XS.ifYes X.here C.1 rfl (pc0 := pc) (pc' := tpc) rfl (hb C.2.1 hd) rfl (Jvm.Free.XT.ll_gt_t q) (by omega) (by omega) k
  · exact (no q).st fun t k => Jvm.Free.XS.ifNo X.here C.1 rfl (hb C.2.1 hd) rfl (Jvm.Free.XT.ll_gt_f q) k
theorem k_ifl_le (C : own_C p s m meth c Z own nm code ml rt) (X : own_S p l e R s m args below meth c Z T L k n) {x y : Int64} {o : Int} (hd : decode code pc = .ok (.ifCond .le o, 3)) (hp : pc + 3 = npc) (ht : (pc : Int) + o = (tpc : Int)) (yes : ¬ y < x → own_Go p.tables e below P (T.setTop (mkF m tpc ls st))) (no : y < x → own_Go p.tables e below P (T.setTop (mkF m npc ls st))) : own_Go p.tables e below P (T.setTop (mkF m pc ls (.int (Jvm.Free.XT.cmpL x y) :: st))) := by
  subst hp; obtain ⟨_, X, -, -⟩ := X
  by_cases q : ¬ y < x
  · exact (yes q).st fun t k => Jvm.Free.XS.ifYes X.here C.1 rfl (pc0 := pc) (pc' := tpc) rfl (hb C.2.1 hd) rfl (Jvm.Free.XT.ll_le_t q) (by omega) (by omega) k
  · have q := Decidable.not_not.mp q
    exact (no q).st fun t k => Jvm.Free.XS.ifNo X.here C.1 rfl (hb C.2.1 hd) rfl (Jvm.Free.XT.ll_le_f q) k
theorem k_ifdl_eq (C : own_C p s m meth c Z own nm code ml rt) (X : own_S p l e R s m args below meth c Z T L k n) {x y : UInt64} {o : Int} (hd : decode code pc = .ok (.ifCond .eq o, 3)) (hp : pc + 3 = npc) (ht : (pc : Int) + o = (tpc : Int)) (yes : (FP.dcmp x y = some .eq) → own_Go p.tables e below P (T.setTop (mkF m tpc ls st))) (no : ¬ (FP.dcmp x y = some .eq) → own_Go p.tables e below P (T.setTop (mkF m npc ls st))) : own_Go p.tables e below P (T.setTop (mkF m pc ls (.int (FP.cmpInt (-1) (FP.dcmp x y)) :: st))) := by
  subst hp; obtain ⟨_, X, -, -⟩ := X
  rcases hq : FP.dcmp x y with _ | (_ | _ | _) <;> simp only [hq] at yes no
  all_goals first
    | exact (yes (by simp)).st fun t k => Jvm.Free.XS.ifYes X.here C.1 rfl (pc0 := pc) (pc' := tpc) rfl (hb C.2.1 hd) rfl (by decide) (by omega) (by omega) k
    | exact (no (by simp)).st fun t k => Jvm.Free.XS.ifNo X.here C.1 rfl (hb C.2.1 hd) rfl (by decide) k
theorem k_ifdl_ne (C : own_C p s m meth c Z own nm code ml rt) (X : own_S p l e R s m args below meth c Z T L k n) {x y : UInt64} {o : Int} (hd : decode code pc = .ok (.ifCond .ne o, 3)) (hp : pc + 3 = npc) (ht : (pc : Int) + o = (tpc : Int)) (yes : ¬ (FP.dcmp x y = some .eq) → own_Go p.tables e below P (T.setTop (mkF m tpc ls st))) (no : (FP.dcmp x y = some .eq) → own_Go p.tables e below P (T.setTop (mkF m npc ls st))) : own_Go p.tables e below P (T.setTop (mkF m pc ls (.int (FP.cmpInt (-1) (FP.dcmp x y)) :: st))) := by
  subst hp; obtain ⟨_, X, -, -⟩ := X
  rcases hq : FP.dcmp x y with _ | (_ | _ | _) <;> simp only [hq] at yes no
  all_goals first
    | exact (yes (by simp)).st fun t k => Jvm.Free.XS.ifYes X.here C.1 rfl (pc0 := pc) (pc' := tpc) rfl (hb C.2.1 hd) rfl (by decide) (by omega) (by omega) k
    | exact (no (by simp)).st fun t k => Jvm.Free.XS.ifNo X.here C.1 rfl (hb C.2.1 hd) rfl (by decide) k
theorem k_ifdl_lt (C : own_C p s m meth c Z own nm code ml rt) (X : own_S p l e R s m args below meth c Z T L k n) {x y : UInt64} {o : Int} (hd : decode code pc = .ok (.ifCond .lt o, 3)) (hp : pc + 3 = npc) (ht : (pc : Int) + o = (tpc : Int)) (yes : (FP.dcmp x y = some .lt ∨ FP.dcmp x y = none) → own_Go p.tables e below P (T.setTop (mkF m tpc ls st))) (no : ¬ (FP.dcmp x y = some .lt ∨ FP.dcmp x y = none) → own_Go p.tables e below P (T.setTop (mkF m npc ls st))) : own_Go p.tables e below P (T.setTop (mkF m pc ls (.int (FP.cmpInt (-1) (FP.dcmp x y)) :: st))) := by
  subst hp; obtain ⟨_, X, -, -⟩ := X
  rcases hq : FP.dcmp x y with _ | (_ | _ | _) <;> simp only [hq] at yes no
  all_goals first
    | exact (yes (by simp)).st fun t k => Jvm.Free.XS.ifYes X.here C.1 rfl (pc0 := pc) (pc' := tpc) rfl (hb C.2.1 hd) rfl (by decide) (by omega) (by omega) k
    | exact (no (by simp)).st fun t k => Jvm.Free.XS.ifNo X.here C.1 rfl (hb C.2.1 hd) rfl (by decide) k
theorem k_ifdl_ge (C : own_C p s m meth c Z own nm code ml rt) (X : own_S p l e R s m args below meth c Z T L k n) {x y : UInt64} {o : Int} (hd : decode code pc = .ok (.ifCond .ge o, 3)) (hp : pc + 3 = npc) (ht : (pc : Int) + o = (tpc : Int)) (yes : ¬ (FP.dcmp x y = some .lt ∨ FP.dcmp x y = none) → own_Go p.tables e below P (T.setTop (mkF m tpc ls st))) (no : (FP.dcmp x y = some .lt ∨ FP.dcmp x y = none) → own_Go p.tables e below P (T.setTop (mkF m npc ls st))) : own_Go p.tables e below P (T.setTop (mkF m pc ls (.int (FP.cmpInt (-1) (FP.dcmp x y)) :: st))) := by
  subst hp; obtain ⟨_, X, -, -⟩ := X
  rcases hq : FP.dcmp x y with _ | (_ | _ | _) <;> simp only [hq] at yes no
  all_goals first
    | exact (yes (by simp)).st fun t k => Jvm.Free.XS.ifYes X.here C.1 rfl (pc0 := pc) (pc' := tpc) rfl (hb C.2.1 hd) rfl (by decide) (by omega) (by omega) k
    | exact (no (by simp)).st fun t k => Jvm.Free.XS.ifNo X.here C.1 rfl (hb C.2.1 hd) rfl (by decide) k
theorem k_ifdl_gt (C : own_C p s m meth c Z own nm code ml rt) (X : own_S p l e R s m args below meth c Z T L k n) {x y : UInt64} {o : Int} (hd : decode code pc = .ok (.ifCond .gt o, 3)) (hp : pc + 3 = npc) (ht : (pc : Int) + o = (tpc : Int)) (yes : (FP.dcmp x y = some .gt) → own_Go p.tables e below P (T.setTop (mkF m tpc ls st))) (no : ¬ (FP.dcmp x y = some .gt) → own_Go p.tables e below P (T.setTop (mkF m npc ls st))) : own_Go p.tables e below P (T.setTop (mkF m pc ls (.int (FP.cmpInt (-1) (FP.dcmp x y)) :: st))) := by
  subst hp; obtain ⟨_, X, -, -⟩ := X
  rcases hq : FP.dcmp x y with _ | (_ | _ | _) <;> simp only [hq] at yes no
  all_goals first
    | exact (yes (by simp)).st fun t k => Jvm.Free.XS.ifYes X.here C.1 rfl (pc0 := pc) (pc' := tpc) rfl (hb C.2.1 hd) rfl (by decide) (by omega) (by omega) k
    | exact (no (by simp)).st fun t k => Jvm.Free.XS.ifNo X.here C.1 rfl (hb C.2.1 hd) rfl (by decide) k
theorem k_ifdl_le (C : own_C p s m meth c Z own nm code ml rt) (X : own_S p l e R s m args below meth c Z T L k n) {x y : UInt64} {o : Int} (hd : decode code pc = .ok (.ifCond .le o, 3)) (hp : pc + 3 = npc) (ht : (pc : Int) + o = (tpc : Int)) (yes : ¬ (FP.dcmp x y = some .gt) → own_Go p.tables e below P (T.setTop (mkF m tpc ls st))) (no : (FP.dcmp x y = some .gt) → own_Go p.tables e below P (T.setTop (mkF m npc ls st))) : own_Go p.tables e below P (T.setTop (mkF m pc ls (.int (FP.cmpInt (-1) (FP.dcmp x y)) :: st))) := by
  subst hp; obtain ⟨_, X, -, -⟩ := X
  rcases hq : FP.dcmp x y with _ | (_ | _ | _) <;> simp only [hq] at yes no
  all_goals first
    | exact (yes (by simp)).st fun t k => Jvm.Free.XS.ifYes X.here C.1 rfl (pc0 := pc) (pc' := tpc) rfl (hb C.2.1 hd) rfl (by decide) (by omega) (by omega) k
    | exact (no (by simp)).st fun t k => Jvm.Free.XS.ifNo X.here C.1 rfl (hb C.2.1 hd) rfl (by decide) k
theorem k_ifdg_eq (C : own_C p s m meth c Z own nm code ml rt) (X : own_S p l e R s m args below meth c Z T L k n) {x y : UInt64} {o : Int} (hd : decode code pc = .ok (.ifCond .eq o, 3)) (hp : pc + 3 = npc) (ht : (pc : Int) + o = (tpc : Int)) (yes : (FP.dcmp x y = some .eq) → own_Go p.tables e below P (T.setTop (mkF m tpc ls st))) (no : ¬ (FP.dcmp x y = some .eq) → own_Go p.tables e below P (T.setTop (mkF m npc ls st))) : own_Go p.tables e below P (T.setTop (mkF m pc ls (.int (FP.cmpInt 1 (FP.dcmp x y)) :: st))) := by
  subst hp; obtain ⟨_, X, -, -⟩ := X
  rcases hq : FP.dcmp x y with _ | (_ | _ | _) <;> simp only [hq] at yes no
  all_goals first
    | exact (yes (by simp)).st fun t k => Jvm.Free.XS.ifYes X.here C.1 rfl (pc0 := pc) (pc' := tpc) rfl (hb C.2.1 hd) rfl (by decide) (by omega) (by omega) k
    | exact (no (by simp)).st fun t k => Jvm.Free.XS.ifNo X.here C.1 rfl (hb C.2.1 hd) rfl (by decide) k
theorem k_ifdg_ne (C : own_C p s m meth c Z own nm code ml rt) (X : own_S p l e R s m args below meth c Z T L k n) {x y : UInt64} {o : Int} (hd : decode code pc = .ok (.ifCond .ne o, 3)) (hp : pc + 3 = npc) (ht : (pc : Int) + o = (tpc : Int)) (yes : ¬ (FP.dcmp x y = some .eq) → own_Go p.tables e below P (T.setTop (mkF m tpc ls st))) (no : (FP.dcmp x y = some .eq) → own_Go p.tables e below P (T.setTop (mkF m npc ls st))) : own_Go p.tables e below P (T.setTop (mkF m pc ls (.int (FP.cmpInt 1 (FP.dcmp x y)) :: st))) := by
  subst hp; obtain ⟨_, X, -, -⟩ := X
  rcases hq : FP.dcmp x y with _ | (_ | _ | _) <;> simp only [hq] at yes no
  all_goals first
    | exact (yes (by simp)).st fun t k => Jvm.Free.XS.ifYes X.here C.1 rfl (pc0 := pc) (pc' := tpc) rfl (hb C.2.1 hd) rfl (by decide) (by omega) (by omega) k
    | exact (no (by simp)).st fun t k => Jvm.Free.XS.ifNo X.here C.1 rfl (hb C.2.1 hd) rfl (by decide) k
theorem k_ifdg_lt (C : own_C p s m meth c Z own nm code ml rt) (X : own_S p l e R s m args below meth c Z T L k n) {x y : UInt64} {o : Int} (hd : decode code pc = .ok (.ifCond .lt o, 3)) (hp : pc + 3 = npc) (ht : (pc : Int) + o = (tpc : Int)) (yes : (FP.dcmp x y = some .lt) → own_Go p.tables e below P (T.setTop (mkF m tpc ls st))) (no : ¬ (FP.dcmp x y = some .lt) → own_Go p.tables e below P (T.setTop (mkF m npc ls st))) : own_Go p.tables e below P (T.setTop (mkF m pc ls (.int (FP.cmpInt 1 (FP.dcmp x y)) :: st))) := by
  subst hp; obtain ⟨_, X, -, -⟩ := X
  rcases hq : FP.dcmp x y with _ | (_ | _ | _) <;> simp only [hq] at yes no
  all_goals first
    | exact (yes (by simp)).st fun t k => Jvm.Free.XS.ifYes X.here C.1 rfl (pc0 := pc) (pc' := tpc) rfl (hb C.2.1 hd) rfl (by decide) (by omega) (by omega) k
    | exact (no (by simp)).st fun t k => Jvm.Free.XS.ifNo X.here C.1 rfl (hb C.2.1 hd) rfl (by decide) k
theorem k_ifdg_ge (C : own_C p s m meth c Z own nm code ml rt) (X : own_S p l e R s m args below meth c Z T L k n) {x y : UInt64} {o : Int} (hd : decode code pc = .ok (.ifCond .ge o, 3)) (hp : pc + 3 = npc) (ht : (pc : Int) + o = (tpc : Int)) (yes : ¬ (FP.dcmp x y = some .lt) → own_Go p.tables e below P (T.setTop (mkF m tpc ls st))) (no : (FP.dcmp x y = some .lt) → own_Go p.tables e below P (T.setTop (mkF m npc ls st))) : own_Go p.tables e below P (T.setTop (mkF m pc ls (.int (FP.cmpInt 1 (FP.dcmp x y)) :: st))) := by
  subst hp; obtain ⟨_, X, -, -⟩ := X
  rcases hq : FP.dcmp x y with _ | (_ | _ | _) <;> simp only [hq] at yes no
  all_goals first
    | exact (yes (by simp)).st fun t k => Jvm.Free.XS.ifYes X.here C.1 rfl (pc0 := pc) (pc' := tpc) rfl (hb C.2.1 hd) rfl (by decide) (by omega) (by omega) k
    | exact (no (by simp)).st fun t k => Jvm.Free.XS.ifNo X.here C.1 rfl (hb C.2.1 hd) rfl (by decide) k
theorem k_ifdg_gt (C : own_C p s m meth c Z own nm code ml rt) (X : own_S p l e R s m args below meth c Z T L k n) {x y : UInt64} {o : Int} (hd : decode code pc = .ok (.ifCond .gt o, 3)) (hp : pc + 3 = npc) (ht : (pc : Int) + o = (tpc : Int)) (yes : (FP.dcmp x y = some .gt ∨ FP.dcmp x y = none) → own_Go p.tables e below P (T.setTop (mkF m tpc ls st))) (no : ¬ (FP.dcmp x y = some .gt ∨ FP.dcmp x y = none) → own_Go p.tables e below P (T.setTop (mkF m npc ls st))) : own_Go p.tables e below P (T.setTop (mkF m pc ls (.int (FP.cmpInt 1 (FP.dcmp x y)) :: st))) := by
  subst hp; obtain ⟨_, X, -, -⟩ := X
  rcases hq : FP.dcmp x y with _ | (_ | _ | _) <;> simp only [hq] at yes no
  all_goals first
    | exact (yes (by simp)).st fun t k => Jvm.Free.XS.ifYes X.here C.1 rfl (pc0 := pc) (pc' := tpc) rfl (hb C.2.1 hd) rfl (by decide) (by omega) (by omega) k
    | exact (no (by simp)).st fun t k => Jvm.Free.XS.ifNo X.here C.1 rfl (hb C.2.1 hd) rfl (by decide) k
theorem k_ifdg_le (C : own_C p s m meth c Z own nm code ml rt) (X : own_S p l e R s m args below meth c Z T L k n) {x y : UInt64} {o : Int} (hd : decode code pc = .ok (.ifCond .le o, 3)) (hp : pc + 3 = npc) (ht : (pc : Int) + o = (tpc : Int)) (yes : ¬ (FP.dcmp x y = some .gt ∨ FP.dcmp x y = none) → own_Go p.tables e below P (T.setTop (mkF m tpc ls st))) (no : (FP.dcmp x y = some .gt ∨ FP.dcmp x y = none) → own_Go p.tables e below P (T.setTop (mkF m npc ls st))) : own_Go p.tables e below P (T.setTop (mkF m pc ls (.int (FP.cmpInt 1 (FP.dcmp x y)) :: st))) := by
  subst hp; obtain ⟨_, X, -, -⟩ := X
  rcases hq : FP.dcmp x y with _ | (_ | _ | _) <;> simp only [hq] at yes no
  all_goals first
    | exact (yes (by simp)).st fun t k => Jvm.Free.XS.ifYes X.here C.1 rfl (pc0 := pc) (pc' := tpc) rfl (hb C.2.1 hd) rfl (by decide) (by omega) (by omega) k
    | exact (no (by simp)).st fun t k => Jvm.Free.XS.ifNo X.here C.1 rfl (hb C.2.1 hd) rfl (by decide) k
theorem k_ifnull_y (C : own_C p s m meth c Z own nm code ml rt) (X : own_S p l e R s m args below meth c Z T L k n)  {o : Int} (hd : decode code pc = .ok (.ifnull o, 3)) (ht : (pc : Int) + o = (tpc : Int)) (g : own_Go p.tables e below P (T.setTop (mkF m tpc ls st))) : own_Go p.tables e below P (T.setTop (mkF m pc ls (.null :: st))) := by
  obtain ⟨_, X, -, -⟩ := X
  exact g.st fun t k => Jvm.Free.XS.ifnullYes X.here C.1 rfl (pc0 := pc) (pc' := tpc) rfl (hb C.2.1 hd) rfl (by omega) (by omega) k
theorem k_ifnull_n (C : own_C p s m meth c Z own nm code ml rt) (X : own_S p l e R s m args below meth c Z T L k n) {b : Addr} {o : Int} (hd : decode code pc = .ok (.ifnull o, 3)) (hp : pc + 3 = npc) (g : own_Go p.tables e below P (T.setTop (mkF m npc ls st))) : own_Go p.tables e below P (T.setTop (mkF m pc ls (.ref b :: st))) := by
  subst hp; obtain ⟨_, X, -, -⟩ := X
  exact g.st fun t k => Jvm.Free.XS.ifnullNo X.here C.1 rfl (hb C.2.1 hd) rfl k
theorem k_ifnonnull_y (C : own_C p s m meth c Z own nm code ml rt) (X : own_S p l e R s m args below meth c Z T L k n) {b : Addr} {o : Int} (hd : decode code pc = .ok (.ifnonnull o, 3)) (ht : (pc : Int) + o = (tpc : Int)) (g : own_Go p.tables e below P (T.setTop (mkF m tpc ls st))) : own_Go p.tables e below P (T.setTop (mkF m pc ls (.ref b :: st))) := by
  obtain ⟨_, X, -, -⟩ := X
  exact g.st fun t k => Jvm.Free.XT.ifnonnullYes X.here C.1 rfl (pc0 := pc) (pc' := tpc) rfl (hb C.2.1 hd) rfl (by omega) (by omega) k
theorem k_ifnonnull_n (C : own_C p s m meth c Z own nm code ml rt) (X : own_S p l e R s m args below meth c Z T L k n)  {o : Int} (hd : decode code pc = .ok (.ifnonnull o, 3)) (hp : pc + 3 = npc) (g : own_Go p.tables e below P (T.setTop (mkF m npc ls st))) : own_Go p.tables e below P (T.setTop (mkF m pc ls (.null :: st))) := by
  subst hp; obtain ⟨_, X, -, -⟩ := X
  exact g.st fun t k => Jvm.Free.XT.ifnonnullNo X.here C.1 rfl (hb C.2.1 hd) rfl k
theorem k_acmp_eq (C : own_C p s m meth c Z own nm code ml rt) (X : own_S p l e R s m args below meth c Z T L k n) {x y : Value} {o : Int} (hd : decode code pc = .ok (.if_acmp .eq o, 3)) (hp : pc + 3 = npc) (ht : (pc : Int) + o = (tpc : Int)) (hx : x.isRef = true) (hy : y.isRef = true) (yes : x = y → own_Go p.tables e below P (T.setTop (mkF m tpc ls st))) (no : ¬ x = y → own_Go p.tables e below P (T.setTop (mkF m npc ls st))) : own_Go p.tables e below P (T.setTop (mkF m pc ls (y :: x :: st))) := by
  subst hp; obtain ⟨_, X, -, -⟩ := X
  by_cases q : x = y
  · exact (yes q).st fun t k => Jvm.Free.XT.acmpYes X.here C.1 rfl (pc0 := pc) (pc' := tpc) rfl (hb C.2.1 hd) rfl hx hy (Jvm.Free.XT.aa_eq_t q) (by omega) (by omega) k
  · exact (no q).st fun t k => Jvm.Free.XT.acmpNo X.here C.1 rfl (hb C.2.1 hd) rfl hx hy (Jvm.Free.XT.aa_eq_f q) k
theorem k_acmp_ne (C : own_C p s m meth c Z own nm code ml rt) (X : own_S p l e R s m args below meth c Z T L k n) {x y : Value} {o : Int} (hd : decode code pc = .ok (.if_acmp .ne o, 3)) (hp : pc + 3 = npc) (ht : (pc : Int) + o = (tpc : Int)) (hx : x.isRef = true) (hy : y.isRef = true) (yes : ¬ x = y → own_Go p.tables e below P (T.setTop (mkF m tpc ls st))) (no : x = y → own_Go p.tables e below P (T.setTop (mkF m npc ls st))) : own_Go p.tables e below P (T.setTop (mkF m pc ls (y :: x :: st))) := by
  subst hp; obtain ⟨_, X, -, -⟩ := X
  by_cases q : ¬ x = y
  · exact (yes q).st fun t k => Jvm.Free.XT.acmpYes X.here C.1 rfl (pc0 := pc) (pc' := tpc) rfl (hb C.2.1 hd) rfl hx hy (Jvm.Free.XT.aa_ne_t q) (by omega) (by omega) k
  · have q := Decidable.not_not.mp q
    exact (no q).st fun t k => Jvm.Free.XT.acmpNo X.here C.1 rfl (hb C.2.1 hd) rfl hx hy (Jvm.Free.XT.aa_ne_f q) k
theorem k_ldc (C : own_C p s m meth c Z own nm code ml rt) (X : own_S p l e R s m args below meth c Z T L k n) {i : Nat} {v : Int32} (hd : decode code pc = .ok (.ldc i, 2)) (hp : pc + 2 = npc) (hw : (Jvm.Cond.constant own i v).before a0 Z = true) (g : own_Go p.tables e below P (T.setTop (mkF m npc ls (.int v :: st)))) : own_Go p.tables e below P (T.setTop (mkF m pc ls st)) := by
  subst hp; obtain ⟨_, X, -, -⟩ := X
  exact g.st fun t k => X.ldcI C.1 C.2.2.2.2.1 (mv C.2.2.2.1 hw) rfl (hb C.2.1 hd) k
theorem k_ldc2l (C : own_C p s m meth c Z own nm code ml rt) (X : own_S p l e R s m args below meth c Z T L k n) {i : Nat} {v : Int64} (hd : decode code pc = .ok (.ldc2_w i, 3)) (hp : pc + 3 = npc) (hw : (Jvm.Cond.constantLong own i v).before a0 Z = true) (g : own_Go p.tables e below P (T.setTop (mkF m npc ls (.long v :: st)))) : own_Go p.tables e below P (T.setTop (mkF m pc ls st)) := by
  subst hp; obtain ⟨_, X, -, -⟩ := X
  exact g.st fun t k => X.ldc2J C.1 C.2.2.2.2.1 (mv C.2.2.2.1 hw) rfl (hb C.2.1 hd) k
theorem k_ldc2d (C : own_C p s m meth c Z own nm code ml rt) (X : own_S p l e R s m args below meth c Z T L k n) {i : Nat} {v : UInt64} (hd : decode code pc = .ok (.ldc2_w i, 3)) (hp : pc + 3 = npc) (hw : (Jvm.Cond.constantDouble own i v).before a0 Z = true) (g : own_Go p.tables e below P (T.setTop (mkF m npc ls (.double v :: st)))) : own_Go p.tables e below P (T.setTop (mkF m pc ls st)) := by
  subst hp; obtain ⟨_, X, -, -⟩ := X
  exact g.st fun t k => X.ldc2DoubleC C.1 C.2.2.2.2.1 (mv C.2.2.2.1 hw) (g := mkF m pc ls st) rfl (hb C.2.1 hd) _ k
theorem k_new (C : own_C p s m meth c Z own nm code ml rt) (X : own_S p l e R s m args below meth c Z T L k n) {i sl : Nat} {K : String} {N : List (String × String × FieldType)} {fs : List (String × String × Value)} (hd : decode code pc = .ok (.new i, 3)) (hp : pc + 3 = npc) (w1 : (Jvm.Cond.classLink own i K).before a0 Z = true) (w2 : (Jvm.Cond.instantiable K sl).before a0 Z = true) (w3 : (Jvm.Cond.initialized K).before a0 Z = true) (hN : own_lay Z a0 K N) (hfs : N.map (fun q => (q.1, q.2.1, defaultValue q.2.2)) = fs) (hk : k + 1 ≤ R.cells) (hn : n + sl ≤ R.slots)
    (g : ∀ T' a, own_S p l e R s m args below meth c Z T' ((a, own_ob Z K fs) :: L) (k + 1) (n + sl) → own_Go p.tables e below P (T'.setTop (mkF m npc ls (.ref a :: st)))) : own_Go p.tables e below P (T.setTop (mkF m pc ls st)) := by
  subst hp hfs; obtain ⟨locs, X, hF, hH⟩ := X
  obtain ⟨T', h', X', e', E', A', D', -, st'⟩ := newO X C.1 C.2.2.2.1 C.2.2.2.2.1 w1 w2 w3 rfl (g := mkF m pc ls st) rfl (hb C.2.1 hd) hk hn
  subst e'
  refine (g T' _ ⟨locs, X', hF, ?_⟩).st st'
  obtain ⟨c', q1, q2⟩ : ∃ c', T'.heap[T.heap.size]? = some c' ∧ own_ex Z K c' := by obtain ⟨c', kk, h1, r⟩ := A'; exact ⟨c', h1, kk, r⟩
  refine hH.push E' q1 ⟨q2, fun q hq => ?_⟩
  obtain ⟨r, hr, rfl⟩ := List.mem_map.mp hq
  obtain ⟨r1, r2⟩ := hN.mem r hr
  exact own_fd.of q1 (D' r1 r2)

theorem k_getfield (C : own_C p s m meth c Z own nm code ml rt) (X : own_S p l e R s m args below meth c Z T L k n) {i : Nat} {K f d host : String} {a : Addr} {v : Value} (hd : decode code pc = .ok (.getfield i, 3)) (hp : pc + 3 = npc) (hw : (Jvm.Cond.fieldLink own i K f d).before a0 Z = true ∨ (Jvm.Cond.fieldLinkNest own i K f d host).before a0 Z = true) (hF' : own_H Z.heap T.heap L → Fld Z T.heap a K f d v)
    (g : ∀ T', own_S p l e R s m args below meth c Z T' L k n → own_Go p.tables e below P (T'.setTop (mkF m npc ls (v :: st)))) : own_Go p.tables e below P (T.setTop (mkF m pc ls (.ref a :: st))) := by
  subst hp; obtain ⟨locs, X, hF, hH⟩ := X
  obtain ⟨T', X', e', st'⟩ := getF X C.1 C.2.2.2.1 C.2.2.2.2.1 hw Via.refl rfl (hF' hH) (g := mkF m pc ls (.ref a :: st)) rfl rfl (hb C.2.1 hd)
  exact (g T' ⟨locs, X', hF, by rw [e']; exact hH⟩).st st'

theorem k_putfield (C : own_C p s m meth c Z own nm code ml rt) (X : own_S p l e R s m args below meth c Z T L k n) {i ix j sl : Nat} {K f d host : String} {a : Addr} {v old : Value} {fs fs' : List (String × String × Value)} {N : List (String × String × FieldType)} {ty : FieldType} {L' : List (Addr × (Cell → Prop))} (hd : decode code pc = .ok (.putfield i, 3)) (hp : pc + 3 = npc) (hw : (Jvm.Cond.fieldLink own i K f d).before a0 Z = true ∨ (Jvm.Cond.fieldLinkNest own i K f d host).before a0 Z = true) (w2 : (Jvm.Cond.instantiable K sl).before a0 Z = true) (hlay : (Jvm.Cond.lays K K f d).before a0 Z = true ∨ ((Jvm.Cond.laysFinal K K f d).before a0 Z = true ∧ own = K ∧ nm = "<init>"))
    (hN : own_lay Z a0 K N) (hND : (N.map (·.1)).Nodup) (hi : L[ix]? = some (a, own_ob Z K fs)) (hfN : fs.map (fun q => (q.1, q.2.1)) = N.map (fun q => (q.1, q.2.1))) (hj : fs[j]? = some (f, d, old)) (hfs : fs.set j (f, d, v) = fs') (hty : parseFieldDescriptor d = some ty) (hnar : narrow ty v = v) (hfit : fits ty v = true) (hL : L.set ix (a, own_ob Z K fs') = L')
    (g : ∀ T', own_S p l e R s m args below meth c Z T' L' k n → own_Go p.tables e below P (T'.setTop (mkF m npc ls st))) : own_Go p.tables e below P (T.setTop (mkF m pc ls (v :: .ref a :: st))) := by
  subst hp hfs hL; obtain ⟨locs, X, hF, hH⟩ := X
  obtain ⟨ha, cc, h1, h2⟩ := hH.get hi
  have F := (h2.2 _ (List.mem_of_getElem? hj)).fld h1
  obtain ⟨T', h', X', e', W', st'⟩ := putF X C.1 C.2.2.2.1 C.2.2.2.2.1 hw Via.refl rfl F (h2.1.exa h1) (hlay.imp id fun q => ⟨q.1, q.2.1, C.2.2.2.2.2.1.trans q.2.2⟩) w2 hty hnar hfit (g := mkF m pc ls (v :: .ref a :: st)) rfl rfl (hb C.2.1 hd)
  subst e'
  refine (g T' ⟨_, X', Fr.snoc X' hF ha, ?_⟩).st st'
  have hname : ∀ q ∈ fs, ∃ t, Laid Z a0 K K q.1 q.2.1 ∧ parseFieldDescriptor q.2.1 = some t := fun q hq => by
    have : (q.1, q.2.1) ∈ N.map (fun q => (q.1, q.2.1)) := by rw [← hfN]; exact List.mem_map.mpr ⟨q, hq, rfl⟩
    obtain ⟨r, hr, e⟩ := List.mem_map.mp this
    obtain ⟨r1, r2⟩ := hN.mem r hr
    have e1 : r.1 = q.1 := congrArg Prod.fst e
    have e2 : r.2.1 = q.2.1 := congrArg Prod.snd e
    exact ⟨_, by rw [← e1, ← e2]; exact r1, by rw [← e2]; exact r2⟩
  have hnd : (fs.map (·.1)).Nodup := by
    have : fs.map (·.1) = N.map (·.1) := by
      have := congrArg (List.map Prod.fst) hfN
      simpa [List.map_map, Function.comp_def] using this
    rw [this]; exact hND
  obtain ⟨t1, hl1, hp1⟩ := hname _ (List.mem_of_getElem? hj)
  refine hH.set hi W' fun c hc hsl => ⟨?_, fun q hq => ?_⟩
  · obtain ⟨k1, r1, r2, r3, r4⟩ := hc.1
    exact ⟨k1, r1, r2, r3, fun q => by rw [← r4 q]; simp [Cell.setSlot]⟩
  · rcases own_setmem hq with rfl | ⟨j', hj', e⟩
    · obtain ⟨cf, k1, i1, f1, r1, r2, r3, r4, r5, r6⟩ := hc.2 _ (List.mem_of_getElem? hj)
      refine ⟨cf, k1, i1, f1, r1, r2, r3, r4, r5, ?_⟩
      have es : Jvm.RoadKit.slotOf Z K f d = f1.slot := by simp [Jvm.RoadKit.slotOf, r1]
      rw [es] at hsl ⊢
      simp [Cell.setSlot, hsl]
    · obtain ⟨cf, k1, i1, f1, r1, r2, r3, r4, r5, r6⟩ := hc.2 q (List.mem_of_getElem? e)
      refine ⟨cf, k1, i1, f1, r1, r2, r3, r4, r5, ?_⟩
      obtain ⟨t2, hl2, hp2⟩ := hname q (List.mem_of_getElem? e)
      have hne : q.1 ≠ f := own_nodup_ne (L := fs.map (·.1)) hnd (i := j') (j := j) (by rw [List.getElem?_map, e]; rfl) (by rw [List.getElem?_map, hj]; rfl) hj'
      have hs := slot_ne hl2 hl1 hne hp2 hp1
      have es : Jvm.RoadKit.slotOf Z K q.1 q.2.1 = f1.slot := by simp [Jvm.RoadKit.slotOf, r1]
      rw [es] at hs
      rw [← r6]
      simp only [Cell.setSlot]
      exact Array.getElem?_setIfInBounds_ne (fun z => hs z.symm)

theorem k_getstatic (C : own_C p s m meth c Z own nm code ml rt) (X : own_S p l e R s m args below meth c Z T L k n) {i : Nat} {K f d : String} {v : Value} (hd : decode code pc = .ok (.getstatic i, 3)) (hp : pc + 3 = npc) (hw : (Jvm.Cond.fieldLink own i K f d).before a0 Z = true) (F : Sta Z Z.heap K f d v)
    (g : ∀ T', own_S p l e R s m args below meth c Z T' L k n → own_Go p.tables e below P (T'.setTop (mkF m npc ls (v :: st)))) : own_Go p.tables e below P (T.setTop (mkF m pc ls st)) := by
  subst hp; obtain ⟨locs, X, hF, hH⟩ := X
  obtain ⟨T', X', e', st'⟩ := getS X C.1 C.2.2.2.1 (host := "") C.2.2.2.2.1 hw Via.refl rfl (F.ext hH.1) (g := mkF m pc ls st) rfl (hb C.2.1 hd)
  exact (g T' ⟨locs, X', hF, by rw [e']; exact hH⟩).st st'

theorem k_newarray (C : own_C p s m meth c Z own nm code ml rt) (X : own_S p l e R s m args below meth c Z T L k n) {aty : ArrayType} {ty : FieldType} {z : Int32} {cap : Nat} {vs : List Value} (hd : decode code pc = .ok (.newarray aty, 2)) (hp : pc + 2 = npc) (hty : newarray.typeOf aty = ty) (w1 : (Jvm.Cond.arrayClass ty).before a0 Z = true) (hz : ¬ z < 0) (hcap : z.toNatClampNeg ≤ cap) (hb' : cap * 8 ≤ 536870912) (hk : k + 1 ≤ R.cells) (hn : n + cap ≤ R.slots) (hvs : List.replicate z.toNatClampNeg (defaultValue ty) = vs)
    (g : ∀ T' a, own_S p l e R s m args below meth c Z T' ((a, own_ar Z ty vs) :: L) (k + 1) (n + cap) → own_Go p.tables e below P (T'.setTop (mkF m npc ls (.ref a :: st)))) : own_Go p.tables e below P (T.setTop (mkF m pc ls (.int z :: st))) := by
  subst hp hvs hty; obtain ⟨locs, X, hF, hH⟩ := X
  obtain ⟨T', h', cA, X', e', E', A', B', st'⟩ := newPE X C.1 C.2.2.2.1 w1 rfl (g := mkF m pc ls (.int z :: st)) rfl (hb C.2.1 hd) rfl hz hcap hb' hk hn (ad := "[" ++ (newarray.typeOf aty).toString) rfl
  subst e'
  refine (g T' _ ⟨locs, X', hF, ?_⟩).st st'
  exact hH.push E' A'.1 ⟨A'.2.1, A'.2.2, by simp [newA], own_ex.of B' A'.1⟩

theorem k_arraylength (C : own_C p s m meth c Z own nm code ml rt) (X : own_S p l e R s m args below meth c Z T L k n) {ix : Nat} {a : Addr} {ty : FieldType} {vs : List Value} {z : Int32} (hd : decode code pc = .ok (.arraylength, 1)) (hp : pc + 1 = npc) (hi : L[ix]? = some (a, own_ar Z ty vs)) (hz : vs.length.toInt32 = z) (g : own_Go p.tables e below P (T.setTop (mkF m npc ls (.int z :: st)))) : own_Go p.tables e below P (T.setTop (mkF m pc ls (.ref a :: st))) := by
  subst hp hz; obtain ⟨locs, X, hF, hH⟩ := X
  obtain ⟨-, cc, h1, h2⟩ := hH.get hi
  have e : cc.slots.size = vs.length := by rw [← h2.2.2.1]; simp
  rw [← e] at g
  exact g.st fun t k => X.arraylength C.1 h1 (State.isArrayOf_alike C.2.2.2.1.alike h2.1) (g := mkF m pc ls (.ref a :: st)) rfl rfl (hb C.2.1 hd) _ k
theorem own_in {j : Int32} {i : Nat} {c : Cell} {vs : List Value} {v : Value} (hn : ¬ j < 0) (hj : j.toNatClampNeg = i) (e : c.slots.toList = vs) (hv : vs[i]? = some v) : ¬ (j < 0 ∨ c.slots.size ≤ j.toNatClampNeg) ∧ c.slots[j.toNatClampNeg]? = some v := by
  subst hj e
  rw [Array.getElem?_toList] at hv
  have := (Array.getElem?_eq_some_iff.mp hv).1
  exact ⟨fun q => q.elim hn (by omega), hv⟩
theorem own_len32 (L : Nat) (h : L < 2147483648) : (L.toInt32).toNatClampNeg = L ∧ ¬ L.toInt32 < 0 := by
  have q : L.toInt32.toInt = L := len_toInt (by omega)
  simp only [Int32.lt_iff_toInt_lt, Int32.toNatClampNeg, q, Int32.reduceToInt]; omega

theorem k_iaload (C : own_C p s m meth c Z own nm code ml rt) (X : own_S p l e R s m args below meth c Z T L k n) {ix i : Nat} {a : Addr} {j : Int32} {vs : List Value} {v : Value} (hd : decode code pc = .ok (.iaload, 1)) (hp : pc + 1 = npc) (hi : L[ix]? = some (a, own_ar Z .int vs)) (hn : ¬ j < 0) (hj : j.toNatClampNeg = i) (hv : vs[i]? = some v) (g : own_Go p.tables e below P (T.setTop (mkF m npc ls (v :: st)))) : own_Go p.tables e below P (T.setTop (mkF m pc ls (.int j :: .ref a :: st))) := by
  subst hp; obtain ⟨locs, X, hF, hH⟩ := X
  obtain ⟨-, cc, h1, h2⟩ := hH.get hi
  obtain ⟨q1, q2⟩ := own_in hn hj h2.2.2.1 hv
  exact g.st fun t k => X.iaload C.1 h1 (State.isArrayOf_alike C.2.2.2.1.alike h2.1) h2.2.1 q1 q2 (g := mkF m pc ls (.int j :: .ref a :: st)) rfl rfl (hb C.2.1 hd) _ k

theorem k_daload (C : own_C p s m meth c Z own nm code ml rt) (X : own_S p l e R s m args below meth c Z T L k n) {ix i : Nat} {a : Addr} {j : Int32} {vs : List Value} {v : Value} (hd : decode code pc = .ok (.daload, 1)) (hp : pc + 1 = npc) (hi : L[ix]? = some (a, own_ar Z .double vs)) (hn : ¬ j < 0) (hj : j.toNatClampNeg = i) (hv : vs[i]? = some v) (g : own_Go p.tables e below P (T.setTop (mkF m npc ls (v :: st)))) : own_Go p.tables e below P (T.setTop (mkF m pc ls (.int j :: .ref a :: st))) := by
  subst hp; obtain ⟨locs, X, hF, hH⟩ := X
  obtain ⟨-, cc, h1, h2⟩ := hH.get hi
  obtain ⟨q1, q2⟩ := own_in hn hj h2.2.2.1 hv
  exact g.st fun t k => X.daload C.1 h1 (State.isArrayOf_alike C.2.2.2.1.alike h2.1) h2.2.1 q1 q2 (g := mkF m pc ls (.int j :: .ref a :: st)) rfl rfl (hb C.2.1 hd) _ k

theorem k_laload (C : own_C p s m meth c Z own nm code ml rt) (X : own_S p l e R s m args below meth c Z T L k n) {ix i : Nat} {a : Addr} {j : Int32} {vs : List Value} {v : Value} (hd : decode code pc = .ok (.laload, 1)) (hp : pc + 1 = npc) (hi : L[ix]? = some (a, own_ar Z .long vs)) (hn : ¬ j < 0) (hj : j.toNatClampNeg = i) (hv : vs[i]? = some v) (g : own_Go p.tables e below P (T.setTop (mkF m npc ls (v :: st)))) : own_Go p.tables e below P (T.setTop (mkF m pc ls (.int j :: .ref a :: st))) := by
  subst hp; obtain ⟨locs, X, hF, hH⟩ := X
  obtain ⟨-, cc, h1, h2⟩ := hH.get hi
  obtain ⟨q1, q2⟩ := own_in hn hj h2.2.2.1 hv
  exact g.st fun t k => X.laload C.1 h1 (State.isArrayOf_alike C.2.2.2.1.alike h2.1) h2.2.1 q1 q2 (g := mkF m pc ls (.int j :: .ref a :: st)) rfl rfl (hb C.2.1 hd) _ k

theorem k_caload (C : own_C p s m meth c Z own nm code ml rt) (X : own_S p l e R s m args below meth c Z T L k n) {ix i : Nat} {a : Addr} {j : Int32} {vs : List Value} {v : Value} (hd : decode code pc = .ok (.caload, 1)) (hp : pc + 1 = npc) (hi : L[ix]? = some (a, own_ar Z .char vs)) (hn : ¬ j < 0) (hj : j.toNatClampNeg = i) (hv : vs[i]? = some v) (g : own_Go p.tables e below P (T.setTop (mkF m npc ls (v :: st)))) : own_Go p.tables e below P (T.setTop (mkF m pc ls (.int j :: .ref a :: st))) := by
  subst hp; obtain ⟨locs, X, hF, hH⟩ := X
  obtain ⟨-, cc, h1, h2⟩ := hH.get hi
  obtain ⟨q1, q2⟩ := own_in hn hj h2.2.2.1 hv
  exact g.st fun t k => X.caload C.1 h1 (State.isArrayOf_alike C.2.2.2.1.alike h2.1) h2.2.1 q1 q2 (g := mkF m pc ls (.int j :: .ref a :: st)) rfl rfl (hb C.2.1 hd) _ k

theorem k_iastore (C : own_C p s m meth c Z own nm code ml rt) (X : own_S p l e R s m args below meth c Z T L k n) {ix i : Nat} {a : Addr} {j : Int32} {x : Int32} {vs vs' : List Value} {L' : List (Addr × (Cell → Prop))} (hd : decode code pc = .ok (.iastore, 1)) (hp : pc + 1 = npc) (hi : L[ix]? = some (a, own_ar Z .int vs)) (hn : ¬ j < 0) (hj : j.toNatClampNeg = i) (hl : i < vs.length) (hvs : vs.set i (.int x) = vs') (hL : L.set ix (a, own_ar Z .int vs') = L')
    (g : ∀ T', own_S p l e R s m args below meth c Z T' L' k n → own_Go p.tables e below P (T'.setTop (mkF m npc ls st))) : own_Go p.tables e below P (T.setTop (mkF m pc ls (.int x :: .int j :: .ref a :: st))) := by
  subst hp hvs hL; obtain ⟨locs, X, hF, hH⟩ := X
  obtain ⟨ha, cc, h1, h2⟩ := hH.get hi
  obtain ⟨q1, -⟩ := own_in hn hj h2.2.2.1 (List.getElem?_eq_getElem hl)
  obtain ⟨T', h', X', e', W', st'⟩ := stI X C.1 C.2.2.2.1 rfl (h2.arr h1) (j := j) (x := x) q1 (g := mkF m pc ls (.int x :: .int j :: .ref a :: st)) rfl rfl (hb C.2.1 hd)
  subst e'
  refine (g T' ⟨_, X', Fr.snoc X' hF ha, ?_⟩).st st'
  refine hH.set hi W' fun c hc hsl => ⟨hc.1, hc.2.1, ?_, ?_⟩
  · rw [← hc.2.2.1, hj]; simp [Cell.setSlot]
  · obtain ⟨k1, r1, r2, r3, r4⟩ := hc.2.2.2
    exact ⟨k1, r1, r2, r3, fun q => by rw [← r4 q]; simp [Cell.setSlot]⟩

theorem k_dastore (C : own_C p s m meth c Z own nm code ml rt) (X : own_S p l e R s m args below meth c Z T L k n) {ix i : Nat} {a : Addr} {j : Int32} {x : UInt64} {vs vs' : List Value} {L' : List (Addr × (Cell → Prop))} (hd : decode code pc = .ok (.dastore, 1)) (hp : pc + 1 = npc) (hi : L[ix]? = some (a, own_ar Z .double vs)) (hn : ¬ j < 0) (hj : j.toNatClampNeg = i) (hl : i < vs.length) (hvs : vs.set i (.double x) = vs') (hL : L.set ix (a, own_ar Z .double vs') = L')
    (g : ∀ T', own_S p l e R s m args below meth c Z T' L' k n → own_Go p.tables e below P (T'.setTop (mkF m npc ls st))) : own_Go p.tables e below P (T.setTop (mkF m pc ls (.double x :: .int j :: .ref a :: st))) := by
  subst hp hvs hL; obtain ⟨locs, X, hF, hH⟩ := X
  obtain ⟨ha, cc, h1, h2⟩ := hH.get hi
  obtain ⟨q1, -⟩ := own_in hn hj h2.2.2.1 (List.getElem?_eq_getElem hl)
  obtain ⟨T', h', X', e', W', st'⟩ := stD X C.1 C.2.2.2.1 rfl (h2.arr h1) (j := j) (x := x) q1 (g := mkF m pc ls (.double x :: .int j :: .ref a :: st)) rfl rfl (hb C.2.1 hd)
  subst e'
  refine (g T' ⟨_, X', Fr.snoc X' hF ha, ?_⟩).st st'
  refine hH.set hi W' fun c hc hsl => ⟨hc.1, hc.2.1, ?_, ?_⟩
  · rw [← hc.2.2.1, hj]; simp [Cell.setSlot]
  · obtain ⟨k1, r1, r2, r3, r4⟩ := hc.2.2.2
    exact ⟨k1, r1, r2, r3, fun q => by rw [← r4 q]; simp [Cell.setSlot]⟩

theorem k_lastore (C : own_C p s m meth c Z own nm code ml rt) (X : own_S p l e R s m args below meth c Z T L k n) {ix i : Nat} {a : Addr} {j : Int32} {x : Int64} {vs vs' : List Value} {L' : List (Addr × (Cell → Prop))} (hd : decode code pc = .ok (.lastore, 1)) (hp : pc + 1 = npc) (hi : L[ix]? = some (a, own_ar Z .long vs)) (hn : ¬ j < 0) (hj : j.toNatClampNeg = i) (hl : i < vs.length) (hvs : vs.set i (.long x) = vs') (hL : L.set ix (a, own_ar Z .long vs') = L')
    (g : ∀ T', own_S p l e R s m args below meth c Z T' L' k n → own_Go p.tables e below P (T'.setTop (mkF m npc ls st))) : own_Go p.tables e below P (T.setTop (mkF m pc ls (.long x :: .int j :: .ref a :: st))) := by
  subst hp hvs hL; obtain ⟨locs, X, hF, hH⟩ := X
  obtain ⟨ha, cc, h1, h2⟩ := hH.get hi
  obtain ⟨q1, -⟩ := own_in hn hj h2.2.2.1 (List.getElem?_eq_getElem hl)
  obtain ⟨T', h', X', e', W', st'⟩ := stJ X C.1 C.2.2.2.1 rfl (h2.arr h1) (j := j) (x := x) q1 (g := mkF m pc ls (.long x :: .int j :: .ref a :: st)) rfl rfl (hb C.2.1 hd)
  subst e'
  refine (g T' ⟨_, X', Fr.snoc X' hF ha, ?_⟩).st st'
  refine hH.set hi W' fun c hc hsl => ⟨hc.1, hc.2.1, ?_, ?_⟩
  · rw [← hc.2.2.1, hj]; simp [Cell.setSlot]
  · obtain ⟨k1, r1, r2, r3, r4⟩ := hc.2.2.2
    exact ⟨k1, r1, r2, r3, fun q => by rw [← r4 q]; simp [Cell.setSlot]⟩

theorem own_fitsD (xs : List UInt64) : ∀ v ∈ xs.map Value.double, fits .double v = true := fun v hv => by obtain ⟨x, -, rfl⟩ := List.mem_map.mp hv; rfl
theorem k_clone (C : own_C p s m meth c Z own nm code ml rt) (X : own_S p l e R s m args below meth c Z T L k n) {i ix cap W : Nat} {a : Addr} {ty : FieldType} {ad : String} {vs : List Value} (hd : decode code pc = .ok (.invokevirtual i, 3)) (hp : pc + 3 = npc) (w1 : (Jvm.Cond.methodLink own i ⟨ad, "clone", "()Ljava/lang/Object;"⟩).before a0 Z = true) (w2 : (Jvm.Cond.sameMethod ad "java/lang/Object" "clone" "()Ljava/lang/Object;").before a0 Z = true) (w3 : (Jvm.Cond.native ⟨"java/lang/Object", "clone", "()Ljava/lang/Object;"⟩).before a0 Z = true) (w4 : (Jvm.Cond.instanceMethod ⟨"java/lang/Object", "clone", "()Ljava/lang/Object;"⟩).before a0 Z = true) (w5 : (Jvm.Cond.selects ad ⟨ad, "clone", "()Ljava/lang/Object;"⟩ ⟨"java/lang/Object", "clone", "()Ljava/lang/Object;"⟩).before a0 Z = true) (w6 : (Jvm.Cond.castable ad "java/lang/Cloneable").before a0 Z = true)
    (hi : L[ix]? = some (a, own_ar Z ty vs)) (had : "[" ++ ty.toString = ad) (hfit : ∀ v ∈ vs, fits ty v = true) (hsz : ls.size = ml) (hW : (st.map fun v => v.category).sum ≤ W) (hf : 1 ≤ R.frames) (hlo : W + 14 ≤ R.locals) (hcap : vs.length ≤ cap) (hk : k + 1 ≤ R.cells) (hn : n + cap ≤ R.slots)
    (g : ∀ T' b, own_S p l e R s m args below meth c Z T' ((b, own_ar Z ty vs) :: L) (k + 1) (n + cap) → own_Go p.tables e below P (T'.setTop (mkF m npc ls (.ref b :: st)))) : own_Go p.tables e below P (T.setTop (mkF m pc ls (.ref a :: st))) := by
  subst hp had; obtain ⟨locs, X, hF, hH⟩ := X
  obtain ⟨-, cc, h1, h2⟩ := hH.get hi
  have A := h2.arr h1
  have FC : FitC Z cc := fitC_of A fun j hj v hv => hfit v (by rw [← h2.2.2.1]; exact Array.mem_toList_iff.mpr (Array.mem_of_getElem? hv))
  have hl : cc.slots.size = vs.length := by rw [← h2.2.2.1]; simp
  obtain ⟨T', h', X', e', E', A', B', st'⟩ := cloneA X C.1 C.2.2.2.1 C.2.2.2.2.1 w1 w2 w3 w4 w5 w6 rfl A (h2.2.2.2.exa h1) FC (g := mkF m pc ls (.ref a :: st)) rfl (hsz.trans C.2.2.1.symm) rfl (hb C.2.1 hd) hf (W := W) (cap := cap) (by show 2 * 0 + _ ≤ _; omega) hlo (by omega) hk hn
  subst e'
  refine (g T' _ ⟨locs, X', hF, ?_⟩).st st'
  exact hH.push E' A'.1 ⟨A'.2.1, A'.2.2, h2.2.2.1, own_ex.of B' A'.1⟩
theorem k_checkcast (C : own_C p s m meth c Z own nm code ml rt) (X : own_S p l e R s m args below meth c Z T L k n) {i : Nat} {a : Addr} {K : String} (hd : decode code pc = .ok (.checkcast i, 3)) (hp : pc + 3 = npc) (hw : (Jvm.Cond.classLink own i K).before a0 Z = true) (hI : own_H Z.heap T.heap L → Ins Z T.heap a K true)
    (g : ∀ T', own_S p l e R s m args below meth c Z T' L k n → own_Go p.tables e below P (T'.setTop (mkF m npc ls (.ref a :: st)))) : own_Go p.tables e below P (T.setTop (mkF m pc ls (.ref a :: st))) := by
  subst hp; obtain ⟨locs, X, hF, hH⟩ := X
  obtain ⟨T', X', e', st'⟩ := castY X C.1 C.2.2.2.1 C.2.2.2.2.1 hw rfl (hI hH) (g := mkF m pc ls (.ref a :: st)) rfl rfl (hb C.2.1 hd)
  exact (g T' ⟨locs, X', hF, by rw [e']; exact hH⟩).st st'
theorem own_iA {ix : Nat} {a : Addr} {ty : FieldType} {K : String} {vs : List Value} (hi : L[ix]? = some (a, own_ar Z ty vs)) (hK : "[" ++ ty.toString = K) (H : own_H Z.heap T.heap L) : Ins Z T.heap a K true := by
  subst hK
  obtain ⟨-, cc, h1, h2⟩ := H.get hi
  exact Ins.self (h2.2.2.2.exa h1)

theorem own_Con.back {y : MethodName} {bytes : ByteArray} {maxL : Nat} {ret : Option FieldType} {rm : Room} {as' : Array Value} {Q : Option Value → List (Addr × (Cell → Prop)) → Prop} (K : own_Con l Z y bytes maxL ret rm as' L Q) (hZ : Z.Warmed39 s.vm) (hH : own_H Z.heap T.heap L) (wc : (Jvm.Cond.code y bytes maxL ret).before a0 Z = true) (wz : (Jvm.Cond.initialized y.cls).before a0 Z = true) {W : Nat} (hf : rm.frames + 1 ≤ R.frames) (hl : W + (maxL + 11) + rm.locals ≤ R.locals) :
    Back l R p e below s args y 3 W (fun A a => a = as' ∧ A.U.heap = T.heap ∧ A.cells + rm.cells ≤ R.cells ∧ A.slots + rm.slots ≤ R.slots)
      (fun A _ v B => ∃ L0, (∃ M, Q v M ∧ own_H Z.heap B.U.heap M ∧ Fr Z.heap.size L0) ∧ B.locs = A.locs ++ L0 ∧ B.cells = A.cells + rm.cells ∧ B.slots = A.slots + rm.slots) :=
  backOf (h := T.heap) (Q := fun v h L0 => ∃ M, Q v M ∧ own_H Z.heap h M ∧ Fr Z.heap.size L0) ((K []).mono (fun a U q => ⟨q.1, q.2.1, by rw [q.2.2]; exact hH⟩) (fun _ _ _ _ _ q => q) fun a U o U' _ ⟨v, M, locs, q1, q2, q3, q4, q5⟩ => ⟨v, locs, q1, ⟨M, q2, q3, q4⟩, q5⟩) hZ wc wz hf hl
theorem own_Con.weak {y : MethodName} {bytes : ByteArray} {maxL : Nat} {ret : Option FieldType} {rm : Room} {as' : Array Value} {Q Q' : Option Value → List (Addr × (Cell → Prop)) → Prop} (K : own_Con l Z y bytes maxL ret rm as' L Q) (h : ∀ v M, Q v M → Q' v M) : own_Con l Z y bytes maxL ret rm as' L Q' := fun ws =>
  (K ws).mono (fun _ _ q => q) (fun _ _ _ _ _ q => q) fun a U o U' _ ⟨v, M, locs, q1, q2, q3⟩ => ⟨v, M, locs, q1, h v M q2, q3⟩

theorem k_static (C : own_C p s m meth c Z own nm code ml rt) (X : own_S p l e R s m args below meth c Z T L k n) {y : MethodName} {i : Nat} {bytes : ByteArray} {maxL : Nat} {ret : Option FieldType} {rm : Room} {as' : Array Value} {Q : Option Value → List (Addr × (Cell → Prop)) → Prop} {W : Nat} {rest argsL : List Value} {ps : List FieldType} {rr : Option FieldType} (hd : decode code pc = .ok (.invokestatic i, 3)) (hp : pc + 3 = npc) (w1 : (Jvm.Cond.methodLink own i y).before a0 Z = true) (w2 : (Jvm.Cond.static y).before a0 Z = true) (w3 : (Jvm.Cond.initialized y.cls).before a0 Z = true) (w4 : (Jvm.Cond.code y bytes maxL ret).before a0 Z = true) (hy : y.cls ≠ "java/lang/invoke/MethodHandle" ∧ y.cls ≠ "java/lang/invoke/VarHandle") (K : own_Con l Z y bytes maxL ret rm as' L Q) (hst : argsL.reverse ++ rest = st) (has : argsL.toArray = as') (hsz : ls.size = ml) (hpd : parseMethodDescriptor y.desc = some ⟨ps, rr⟩) (hle : argsL.length = ps.length) (hW : (rest.map fun v => v.category).sum ≤ W) (hf : rm.frames + 1 ≤ R.frames) (hlo : W + (maxL + 11) + rm.locals ≤ R.locals) (hk : k + rm.cells ≤ R.cells) (hn : n + rm.slots ≤ R.slots)
    (g : ∀ v T' M, Q v M → own_S p l e R s m args below meth c Z T' M (k + rm.cells) (n + rm.slots) → own_Go p.tables e below P (T'.setTop (mkF m npc ls (v.toList ++ rest)))) : own_Go p.tables e below P (T.setTop (mkF m pc ls st)) := by
  subst hp hst has; obtain ⟨locs, X, hF, hH⟩ := X
  obtain ⟨v, vm1, ⟨T1, Lq, kq, nq⟩, -, X1, ⟨L0, ⟨M, hQ, hH1, hF1⟩, hl1, hc1, hs1⟩, st1⟩ := Jvm.LawKit.callS X C.1 (y := y) C.2.2.2.2.1 (mvT C.2.2.2.1 w1) (mvT C.2.2.2.1 w2) (mvT C.2.2.2.1 w3) (mvT C.2.2.2.1 w4) hy (K.back (T := T) (W := W) C.2.2.2.1 hH w4 w3 hf hlo) (g := mkF m pc ls (argsL.reverse ++ rest)) rfl (hsz.trans C.2.2.1.symm) (argsL := argsL) (rest := rest) (lenOf hpd hle) rfl (by show 2 * 0 + _ ≤ _; omega) (hb C.2.1 hd) (fun _ _ => ⟨rfl, rfl, hk, hn⟩)
  dsimp only [Pt.U, Pt.locs, Pt.cells, Pt.slots] at X1 hl1 hc1 hs1 st1 hH1
  subst hl1 hc1 hs1
  exact (g v T1 M hQ ⟨_, X1, hF.app hF1, hH1⟩).st st1
theorem k_init (C : own_C p s m meth c Z own nm code ml rt) (X : own_S p l e R s m args below meth c Z T L k n) {y : MethodName} {i : Nat} {bytes : ByteArray} {maxL : Nat} {rm : Room} {as' : Array Value} {Q : Option Value → List (Addr × (Cell → Prop)) → Prop} {W : Nat} {rest argsL : List Value} {ps : List FieldType} {rr : Option FieldType} {a : Addr} (hd : decode code pc = .ok (.invokespecial i, 3)) (hp : pc + 3 = npc) (hnm : y.name = "<init>") (w1 : (Jvm.Cond.methodLink own i y).before a0 Z = true) (w2 : (Jvm.Cond.instanceMethod y).before a0 Z = true) (w3 : (Jvm.Cond.initialized y.cls).before a0 Z = true) (w4 : (Jvm.Cond.code y bytes maxL none).before a0 Z = true) (hy : y.cls ≠ "java/lang/invoke/MethodHandle" ∧ y.cls ≠ "java/lang/invoke/VarHandle") (K : own_Con l Z y bytes maxL none rm as' L Q) (hst : argsL.reverse ++ .ref a :: rest = st) (has : (.ref a :: argsL).toArray = as') (hsz : ls.size = ml) (hpd : parseMethodDescriptor y.desc = some ⟨ps, rr⟩) (hle : argsL.length = ps.length) (hW : (rest.map fun v => v.category).sum ≤ W) (hf : rm.frames + 1 ≤ R.frames) (hlo : W + (maxL + 11) + rm.locals ≤ R.locals) (hk : k + rm.cells ≤ R.cells) (hn : n + rm.slots ≤ R.slots)
    (g : ∀ v T' M, Q v M → own_S p l e R s m args below meth c Z T' M (k + rm.cells) (n + rm.slots) → own_Go p.tables e below P (T'.setTop (mkF m npc ls (v.toList ++ rest)))) : own_Go p.tables e below P (T.setTop (mkF m pc ls st)) := by
  subst hp hst has; obtain ⟨locs, X, hF, hH⟩ := X
  obtain ⟨v, vm1, ⟨T1, Lq, kq, nq⟩, -, X1, ⟨L0, ⟨M, hQ, hH1, hF1⟩, hl1, hc1, hs1⟩, st1⟩ := X.specialBack C.1 (y := y) hnm C.2.2.2.2.1 (mvT C.2.2.2.1 w1) (mvT C.2.2.2.1 w2) (mvT C.2.2.2.1 w4) hy (K.back (T := T) (W := W) C.2.2.2.1 hH w4 w3 hf hlo) (g := mkF m pc ls (argsL.reverse ++ .ref a :: rest)) rfl (hsz.trans C.2.2.1.symm) (Steps.refl _) (a := a) (argsL := argsL) (rest := rest) (lenOf hpd hle) rfl (by show 2 * 0 + _ ≤ _; omega) (hb C.2.1 hd) (fun _ _ => ⟨rfl, rfl, hk, hn⟩)
  dsimp only [Pt.U, Pt.locs, Pt.cells, Pt.slots] at X1 hl1 hc1 hs1 st1 hH1
  subst hl1 hc1 hs1
  exact (g v T1 M hQ ⟨_, X1, hF.app hF1, hH1⟩).st fun t q => st1.trans q
theorem k_virtual (C : own_C p s m meth c Z own nm code ml rt) (X : own_S p l e R s m args below meth c Z T L k n) {y : MethodName} {i : Nat} {bytes : ByteArray} {maxL : Nat} {ret : Option FieldType} {rm : Room} {as' : Array Value} {Q : Option Value → List (Addr × (Cell → Prop)) → Prop} {W : Nat} {rest argsL : List Value} {ps : List FieldType} {rr : Option FieldType} {K' : String} {a : Addr} (hd : decode code pc = .ok (.invokevirtual i, 3)) (hp : pc + 3 = npc) (w1 : (Jvm.Cond.methodLink own i y).before a0 Z = true) (w2 : (Jvm.Cond.declares y).before a0 Z = true) (w3 : (Jvm.Cond.initialized y.cls).before a0 Z = true) (w4 : (Jvm.Cond.code y bytes maxL ret).before a0 Z = true) (w5 : (Jvm.Cond.selects K' y y).before a0 Z = true) (w6 : (Jvm.Cond.instanceMethod y).before a0 Z = true) (hy : y.cls ≠ "java/lang/invoke/MethodHandle" ∧ y.cls ≠ "java/lang/invoke/VarHandle") (nf : NotFace s y) (hE : own_H Z.heap T.heap L → Exa Z T.heap a K') (K : own_Con l Z y bytes maxL ret rm as' L Q) (hst : argsL.reverse ++ .ref a :: rest = st) (has : (.ref a :: argsL).toArray = as') (hsz : ls.size = ml) (hpd : parseMethodDescriptor y.desc = some ⟨ps, rr⟩) (hle : argsL.length = ps.length) (hW : (rest.map fun v => v.category).sum ≤ W) (hf : rm.frames + 1 ≤ R.frames) (hlo : W + (maxL + 11) + rm.locals ≤ R.locals) (hk : k + rm.cells ≤ R.cells) (hn : n + rm.slots ≤ R.slots)
    (g : ∀ v T' M, Q v M → own_S p l e R s m args below meth c Z T' M (k + rm.cells) (n + rm.slots) → own_Go p.tables e below P (T'.setTop (mkF m npc ls (v.toList ++ rest)))) : own_Go p.tables e below P (T.setTop (mkF m pc ls st)) := by
  subst hp hst has; obtain ⟨locs, X, hF, hH⟩ := X
  obtain ⟨cB, kB, qa, -, qc⟩ := isOf (T := T) C.2.2.2.1 rfl (hE hH)
  obtain ⟨v, vm1, ⟨T1, Lq, kq, nq⟩, -, X1, ⟨L0, ⟨M, hQ, hH1, hF1⟩, hl1, hc1, hs1⟩, st1⟩ := X.virtualBack C.1 (y := y) (z := y) C.2.2.2.2.1 (mvT C.2.2.2.1 w1) (mvT C.2.2.2.1 w2) nf (mvT C.2.2.2.1 w5) (mvT C.2.2.2.1 w6) hy (K.back (T := T) (W := W) C.2.2.2.1 hH w4 w3 hf hlo) qa qc (g := mkF m pc ls (argsL.reverse ++ .ref a :: rest)) rfl (hsz.trans C.2.2.1.symm) (Steps.refl _) (argsL := argsL) (rest := rest) (lenOf hpd hle) rfl (by show 2 * 0 + _ ≤ _; omega) (hb C.2.1 hd) (fun _ _ => ⟨rfl, rfl, hk, hn⟩)
  dsimp only [Pt.U, Pt.locs, Pt.cells, Pt.slots] at X1 hl1 hc1 hs1 st1 hH1
  subst hl1 hc1 hs1
  exact (g v T1 M hQ ⟨_, X1, hF.app hF1, hH1⟩).st fun t q => st1.trans q
theorem k_initO (C : own_C p s m meth c Z own nm code ml rt) (X : own_S p l e R s m args below meth c Z T L k n) {i : Nat} {a : Addr} {W : Nat} (hd : decode code pc = .ok (.invokespecial i, 3)) (hp : pc + 3 = npc) (w1 : (Jvm.Cond.methodLink own i Lib.objectInit).before a0 Z = true) (w2 : (Jvm.Cond.instanceMethod Lib.objectInit).before a0 Z = true) (w3 : (Jvm.Cond.code Lib.objectInit ⟨#[0xb1]⟩ 1 none).before a0 Z = true) (hsz : ls.size = ml) (hW : (st.map fun v => v.category).sum ≤ W) (hf : 1 ≤ R.frames) (hlo : W + 12 ≤ R.locals)
    (g : ∀ T', own_S p l e R s m args below meth c Z T' L k n → own_Go p.tables e below P (T'.setTop (mkF m npc ls st))) : own_Go p.tables e below P (T.setTop (mkF m pc ls (.ref a :: st))) := by
  subst hp; obtain ⟨locs, X, hF, hH⟩ := X
  obtain ⟨T', X', e', st'⟩ := initO X C.1 C.2.2.2.1 C.2.2.2.2.1 w1 w2 w3 rfl (g := mkF m pc ls (.ref a :: st)) rfl (hsz.trans C.2.2.1.symm) rfl (hb C.2.1 hd) hf (W := W) (by show 2 * 0 + _ ≤ _; omega) hlo
  exact (g T' ⟨locs, X', hF, by rw [e']; exact hH⟩).st st'

theorem k_abs (C : own_C p s m meth c Z own nm code ml rt) (X : own_S p l e R s m args below meth c Z T L k n) {i : Nat} {bytes : ByteArray} {maxL W : Nat} {x : UInt64} (hd : decode code pc = .ok (.invokestatic i, 3)) (hp : pc + 3 = npc) (w1 : (Jvm.Cond.methodLink own i Jvm.Free.NT.mathAbs64N).before a0 Z = true) (w2 : (Jvm.Cond.static Jvm.Free.NT.mathAbs64N).before a0 Z = true) (w3 : (Jvm.Cond.initialized "java/lang/Math").before a0 Z = true) (w4 : (Jvm.Cond.code Jvm.Free.NT.mathAbs64N bytes maxL (some .double)).before a0 Z = true) (hx : Jvm.Free.Fl.NoNaN64 x) (hsz : ls.size = ml) (hW : (st.map fun v => v.category).sum ≤ W) (hf : 1 ≤ R.frames) (hlo : W + (maxL + 11) ≤ R.locals)
    (g : ∀ T', own_S p l e R s m args below meth c Z T' L k n → own_Go p.tables e below P (T'.setTop (mkF m npc ls (.double (x &&& 0x7fffffffffffffff) :: st)))) : own_Go p.tables e below P (T.setTop (mkF m pc ls (.double x :: st))) := by
  subst hp; obtain ⟨locs, X, hF, hH⟩ := X
  obtain ⟨v, vm1, ⟨T1, Lq, kq, nq⟩, -, X1, ⟨hB, hv⟩, st1⟩ := Jvm.LawKit.callS X C.1 (y := Jvm.Free.NT.mathAbs64N) C.2.2.2.2.1 (mvT C.2.2.2.1 w1) (mvT C.2.2.2.1 w2) (mvT C.2.2.2.1 w3) (mvT C.2.2.2.1 w4) (by decide) (Jvm.Free.NT.Abs64.pays (W := W) (len := 3) (mvT C.2.2.2.1 w4) (mvT C.2.2.2.1 w2) hf hlo) (g := mkF m pc ls (.double x :: st)) rfl (hsz.trans C.2.2.1.symm) (argsL := [.double x]) (rest := st) (lenOf Jvm.Free.NT.mathAbs64_desc rfl) rfl (by show 2 * 0 + _ ≤ _; omega) (hb C.2.1 hd) (fun _ _ => ⟨x, rfl, hx⟩)
  cases hB
  rw [hv x ⟨rfl, hx⟩] at st1
  exact (g _ ⟨locs, X1, hF, hH⟩).st st1

theorem k_return (C : own_C p s m meth c Z own nm code ml none) (X : own_S p l e R s m args below meth c Z T L k n) {Q : Option Value → List (Addr × (Cell → Prop)) → Prop} (hd : decode code pc = .ok (.return_, 1)) (hQ : Q none L) (hk : k ≤ R.cells) (hn : n ≤ R.slots) : own_Go p.tables e below (own_E Z s R Q) (T.setTop (mkF m pc ls [])) := by
  obtain ⟨locs, X, hF, hH⟩ := X
  obtain ⟨fs, hr, hrun, hended, hW, hsame⟩ := X.leave (v := none) (fun _ => rfl) C.2.2.2.2.2.2.2
  exact ⟨_, _, X.returnOut C.1 C.2.2.2.2.2.2.1 (hb C.2.1 hd) hr, hrun, hended, none, L, locs, rfl, hQ, hH, hF, ⟨_, rfl⟩, hW, hsame.mono hk hn⟩

theorem k_ireturn {t : FieldType} (C : own_C p s m meth c Z own nm code ml (some t)) (X : own_S p l e R s m args below meth c Z T L k n) {x : Int32} {Q : Option Value → List (Addr × (Cell → Prop)) → Prop} (hd : decode code pc = .ok (.ireturn, 1)) (ht : t = .int ∨ t = .boolean ∨ t = .byte ∨ t = .char ∨ t = .short) (hnr : narrow t (.int x) = .int x) (hQ : Q (some (.int x)) L) (hk : k ≤ R.cells) (hn : n ≤ R.slots) : own_Go p.tables e below (own_E Z s R Q) (T.setTop (mkF m pc ls (.int x :: st))) := by
  obtain ⟨locs, X, hF, hH⟩ := X
  obtain ⟨fs, hr, hrun, hended, hW, hsame⟩ := X.leave (v := some (.int x)) (fun h => by rw [C.2.2.2.2.2.2.1] at h; cases h) C.2.2.2.2.2.2.2
  exact ⟨_, _, retOut X C.1 C.2.2.2.2.2.2.1 hnr (Or.inl ⟨rfl, ht, x, rfl⟩) (hb C.2.1 hd) hr, hrun, hended, _, L, locs, rfl, hQ, hH, hF, ⟨_, rfl⟩, hW, hsame.mono hk hn⟩

theorem k_lreturn (C : own_C p s m meth c Z own nm code ml (some .long)) (X : own_S p l e R s m args below meth c Z T L k n) {x : Int64} {Q : Option Value → List (Addr × (Cell → Prop)) → Prop} (hd : decode code pc = .ok (.lreturn, 1)) (hQ : Q (some (.long x)) L) (hk : k ≤ R.cells) (hn : n ≤ R.slots) : own_Go p.tables e below (own_E Z s R Q) (T.setTop (mkF m pc ls (.long x :: st))) := by
  obtain ⟨locs, X, hF, hH⟩ := X
  obtain ⟨fs, hr, hrun, hended, hW, hsame⟩ := X.leave (v := some (.long x)) (fun h => by rw [C.2.2.2.2.2.2.1] at h; cases h) C.2.2.2.2.2.2.2
  exact ⟨_, _, retOut X C.1 C.2.2.2.2.2.2.1 rfl (Or.inr (Or.inl ⟨rfl, rfl, x, rfl⟩)) (hb C.2.1 hd) hr, hrun, hended, _, L, locs, rfl, hQ, hH, hF, ⟨_, rfl⟩, hW, hsame.mono hk hn⟩

theorem k_dreturn (C : own_C p s m meth c Z own nm code ml (some .double)) (X : own_S p l e R s m args below meth c Z T L k n) {x : UInt64} {Q : Option Value → List (Addr × (Cell → Prop)) → Prop} (hd : decode code pc = .ok (.dreturn, 1)) (hQ : Q (some (.double x)) L) (hk : k ≤ R.cells) (hn : n ≤ R.slots) : own_Go p.tables e below (own_E Z s R Q) (T.setTop (mkF m pc ls (.double x :: st))) := by
  obtain ⟨locs, X, hF, hH⟩ := X
  obtain ⟨fs, hr, hrun, hended, hW, hsame⟩ := X.leave (v := some (.double x)) (fun h => by rw [C.2.2.2.2.2.2.1] at h; cases h) C.2.2.2.2.2.2.2
  exact ⟨_, _, retOut X C.1 C.2.2.2.2.2.2.1 rfl (Or.inr (Or.inr (Or.inl ⟨rfl, rfl, x, rfl⟩))) (hb C.2.1 hd) hr, hrun, hended, _, L, locs, rfl, hQ, hH, hF, ⟨_, rfl⟩, hW, hsame.mono hk hn⟩

theorem k_areturn {t : FieldType} (C : own_C p s m meth c Z own nm code ml (some t)) (X : own_S p l e R s m args below meth c Z T L k n) {x : Value} {Q : Option Value → List (Addr × (Cell → Prop)) → Prop} (hd : decode code pc = .ok (.areturn, 1)) (ht : t.isReference = true) (hx : x.isRef = true) (hnr : narrow t x = x) (hQ : Q (some (x)) L) (hk : k ≤ R.cells) (hn : n ≤ R.slots) : own_Go p.tables e below (own_E Z s R Q) (T.setTop (mkF m pc ls (x :: st))) := by
  obtain ⟨locs, X, hF, hH⟩ := X
  obtain ⟨fs, hr, hrun, hended, hW, hsame⟩ := X.leave (v := some (x)) (fun h => by rw [C.2.2.2.2.2.2.1] at h; cases h) C.2.2.2.2.2.2.2
  exact ⟨_, _, retOut X C.1 C.2.2.2.2.2.2.1 hnr (Or.inr (Or.inr (Or.inr (Or.inr ⟨rfl, ht, hx⟩)))) (hb C.2.1 hd) hr, hrun, hended, _, L, locs, rfl, hQ, hH, hF, ⟨_, rfl⟩, hW, hsame.mono hk hn⟩

theorem own_nf {y : MethodName} {K' : String} (hZ : Z.Warmed39 s.vm) (w : (Jvm.Cond.selects K' y y).before a0 Z = true) : NotFace s y := notFace_of_selects (args := #[]) (mvT hZ w)
theorem own_i32 (x : Int32) : -2147483648 ≤ x.toInt ∧ x.toInt ≤ 2147483647 := by have h1 := Int32.toInt_lt x; have h2 := Int32.le_toInt x; omega
theorem own_fin {i : Int} {a : UInt64} (h : Jvm.FP.Core.DInt i a) : Jvm.Free.Fl.Fin64 a := by
  refine Jvm.Free.Fl.fin64_core.mpr ?_
  unfold Jvm.FP.Core.DInt at h
  rcases hv : Jvm.FP.Core.val64 a with _ | _ | ⟨s, c, q⟩
  · rw [hv] at h; exact h.elim
  · rw [hv] at h; exact h.elim
  · exact ⟨s, c, q, hv⟩
theorem own_nn {i : Int} {a : UInt64} (h : Jvm.FP.Core.DInt i a) : Jvm.Free.Fl.NoNaN64 a := (own_fin h).noNaN
theorem own_l (x : Int32) : x.toInt64.toInt = x.toInt := Int32.toInt_toInt64 x
theorem own_eq {i j : Int} {a b : UInt64} (ha : Jvm.FP.Core.DInt i a) (hb : Jvm.FP.Core.DInt j b) (h : i = j) : FP.dcmp a b = some .eq := by
  have q := Jvm.FP.Core.dcmp_int ha hb
  rw [show FP.dcmp a b = Jvm.FP.Core.dcmp a b from rfl, q, h, Jvm.FP.Core.compare_eq_iff _ _ |>.mpr rfl]
theorem own_lit (n : Int32) {d : UInt64} (h : FP.i2d n = d) : Jvm.FP.Core.DInt n.toInt d := h ▸ Jvm.FP.Core.i2d_int n
theorem own_litI (n : Int32) {d : UInt64} {i : Int} (h : FP.i2d n = d) (hi : n.toInt = i) : Jvm.FP.Core.DInt i d := hi ▸ h ▸ Jvm.FP.Core.i2d_int n
theorem own_self {x : UInt64} (h : Jvm.Free.Fl.NoNaN64 x) : FP.dcmp x x = some .eq := by
  have q := dcmpV_self h .l
  rcases hq : FP.dcmp x x with _ | (_ | _ | _) <;> rw [hq] at q <;> first | rfl | exact absurd q (by decide)
theorem own_mask (x : Int32) : ¬ (x &&& 2147483647) < 0 := fun h => absurd ((Jvm.Free.XT.and_neg32 _ _).mp h).2 (by decide)
theorem own_mod (m : Int32) (hm : 0 < m.toInt) {x : Int32} (hx : ¬ x < 0) : ¬ (x % m) < 0 ∧ (x % m).toNatClampNeg < m.toNatClampNeg ∧ 0 ≤ (x % m).toInt ∧ (x % m).toInt < m.toInt := by
  have h0 : 0 ≤ x.toInt := by rw [Int32.lt_iff_toInt_lt] at hx; simpa using hx
  have e : (x % m).toInt = x.toInt % m.toInt := by rw [Int32.toInt_mod, Int.tmod_eq_emod_of_nonneg h0]
  have a1 := Int.emod_nonneg x.toInt (Int.ne_of_gt hm)
  have a2 := Int.emod_lt_of_pos x.toInt hm
  rw [Int32.lt_iff_toInt_lt]
  simp only [Int32.toNatClampNeg, e, Int32.reduceToInt]
  omega
theorem own_dd (a b : Int32) : Jvm.Free.Fl.NoNaN64 (FP.dadd (FP.i2d a) (FP.i2d b)) := own_nn (Jvm.FP.Core.dadd_int (Jvm.FP.Core.i2d_int a) (Jvm.FP.Core.i2d_int b) (by have q := own_i32 a; have q2 := own_i32 b; omega))
theorem own_bool {x : Int32} (h : x = 0 ∨ x = 1) : narrow .boolean (.int x) = .int x := by rcases h with rfl | rfl <;> rfl
end OwnKit
theorem own_succ (n : Nat) : n.toInt32 + 1 = (n + 1).toInt32 := by
  apply Int32.toBitVec_inj.mp
  show BitVec.ofNat 32 n + 1#32 = BitVec.ofNat 32 (n + 1)
  rw [BitVec.ofNat_add]
theorem own_lt32 {a b : Nat} (ha : a < 2147483648) (hb : b < 2147483648) : a.toInt32 < b.toInt32 ↔ a < b := by
  have q1 : a.toInt32.toInt = a := len_toInt (by omega)
  have q2 : b.toInt32.toInt = b := len_toInt (by omega)
  rw [Int32.lt_iff_toInt_lt, q1, q2]; omega
theorem own_drop {α : Type} {xs : List α} {i : Nat} {x : α} (h : xs[i]? = some x) : xs.drop i = x :: xs.drop (i + 1) := by
  obtain ⟨h1, h2⟩ := List.getElem?_eq_some_iff.mp h
  rw [List.drop_eq_getElem_cons h1, h2]
def own_tv (q : List Int32) : List Value := q.map Value.int ++ List.replicate (5 - q.length) (Value.int 0)
def own_so (q : List Int32) : Prop := q.Pairwise (fun x y => x < y)
theorem own_so0 : own_so [] := List.Pairwise.nil
theorem own_so1 (x : Int32) : own_so [x] := List.pairwise_singleton _ _
theorem own_tv_set {q : List Int32} {x : Int32} (h : q.length ≤ 4) : (own_tv q).set q.length (.int x) = own_tv (q ++ [x]) := by
  unfold own_tv
  rw [List.set_append_right _ _ (by rw [List.length_map]; exact Nat.le_refl _), List.length_map, Nat.sub_self, List.map_append, List.length_append, List.append_assoc]
  congr 1
  obtain ⟨r, hr⟩ : ∃ r, 5 - q.length = r + 1 := ⟨4 - q.length, by omega⟩
  rw [hr, show 5 - (q.length + [x].length) = r by simp only [List.length_singleton]; omega]
  rfl
theorem own_tv_len {q : List Int32} (h : q.length ≤ 4) : q.length < (own_tv q).length := by
  unfold own_tv; rw [List.length_append, List.length_map, List.length_replicate]; omega
theorem own_so_app {q : List Int32} {z x : Int32} (hs : own_so (q ++ [z])) (h : z < x) : own_so (q ++ [z] ++ [x]) := by
  have ht : ∀ a b c : Int32, a < b → b < c → a < c := fun a b c h1 h2 => by
    rw [Int32.lt_iff_toInt_lt] at *; omega
  refine List.pairwise_append.mpr ⟨hs, List.pairwise_singleton _ _, fun a ha b hb => ?_⟩
  rw [List.mem_singleton.mp hb]
  rcases List.mem_append.mp ha with ha | ha
  · exact ht _ _ _ ((List.pairwise_append.mp hs).2.2 a ha z (List.mem_singleton.mpr rfl)) h
  · rw [List.mem_singleton.mp ha]; exact h
theorem own_last {q : List Int32} {cn : Int32} (hn : cn = q.length.toInt32) (hq : q.length ≤ 4) (hs : own_so q) (h : 0 < cn) : ∃ z, (own_tv q)[q.length - 1]? = some (.int z) ∧ ¬ (cn - 1) < 0 ∧ (cn - 1).toNatClampNeg = q.length - 1 ∧ ∀ x, z < x → own_so (q ++ [x]) := by
  subst hn
  rcases List.eq_nil_or_concat q with rfl | ⟨q0, z, rfl⟩
  · exact absurd h (by decide)
  · simp only [List.concat_eq_append] at hq hs h ⊢
    have e : (q0 ++ [z]).length = q0.length + 1 := by simp
    have e2 : (q0 ++ [z]).length.toInt32 - 1 = q0.length.toInt32 := by
      rw [e, ← own_succ]; exact Int32.add_sub_cancel _ _
    rw [e2, e, Nat.add_sub_cancel]
    refine ⟨z, ?_, (own_len32 _ (by omega)).2, (own_len32 _ (by omega)).1, fun x hx => own_so_app hs hx⟩
    unfold own_tv
    rw [List.getElem?_append_left (by rw [List.length_map, e]; omega), List.getElem?_map, List.getElem?_append_right (Nat.le_refl _), Nat.sub_self]
    rfl
theorem own_none {q : List Int32} {cn : Int32} (hn : cn = q.length.toInt32) (hq : q.length ≤ 4) (h : ¬ 0 < cn) (x : Int32) : own_so (q ++ [x]) := by
  subst hn
  have : ¬ 0 < q.length := fun h' => h (by
    have q1 : q.length.toInt32.toInt = q.length := len_toInt (by omega)
    rw [Int32.lt_iff_toInt_lt, q1]; show (0 : Int) < _; omega)
  obtain rfl : q = [] := List.eq_nil_of_length_eq_zero (by omega)
  exact own_so1 x
theorem own_appl (q : List Int32) (x : Int32) : (q ++ [x]).length = q.length + 1 := by simp
theorem own_shape : ∀ q : List Int32, q.length ≤ 5 → q = [] ∨ (∃ b0, q = [b0]) ∨ (∃ b0 b1, q = [b0, b1]) ∨ (∃ b0 b1 b2, q = [b0, b1, b2]) ∨ (∃ b0 b1 b2 b3, q = [b0, b1, b2, b3]) ∨ (∃ b0 b1 b2 b3 b4, q = [b0, b1, b2, b3, b4])
  | [], _ => Or.inl rfl
  | [a], _ => Or.inr (Or.inl ⟨a, rfl⟩)
  | [a, b], _ => Or.inr (Or.inr (Or.inl ⟨a, b, rfl⟩))
  | [a, b, c], _ => Or.inr (Or.inr (Or.inr (Or.inl ⟨a, b, c, rfl⟩)))
  | [a, b, c, d], _ => Or.inr (Or.inr (Or.inr (Or.inr (Or.inl ⟨a, b, c, d, rfl⟩))))
  | [a, b, c, d, f], _ => Or.inr (Or.inr (Or.inr (Or.inr (Or.inr ⟨a, b, c, d, f, rfl⟩))))
  | _ :: _ :: _ :: _ :: _ :: _ :: t, h => absurd h (by simp only [List.length_cons]; omega)
theorem own_five {q : List Int32} {cn : Int32} (hn : cn = q.length.toInt32) (hq : q.length ≤ 5) : cn = 0 ∨ cn = 1 ∨ cn = 2 ∨ cn = 3 ∨ cn = 4 ∨ cn = 5 := by
  subst hn
  rcases own_shape q hq with rfl | ⟨_, rfl⟩ | ⟨_, _, rfl⟩ | ⟨_, _, _, rfl⟩ | ⟨_, _, _, _, rfl⟩ | ⟨_, _, _, _, _, rfl⟩
  · exact Or.inl rfl
  · exact Or.inr (Or.inl rfl)
  · exact Or.inr (Or.inr (Or.inl rfl))
  · exact Or.inr (Or.inr (Or.inr (Or.inl rfl)))
  · exact Or.inr (Or.inr (Or.inr (Or.inr (Or.inl rfl))))
  · exact Or.inr (Or.inr (Or.inr (Or.inr (Or.inr rfl))))
def own_has (lb la : List Int32) (i : Nat) : Int32 := match la[i]? with
  | none => 0
  | some x => if x ∈ lb then 1 else 0
theorem own_has_n {lb la : List Int32} {i : Nat} (h : la[i]? = none) : own_has lb la i = 0 := by unfold own_has; rw [h]
theorem own_has_y {lb la : List Int32} {i : Nat} {x : Int32} (h : la[i]? = some x) (hm : x ∈ lb) : own_has lb la i = 1 := by unfold own_has; rw [h]; exact if_pos hm
theorem own_has_x {lb la : List Int32} {i : Nat} {x : Int32} (h : la[i]? = some x) (hm : ¬ x ∈ lb) : own_has lb la i = 0 := by unfold own_has; rw [h]; exact if_neg hm
theorem own_nm0 {x : Int32} : ¬ x ∈ ([] : List Int32) := List.not_mem_nil
theorem own_nm {x b : Int32} {t : List Int32} (h : ¬ b = x) (ht : ¬ x ∈ t) : ¬ x ∈ b :: t := fun hm => (List.mem_cons.mp hm).elim (fun e => h e.symm) ht
theorem own_mh {x b : Int32} {t : List Int32} (h : b = x) : x ∈ b :: t := List.mem_cons.mpr (Or.inl h.symm)
theorem own_mt {x b : Int32} {t : List Int32} (h : x ∈ t) : x ∈ b :: t := List.mem_cons_of_mem _ h
theorem own_ilt {i : Int32} {ii : Nat} {la : List Int32} (hi : i.toNatClampNeg = ii) (h0 : ¬ i < 0) (hl : la.length ≤ 5) : i < la.length.toInt32 ↔ ii < la.length := by
  have q1 : la.length.toInt32.toInt = la.length := len_toInt (by omega)
  rw [Int32.lt_iff_toInt_lt, q1]
  have h0' : ¬ i.toInt < 0 := fun h => h0 (by rw [Int32.lt_iff_toInt_lt]; exact h)
  unfold Int32.toNatClampNeg at hi
  omega
def own_meet : Nat → List Int32 → List Int32 → Int32
  | 0, _, _ => 0
  | _ + 1, [], _ => 0
  | _ + 1, _ :: _, [] => 0
  | n + 1, x :: xs, y :: ys => if x < y then own_meet n xs (y :: ys) else if y < x then own_meet n (x :: xs) ys else 1
theorem own_meet_is : ∀ (n : Nat) (xs ys : List Int32), xs.length + ys.length < n → own_so xs → own_so ys → (own_meet n xs ys = 1 ∧ ∃ x ∈ xs, x ∈ ys) ∨ (own_meet n xs ys = 0 ∧ ∀ x ∈ xs, ¬ x ∈ ys)
  | 0, _, _, h, _, _ => absurd h (Nat.not_lt_zero _)
  | _ + 1, [], _, _, _, _ => Or.inr ⟨rfl, fun _ h => nomatch h⟩
  | _ + 1, _ :: _, [], _, _, _ => Or.inr ⟨rfl, fun _ _ h => nomatch h⟩
  | n + 1, x :: xs, y :: ys, h, hx, hy => by
    have hx' := List.pairwise_cons.mp hx
    have hy' := List.pairwise_cons.mp hy
    have ht : ∀ a b c : Int32, a < b → b < c → a < c := fun a b c h1 h2 => by
      rw [Int32.lt_iff_toInt_lt] at *; omega
    have hir : ∀ a : Int32, ¬ a < a := fun a h => by rw [Int32.lt_iff_toInt_lt] at h; omega
    simp only [List.length_cons] at h
    by_cases h1 : x < y
    · have e : own_meet (n + 1) (x :: xs) (y :: ys) = own_meet n xs (y :: ys) := if_pos h1
      rw [e]
      rcases own_meet_is n xs (y :: ys) (by simp only [List.length_cons]; omega) hx'.2 hy with ⟨q, z, z1, z2⟩ | ⟨q, r⟩
      · exact Or.inl ⟨q, z, List.mem_cons_of_mem _ z1, z2⟩
      · refine Or.inr ⟨q, fun z hz => ?_⟩
        rcases List.mem_cons.mp hz with rfl | hz
        · intro hm
          rcases List.mem_cons.mp hm with rfl | hm
          · exact hir _ h1
          · exact hir _ (ht _ _ _ h1 (hy'.1 _ hm))
        · exact r z hz
    · by_cases h2 : y < x
      · have e : own_meet (n + 1) (x :: xs) (y :: ys) = own_meet n (x :: xs) ys := (if_neg h1).trans (if_pos h2)
        rw [e]
        rcases own_meet_is n (x :: xs) ys (by simp only [List.length_cons]; omega) hx hy'.2 with ⟨q, z, z1, z2⟩ | ⟨q, r⟩
        · exact Or.inl ⟨q, z, z1, List.mem_cons_of_mem _ z2⟩
        · refine Or.inr ⟨q, fun z hz hm => ?_⟩
          rcases List.mem_cons.mp hm with rfl | hm
          · rcases List.mem_cons.mp hz with rfl | hz
            · exact hir _ h2
            · exact hir _ (ht _ _ _ h2 (hx'.1 _ hz))
          · exact r z hz hm
      · have e : own_meet (n + 1) (x :: xs) (y :: ys) = 1 := (if_neg h1).trans (if_neg h2)
        have exy : x = y := Int32.toInt_inj.mp (by rw [Int32.lt_iff_toInt_lt] at h1 h2; omega)
        exact Or.inl ⟨e, x, List.mem_cons_self, by rw [exy]; exact List.mem_cons_self⟩
section OwnMeet
variable {xs ys : List Int32} {i j : Nat} {x y : Int32} {R : Int32} {f : Nat}
theorem own_mlt (hr : R = own_meet (f + 1) (xs.drop i) (ys.drop j)) (hx : xs[i]? = some x) (hy : ys[j]? = some y) (h1 : x < y) : R = own_meet f (xs.drop (i + 1)) (ys.drop j) := by
  rw [hr, own_drop hx, own_drop hy]; exact if_pos h1
theorem own_mgt (hr : R = own_meet (f + 1) (xs.drop i) (ys.drop j)) (hx : xs[i]? = some x) (hy : ys[j]? = some y) (h1 : ¬ x < y) (h2 : y < x) : R = own_meet f (xs.drop i) (ys.drop (j + 1)) := by
  rw [hr, own_drop hx, own_drop hy]; exact (if_neg h1).trans (if_pos h2)
theorem own_meq (hr : R = own_meet (f + 1) (xs.drop i) (ys.drop j)) (hx : xs[i]? = some x) (hy : ys[j]? = some y) (h1 : ¬ x < y) (h2 : ¬ y < x) : R = 1 := by
  rw [hr, own_drop hx, own_drop hy]; exact (if_neg h1).trans (if_neg h2)
theorem own_mend (hr : R = own_meet (f + 1) (xs.drop i) (ys.drop j)) (h : xs.length ≤ i ∨ ys.length ≤ j) : R = 0 := by
  rw [hr]
  rcases h with h | h
  · rw [List.drop_eq_nil_of_le h]; rfl
  · rw [List.drop_eq_nil_of_le h]
    cases xs.drop i <;> rfl
end OwnMeet
theorem own_any {A B : List Int32} {y : Int32} (hA : A.length ≤ 5) (e : y = (if own_has B A 0 = 0 then (if own_has B A 1 = 0 then (if own_has B A 2 = 0 then (if own_has B A 3 = 0 then (if own_has B A 4 = 0 then 0 else 1) else 1) else 1) else 1) else 1)) : (y = 1 ∧ ∃ x ∈ A, x ∈ B) ∨ (y = 0 ∧ ∀ x ∈ A, ¬ x ∈ B) := by
  have q : ∀ i, ¬ own_has B A i = 0 → ∃ x ∈ A, x ∈ B := fun i h => by
    cases hx : A[i]? with
    | none => exact absurd (own_has_n hx) h
    | some x =>
      by_cases hm : x ∈ B
      · exact ⟨x, List.mem_of_getElem? hx, hm⟩
      · exact absurd (own_has_x hx hm) h
  split at e
  · rename_i h0
    split at e
    · rename_i h1
      split at e
      · rename_i h2
        split at e
        · rename_i h3
          split at e
          · rename_i h4
            refine Or.inr ⟨e, fun x hx hm => ?_⟩
            obtain ⟨i, hi, rfl⟩ := List.getElem_of_mem hx
            have hy := own_has_y (lb := B) (List.getElem?_eq_getElem hi) hm
            rcases (by omega : i = 0 ∨ i = 1 ∨ i = 2 ∨ i = 3 ∨ i = 4) with rfl | rfl | rfl | rfl | rfl
            · exact absurd (h0.symm.trans hy) (by decide)
            · exact absurd (h1.symm.trans hy) (by decide)
            · exact absurd (h2.symm.trans hy) (by decide)
            · exact absurd (h3.symm.trans hy) (by decide)
            · exact absurd (h4.symm.trans hy) (by decide)
          · rename_i h; exact Or.inl ⟨e, q 4 h⟩
        · rename_i h; exact Or.inl ⟨e, q 3 h⟩
      · rename_i h; exact Or.inl ⟨e, q 2 h⟩
    · rename_i h; exact Or.inl ⟨e, q 1 h⟩
  · rename_i h; exact Or.inl ⟨e, q 0 h⟩
theorem own_same {A B : List Int32} {y : Int32} (hA : A.length ≤ 5) (sA : own_so A) (sB : own_so B) (e : y = (if own_has B A 0 = 0 then (if own_has B A 1 = 0 then (if own_has B A 2 = 0 then (if own_has B A 3 = 0 then (if own_has B A 4 = 0 then 0 else 1) else 1) else 1) else 1) else 1)) : own_meet (A.length + B.length + 1) A B = y := by
  rcases own_any hA e with ⟨e1, x, h1, h2⟩ | ⟨e1, h⟩
  · rcases own_meet_is _ A B (Nat.lt_succ_self _) sA sB with ⟨e2, -⟩ | ⟨-, h⟩
    · exact e2.trans e1.symm
    · exact absurd h2 (h x h1)
  · rcases own_meet_is _ A B (Nat.lt_succ_self _) sA sB with ⟨-, x, h1, h2⟩ | ⟨e2, -⟩
    · exact absurd h2 (h x h1)
    · exact e2.trans e1.symm

theorem d_jdk_29_method_65_code_0 : decode jdk_29_method_65_code 0 = .ok (.iload_n 0, 1) := by decide +kernel
theorem d_jdk_29_method_65_code_1 : decode jdk_29_method_65_code 1 = .ok (.iload_n 1, 1) := by decide +kernel
theorem d_jdk_29_method_65_code_2 : decode jdk_29_method_65_code 2 = .ok (.if_icmp .lt 7, 3) := by decide +kernel
theorem d_jdk_29_method_65_code_9 : decode jdk_29_method_65_code 9 = .ok (.iload_n 1, 1) := by decide +kernel
theorem d_jdk_29_method_65_code_5 : decode jdk_29_method_65_code 5 = .ok (.iload_n 0, 1) := by decide +kernel
theorem d_jdk_29_method_65_code_6 : decode jdk_29_method_65_code 6 = .ok (.goto 4, 3) := by decide +kernel
theorem d_jdk_29_method_65_code_10 : decode jdk_29_method_65_code 10 = .ok (.ireturn, 1) := by decide +kernel
theorem own_pf_max__II_I : plainFor (⟨"java/lang/Math", "max", "(II)I"⟩ : MethodName) = true := by decide +kernel
def rm_own_max : Room := { frames := 0, cells := 0, slots := 0, locals := 0 }
set_option maxRecDepth 65536 in
set_option maxHeartbeats 40000000 in
theorem own_max (l : Launch) (Z : State) (a0 : Array Value) (hw : ∀ d ∈ tables_1, d.before a0 Z = true) (a b : Int32) (L : List (Addr × (Cell → Prop))) :
    own_Con l Z (⟨"java/lang/Math", "max", "(II)I"⟩ : MethodName) jdk_29_method_65_code 2 (some .int) rm_own_max #[(.int a), (.int b)] (L) (fun v M => v = some (.int (if a < b then b else a)) ∧ M = L) := by
  refine own_con (ls := #[.val (.int a), .val (.int b)]) own_pf_max__II_I (fun m => by first | rfl | (simp [entryFrame, mkF, argsToLocals, Value.category]; done)) ?_
  intro p e s m below meth c T C X
  refine k_iloadN C X d_jdk_29_method_65_code_0 rfl rfl ?_
  refine k_iloadN C X d_jdk_29_method_65_code_1 rfl rfl ?_
  suffices J2_10 : ∀ (y10_0 : Int32) (e_y10_0 : y10_0 = (if a < b then b else a)), own_Go p.tables e below (own_E Z s rm_own_max (fun v M => v = some (.int (if a < b then b else a)) ∧ M = L)) (T.setTop (mkF m 10 #[.val (.int a), .val (.int b)] [(.int y10_0)])) by
    refine k_icmp_lt C X d_jdk_29_method_65_code_2 rfl (tpc := 9) rfl (fun h2 => ?_) (fun h2 => ?_)
    · skip
      refine k_iloadN C X d_jdk_29_method_65_code_9 rfl rfl ?_
      exact J2_10 _ (by rw [if_pos h2])
    · skip
      refine k_iloadN C X d_jdk_29_method_65_code_5 rfl rfl ?_
      refine k_goto C X d_jdk_29_method_65_code_6 (tpc := 10) rfl ?_
      exact J2_10 _ (by rw [if_neg h2])
  intro y10_0 e_y10_0
  exact k_ireturn C X d_jdk_29_method_65_code_10 (by simp) rfl ⟨by rw [e_y10_0], rfl⟩ (by decide) (by decide)
theorem d_jdk_29_method_69_code_0 : decode jdk_29_method_69_code 0 = .ok (.iload_n 0, 1) := by decide +kernel
theorem d_jdk_29_method_69_code_1 : decode jdk_29_method_69_code 1 = .ok (.iload_n 1, 1) := by decide +kernel
theorem d_jdk_29_method_69_code_2 : decode jdk_29_method_69_code 2 = .ok (.if_icmp .gt 7, 3) := by decide +kernel
theorem d_jdk_29_method_69_code_9 : decode jdk_29_method_69_code 9 = .ok (.iload_n 1, 1) := by decide +kernel
theorem d_jdk_29_method_69_code_5 : decode jdk_29_method_69_code 5 = .ok (.iload_n 0, 1) := by decide +kernel
theorem d_jdk_29_method_69_code_6 : decode jdk_29_method_69_code 6 = .ok (.goto 4, 3) := by decide +kernel
theorem d_jdk_29_method_69_code_10 : decode jdk_29_method_69_code 10 = .ok (.ireturn, 1) := by decide +kernel
theorem own_pf_min__II_I : plainFor (⟨"java/lang/Math", "min", "(II)I"⟩ : MethodName) = true := by decide +kernel
def rm_own_min : Room := { frames := 0, cells := 0, slots := 0, locals := 0 }
set_option maxRecDepth 65536 in
set_option maxHeartbeats 40000000 in
theorem own_min (l : Launch) (Z : State) (a0 : Array Value) (hw : ∀ d ∈ tables_1, d.before a0 Z = true) (a b : Int32) (L : List (Addr × (Cell → Prop))) :
    own_Con l Z (⟨"java/lang/Math", "min", "(II)I"⟩ : MethodName) jdk_29_method_69_code 2 (some .int) rm_own_min #[(.int a), (.int b)] (L) (fun v M => v = some (.int (if b < a then b else a)) ∧ M = L) := by
  refine own_con (ls := #[.val (.int a), .val (.int b)]) own_pf_min__II_I (fun m => by first | rfl | (simp [entryFrame, mkF, argsToLocals, Value.category]; done)) ?_
  intro p e s m below meth c T C X
  refine k_iloadN C X d_jdk_29_method_69_code_0 rfl rfl ?_
  refine k_iloadN C X d_jdk_29_method_69_code_1 rfl rfl ?_
  suffices J2_10 : ∀ (y10_0 : Int32) (e_y10_0 : y10_0 = (if b < a then b else a)), own_Go p.tables e below (own_E Z s rm_own_min (fun v M => v = some (.int (if b < a then b else a)) ∧ M = L)) (T.setTop (mkF m 10 #[.val (.int a), .val (.int b)] [(.int y10_0)])) by
    refine k_icmp_gt C X d_jdk_29_method_69_code_2 rfl (tpc := 9) rfl (fun h2 => ?_) (fun h2 => ?_)
    · skip
      refine k_iloadN C X d_jdk_29_method_69_code_9 rfl rfl ?_
      exact J2_10 _ (by rw [if_pos h2])
    · skip
      refine k_iloadN C X d_jdk_29_method_69_code_5 rfl rfl ?_
      refine k_goto C X d_jdk_29_method_69_code_6 (tpc := 10) rfl ?_
      exact J2_10 _ (by rw [if_neg h2])
  intro y10_0 e_y10_0
  exact k_ireturn C X d_jdk_29_method_69_code_10 (by simp) rfl ⟨by rw [e_y10_0], rfl⟩ (by decide) (by decide)
theorem d_prog_137_method_1_code_0 : decode prog_137_method_1_code 0 = .ok (.aload_n 0, 1) := by decide +kernel
theorem d_prog_137_method_1_code_1 : decode prog_137_method_1_code 1 = .ok (.invokespecial 1, 3) := by decide +kernel
theorem d_prog_137_method_1_code_4 : decode prog_137_method_1_code 4 = .ok (.aload_n 0, 1) := by decide +kernel
theorem d_prog_137_method_1_code_5 : decode prog_137_method_1_code 5 = .ok (.aload_n 1, 1) := by decide +kernel
theorem d_prog_137_method_1_code_6 : decode prog_137_method_1_code 6 = .ok (.putfield 7, 3) := by decide +kernel
def own_lay_SparseVector_N : List (String × String × FieldType) := [("dimensions", "[I", (.array .int)), ("values", "[D", (.array .double))]
theorem own_lay_SparseVector {Z : State} {a0 : Array Value} (hw : ∀ d ∈ tables_1, d.before a0 Z = true) : own_lay Z a0 "com/example/fuzzsub/fuzzsub/service/SparseVector" own_lay_SparseVector_N := ⟨⟨Or.inr (hw _ (List.mem_of_getElem? (i := 31) rfl)), by decide⟩, ⟨Or.inr (hw _ (List.mem_of_getElem? (i := 33) rfl)), by decide⟩, trivial⟩
theorem own_lay_SparseVector_nd : (own_lay_SparseVector_N.map (·.1)).Nodup := by decide +kernel
theorem d_prog_137_method_1_code_9 : decode prog_137_method_1_code 9 = .ok (.aload_n 0, 1) := by decide +kernel
theorem d_prog_137_method_1_code_10 : decode prog_137_method_1_code 10 = .ok (.aload_n 2, 1) := by decide +kernel
theorem d_prog_137_method_1_code_11 : decode prog_137_method_1_code 11 = .ok (.putfield 13, 3) := by decide +kernel
theorem d_prog_137_method_1_code_14 : decode prog_137_method_1_code 14 = .ok (.return_, 1) := by decide +kernel
theorem own_pn0 : plainName "com/example/fuzzsub/fuzzsub/service/SparseVector" = true := by first | (simp [plainName, overriddenIn]; done) | decide +kernel
def rm_own_sv : Room := { frames := 1, cells := 0, slots := 0, locals := 12 }
set_option maxRecDepth 65536 in
set_option maxHeartbeats 40000000 in
theorem own_sv (l : Launch) (Z : State) (a0 : Array Value) (hw : ∀ d ∈ tables_1, d.before a0 Z = true) (a qd qv : Addr) (L : List (Addr × (Cell → Prop))) :
    own_Con l Z (⟨"com/example/fuzzsub/fuzzsub/service/SparseVector", "<init>", "([I[D)V"⟩ : MethodName) prog_137_method_1_code 3 none rm_own_sv #[(.ref a), (.ref qd), (.ref qv)] ((a, own_ob Z "com/example/fuzzsub/fuzzsub/service/SparseVector" [("dimensions", "[I", .null), ("values", "[D", .null)]) :: L) (fun v M => v = none ∧ M = (a, own_ob Z "com/example/fuzzsub/fuzzsub/service/SparseVector" [("dimensions", "[I", (.ref qd)), ("values", "[D", (.ref qv))]) :: L) := by
  refine own_con (ls := #[.val (.ref a), .val (.ref qd), .val (.ref qv)]) (plainFor_of_name own_pn0) (fun m => by first | rfl | (simp [entryFrame, mkF, argsToLocals, Value.category]; done)) ?_
  intro p e s m below meth c T C X
  refine k_aloadN C X d_prog_137_method_1_code_0 rfl rfl rfl ?_
  refine k_initO C X d_prog_137_method_1_code_1 rfl (hw _ (List.mem_of_getElem? (i := 27) rfl)) (hw _ (List.mem_of_getElem? (i := 28) rfl)) (hw _ (List.mem_of_getElem? (i := 29) rfl)) rfl (W := 0) (Nat.le_of_eq rfl) (by decide) (by decide) (fun T X => ?_)
  refine k_aloadN C X d_prog_137_method_1_code_4 rfl rfl rfl ?_
  refine k_aloadN C X d_prog_137_method_1_code_5 rfl rfl rfl ?_
  refine k_putfield C X d_prog_137_method_1_code_6 rfl (host := "") (Or.inl (hw _ (List.mem_of_getElem? (i := 30) rfl))) (hw _ (List.mem_of_getElem? (i := 18) rfl)) (Or.inr ⟨(hw _ (List.mem_of_getElem? (i := 31) rfl)), rfl, rfl⟩) (own_lay_SparseVector hw) own_lay_SparseVector_nd (ix := 0) (j := 0) rfl rfl rfl (fs' := [("dimensions", "[I", (.ref qd)), ("values", "[D", .null)]) rfl (ty := (.array .int)) (by decide) rfl rfl (L' := (a, own_ob Z "com/example/fuzzsub/fuzzsub/service/SparseVector" [("dimensions", "[I", (.ref qd)), ("values", "[D", .null)]) :: L) rfl (fun T X => ?_)
  refine k_aloadN C X d_prog_137_method_1_code_9 rfl rfl rfl ?_
  refine k_aloadN C X d_prog_137_method_1_code_10 rfl rfl rfl ?_
  refine k_putfield C X d_prog_137_method_1_code_11 rfl (host := "") (Or.inl (hw _ (List.mem_of_getElem? (i := 32) rfl))) (hw _ (List.mem_of_getElem? (i := 18) rfl)) (Or.inr ⟨(hw _ (List.mem_of_getElem? (i := 33) rfl)), rfl, rfl⟩) (own_lay_SparseVector hw) own_lay_SparseVector_nd (ix := 0) (j := 1) rfl rfl rfl (fs' := [("dimensions", "[I", (.ref qd)), ("values", "[D", (.ref qv))]) rfl (ty := (.array .double)) (by decide) rfl rfl (L' := (a, own_ob Z "com/example/fuzzsub/fuzzsub/service/SparseVector" [("dimensions", "[I", (.ref qd)), ("values", "[D", (.ref qv))]) :: L) rfl (fun T X => ?_)
  exact k_return C X d_prog_137_method_1_code_14 ⟨rfl, rfl⟩ (by decide) (by decide)
theorem d_method_4_code_0 : decode method_4_code 0 = .ok (.iload_n 3, 1) := by decide +kernel
theorem d_method_4_code_1 : decode method_4_code 1 = .ok (.ifCond .ne 5, 3) := by decide +kernel
theorem d_method_4_code_6 : decode method_4_code 6 = .ok (.iload_n 1, 1) := by decide +kernel
theorem d_method_4_code_7 : decode method_4_code 7 = .ok (.ifCond .le 14, 3) := by decide +kernel
theorem d_method_4_code_21 : decode method_4_code 21 = .ok (.aload_n 0, 1) := by decide +kernel
theorem d_method_4_code_22 : decode method_4_code 22 = .ok (.iload_n 1, 1) := by decide +kernel
theorem d_method_4_code_23 : decode method_4_code 23 = .ok (.iload_n 2, 1) := by decide +kernel
theorem d_method_4_code_24 : decode method_4_code 24 = .ok (.iastore, 1) := by decide +kernel
theorem d_method_4_code_25 : decode method_4_code 25 = .ok (.iload_n 1, 1) := by decide +kernel
theorem d_method_4_code_26 : decode method_4_code 26 = .ok (.iconst 1, 1) := by decide +kernel
theorem d_method_4_code_27 : decode method_4_code 27 = .ok (.iadd, 1) := by decide +kernel
theorem d_method_4_code_28 : decode method_4_code 28 = .ok (.ireturn, 1) := by decide +kernel
theorem d_method_4_code_10 : decode method_4_code 10 = .ok (.aload_n 0, 1) := by decide +kernel
theorem d_method_4_code_11 : decode method_4_code 11 = .ok (.iload_n 1, 1) := by decide +kernel
theorem d_method_4_code_12 : decode method_4_code 12 = .ok (.iconst 1, 1) := by decide +kernel
theorem d_method_4_code_13 : decode method_4_code 13 = .ok (.isub, 1) := by decide +kernel
theorem d_method_4_code_14 : decode method_4_code 14 = .ok (.iaload, 1) := by decide +kernel
theorem d_method_4_code_15 : decode method_4_code 15 = .ok (.iload_n 2, 1) := by decide +kernel
theorem d_method_4_code_16 : decode method_4_code 16 = .ok (.if_icmp .lt 5, 3) := by decide +kernel
theorem d_method_4_code_19 : decode method_4_code 19 = .ok (.iload_n 1, 1) := by decide +kernel
theorem d_method_4_code_20 : decode method_4_code 20 = .ok (.ireturn, 1) := by decide +kernel
theorem d_method_4_code_4 : decode method_4_code 4 = .ok (.iload_n 1, 1) := by decide +kernel
theorem d_method_4_code_5 : decode method_4_code 5 = .ok (.ireturn, 1) := by decide +kernel
theorem own_pn1 : plainName "com/example/fuzzsub/fuzzsub/service/SparseVectorMeetsPinLaw" = true := by first | (simp [plainName, overriddenIn]; done) | decide +kernel
def rm_own_add : Room := { frames := 0, cells := 0, slots := 0, locals := 0 }
set_option maxRecDepth 65536 in
set_option maxHeartbeats 40000000 in
theorem own_add (l : Launch) (Z : State) (a0 : Array Value) (hw : ∀ d ∈ tables_1, d.before a0 Z = true) (t : Addr) (q : List Int32) (cn x tk : Int32) (hn : cn = q.length.toInt32) (hq : q.length ≤ 4) (hs : own_so q) (L : List (Addr × (Cell → Prop))) :
    own_Con l Z (⟨"com/example/fuzzsub/fuzzsub/service/SparseVectorMeetsPinLaw", "add", "([IIIZ)I"⟩ : MethodName) method_4_code 4 (some .int) rm_own_add #[(.ref t), (.int cn), (.int x), (.int tk)] ((t, own_ar Z .int (own_tv q)) :: L) (fun v M => ∃ r, own_so r ∧ r.length ≤ q.length + 1 ∧ v = some (.int r.length.toInt32) ∧ M = (t, own_ar Z .int (own_tv r)) :: L) := by
  refine own_con (ls := #[.val (.ref t), .val (.int cn), .val (.int x), .val (.int tk)]) (plainFor_of_name own_pn1) (fun m => by first | rfl | (simp [entryFrame, mkF, argsToLocals, Value.category]; done)) ?_
  intro p e s m below meth c T C X
  refine k_iloadN C X d_method_4_code_0 rfl rfl ?_
  refine k_if_ne C X d_method_4_code_1 rfl (tpc := 6) rfl (fun h1 => ?_) (fun h1 => ?_)
  · skip
    refine k_iloadN C X d_method_4_code_6 rfl rfl ?_
    refine k_if_le C X d_method_4_code_7 rfl (tpc := 21) rfl (fun h7 => ?_) (fun h7 => ?_)
    · skip
      refine k_aloadN C X d_method_4_code_21 rfl rfl rfl ?_
      refine k_iloadN C X d_method_4_code_22 rfl rfl ?_
      refine k_iloadN C X d_method_4_code_23 rfl rfl ?_
      refine k_iastore C X d_method_4_code_24 rfl (ix := 0) (i := q.length) rfl (by rw [hn]; exact (own_len32 _ (by omega)).2) (by rw [hn]; exact (own_len32 _ (by omega)).1) (own_tv_len hq) (vs' := (own_tv (q ++ [x]))) (own_tv_set hq) (L' := (t, own_ar Z .int (own_tv (q ++ [x]))) :: L) rfl (fun T X => ?_)
      refine k_iloadN C X d_method_4_code_25 rfl rfl ?_
      refine k_iconst C X d_method_4_code_26 rfl (v := 1) rfl ?_
      refine k_iadd C X d_method_4_code_27 rfl ?_
      exact k_ireturn C X d_method_4_code_28 (by simp) rfl ⟨q ++ [x], own_none hn hq h7 x, Nat.le_of_eq (own_appl q x), by rw [hn, own_succ, own_appl], rfl⟩ (by decide) (by decide)
    · skip
      obtain ⟨z, z1, z2, z3, hz⟩ := own_last hn hq hs h7
      refine k_aloadN C X d_method_4_code_10 rfl rfl rfl ?_
      refine k_iloadN C X d_method_4_code_11 rfl rfl ?_
      refine k_iconst C X d_method_4_code_12 rfl (v := 1) rfl ?_
      refine k_isub C X d_method_4_code_13 rfl ?_
      refine k_iaload C X d_method_4_code_14 rfl (ix := 0) (i := (q.length - 1)) rfl z2 z3 z1 ?_
      refine k_iloadN C X d_method_4_code_15 rfl rfl ?_
      refine k_icmp_lt C X d_method_4_code_16 rfl (tpc := 21) rfl (fun h16 => ?_) (fun h16 => ?_)
      · skip
        refine k_aloadN C X d_method_4_code_21 rfl rfl rfl ?_
        refine k_iloadN C X d_method_4_code_22 rfl rfl ?_
        refine k_iloadN C X d_method_4_code_23 rfl rfl ?_
        refine k_iastore C X d_method_4_code_24 rfl (ix := 0) (i := q.length) rfl (by rw [hn]; exact (own_len32 _ (by omega)).2) (by rw [hn]; exact (own_len32 _ (by omega)).1) (own_tv_len hq) (vs' := (own_tv (q ++ [x]))) (own_tv_set hq) (L' := (t, own_ar Z .int (own_tv (q ++ [x]))) :: L) rfl (fun T X => ?_)
        refine k_iloadN C X d_method_4_code_25 rfl rfl ?_
        refine k_iconst C X d_method_4_code_26 rfl (v := 1) rfl ?_
        refine k_iadd C X d_method_4_code_27 rfl ?_
        exact k_ireturn C X d_method_4_code_28 (by simp) rfl ⟨q ++ [x], hz x h16, Nat.le_of_eq (own_appl q x), by rw [hn, own_succ, own_appl], rfl⟩ (by decide) (by decide)
      · skip
        refine k_iloadN C X d_method_4_code_19 rfl rfl ?_
        exact k_ireturn C X d_method_4_code_20 (by simp) rfl ⟨q, hs, Nat.le_succ _, by rw [hn], rfl⟩ (by decide) (by decide)
  · skip
    refine k_iloadN C X d_method_4_code_4 rfl rfl ?_
    exact k_ireturn C X d_method_4_code_5 (by simp) rfl ⟨q, hs, Nat.le_succ _, by rw [hn], rfl⟩ (by decide) (by decide)
theorem d_method_3_code_0 : decode method_3_code 0 = .ok (.iconst 5, 1) := by decide +kernel
theorem d_method_3_code_1 : decode method_3_code 1 = .ok (.newarray .int, 2) := by decide +kernel
theorem d_method_3_code_3 : decode method_3_code 3 = .ok (.astore_n 2, 1) := by decide +kernel
theorem d_method_3_code_4 : decode method_3_code 4 = .ok (.iconst 0, 1) := by decide +kernel
theorem d_method_3_code_5 : decode method_3_code 5 = .ok (.istore_n 3, 1) := by decide +kernel
theorem d_method_3_code_6 : decode method_3_code 6 = .ok (.aload_n 2, 1) := by decide +kernel
theorem d_method_3_code_7 : decode method_3_code 7 = .ok (.iload_n 3, 1) := by decide +kernel
theorem d_method_3_code_8 : decode method_3_code 8 = .ok (.aload_n 0, 1) := by decide +kernel
theorem d_method_3_code_9 : decode method_3_code 9 = .ok (.iconst 0, 1) := by decide +kernel
theorem d_method_3_code_10 : decode method_3_code 10 = .ok (.iaload, 1) := by decide +kernel
theorem d_method_3_code_11 : decode method_3_code 11 = .ok (.iload_n 1, 1) := by decide +kernel
theorem d_method_3_code_12 : decode method_3_code 12 = .ok (.iconst 1, 1) := by decide +kernel
theorem d_method_3_code_13 : decode method_3_code 13 = .ok (.iand, 1) := by decide +kernel
theorem d_method_3_code_14 : decode method_3_code 14 = .ok (.ifCond .eq 7, 3) := by decide +kernel
theorem d_method_3_code_21 : decode method_3_code 21 = .ok (.iconst 0, 1) := by decide +kernel
theorem d_method_3_code_17 : decode method_3_code 17 = .ok (.iconst 1, 1) := by decide +kernel
theorem d_method_3_code_18 : decode method_3_code 18 = .ok (.goto 4, 3) := by decide +kernel
theorem d_method_3_code_22 : decode method_3_code 22 = .ok (.invokestatic 43, 3) := by decide +kernel
theorem own_pd0 : parseMethodDescriptor "([IIIZ)I" = some ⟨[(.array .int), .int, .int, .boolean], some .int⟩ := by decide +kernel
theorem d_method_3_code_25 : decode method_3_code 25 = .ok (.istore_n 3, 1) := by decide +kernel
theorem d_method_3_code_26 : decode method_3_code 26 = .ok (.aload_n 2, 1) := by decide +kernel
theorem d_method_3_code_27 : decode method_3_code 27 = .ok (.iload_n 3, 1) := by decide +kernel
theorem d_method_3_code_28 : decode method_3_code 28 = .ok (.aload_n 0, 1) := by decide +kernel
theorem d_method_3_code_29 : decode method_3_code 29 = .ok (.iconst 1, 1) := by decide +kernel
theorem d_method_3_code_30 : decode method_3_code 30 = .ok (.iaload, 1) := by decide +kernel
theorem d_method_3_code_31 : decode method_3_code 31 = .ok (.iload_n 1, 1) := by decide +kernel
theorem d_method_3_code_32 : decode method_3_code 32 = .ok (.iconst 2, 1) := by decide +kernel
theorem d_method_3_code_33 : decode method_3_code 33 = .ok (.iand, 1) := by decide +kernel
theorem d_method_3_code_34 : decode method_3_code 34 = .ok (.ifCond .eq 7, 3) := by decide +kernel
theorem d_method_3_code_41 : decode method_3_code 41 = .ok (.iconst 0, 1) := by decide +kernel
theorem d_method_3_code_37 : decode method_3_code 37 = .ok (.iconst 1, 1) := by decide +kernel
theorem d_method_3_code_38 : decode method_3_code 38 = .ok (.goto 4, 3) := by decide +kernel
theorem d_method_3_code_42 : decode method_3_code 42 = .ok (.invokestatic 43, 3) := by decide +kernel
theorem d_method_3_code_45 : decode method_3_code 45 = .ok (.istore_n 3, 1) := by decide +kernel
theorem d_method_3_code_46 : decode method_3_code 46 = .ok (.aload_n 2, 1) := by decide +kernel
theorem d_method_3_code_47 : decode method_3_code 47 = .ok (.iload_n 3, 1) := by decide +kernel
theorem d_method_3_code_48 : decode method_3_code 48 = .ok (.aload_n 0, 1) := by decide +kernel
theorem d_method_3_code_49 : decode method_3_code 49 = .ok (.iconst 2, 1) := by decide +kernel
theorem d_method_3_code_50 : decode method_3_code 50 = .ok (.iaload, 1) := by decide +kernel
theorem d_method_3_code_51 : decode method_3_code 51 = .ok (.iload_n 1, 1) := by decide +kernel
theorem d_method_3_code_52 : decode method_3_code 52 = .ok (.iconst 4, 1) := by decide +kernel
theorem d_method_3_code_53 : decode method_3_code 53 = .ok (.iand, 1) := by decide +kernel
theorem d_method_3_code_54 : decode method_3_code 54 = .ok (.ifCond .eq 7, 3) := by decide +kernel
theorem d_method_3_code_61 : decode method_3_code 61 = .ok (.iconst 0, 1) := by decide +kernel
theorem d_method_3_code_57 : decode method_3_code 57 = .ok (.iconst 1, 1) := by decide +kernel
theorem d_method_3_code_58 : decode method_3_code 58 = .ok (.goto 4, 3) := by decide +kernel
theorem d_method_3_code_62 : decode method_3_code 62 = .ok (.invokestatic 43, 3) := by decide +kernel
theorem d_method_3_code_65 : decode method_3_code 65 = .ok (.istore_n 3, 1) := by decide +kernel
theorem d_method_3_code_66 : decode method_3_code 66 = .ok (.aload_n 2, 1) := by decide +kernel
theorem d_method_3_code_67 : decode method_3_code 67 = .ok (.iload_n 3, 1) := by decide +kernel
theorem d_method_3_code_68 : decode method_3_code 68 = .ok (.aload_n 0, 1) := by decide +kernel
theorem d_method_3_code_69 : decode method_3_code 69 = .ok (.iconst 3, 1) := by decide +kernel
theorem d_method_3_code_70 : decode method_3_code 70 = .ok (.iaload, 1) := by decide +kernel
theorem d_method_3_code_71 : decode method_3_code 71 = .ok (.iload_n 1, 1) := by decide +kernel
theorem d_method_3_code_72 : decode method_3_code 72 = .ok (.bipush 8, 2) := by decide +kernel
theorem d_method_3_code_74 : decode method_3_code 74 = .ok (.iand, 1) := by decide +kernel
theorem d_method_3_code_75 : decode method_3_code 75 = .ok (.ifCond .eq 7, 3) := by decide +kernel
theorem d_method_3_code_82 : decode method_3_code 82 = .ok (.iconst 0, 1) := by decide +kernel
theorem d_method_3_code_78 : decode method_3_code 78 = .ok (.iconst 1, 1) := by decide +kernel
theorem d_method_3_code_79 : decode method_3_code 79 = .ok (.goto 4, 3) := by decide +kernel
theorem d_method_3_code_83 : decode method_3_code 83 = .ok (.invokestatic 43, 3) := by decide +kernel
theorem d_method_3_code_86 : decode method_3_code 86 = .ok (.istore_n 3, 1) := by decide +kernel
theorem d_method_3_code_87 : decode method_3_code 87 = .ok (.aload_n 2, 1) := by decide +kernel
theorem d_method_3_code_88 : decode method_3_code 88 = .ok (.iload_n 3, 1) := by decide +kernel
theorem d_method_3_code_89 : decode method_3_code 89 = .ok (.aload_n 0, 1) := by decide +kernel
theorem d_method_3_code_90 : decode method_3_code 90 = .ok (.iconst 4, 1) := by decide +kernel
theorem d_method_3_code_91 : decode method_3_code 91 = .ok (.iaload, 1) := by decide +kernel
theorem d_method_3_code_92 : decode method_3_code 92 = .ok (.iload_n 1, 1) := by decide +kernel
theorem d_method_3_code_93 : decode method_3_code 93 = .ok (.bipush 16, 2) := by decide +kernel
theorem d_method_3_code_95 : decode method_3_code 95 = .ok (.iand, 1) := by decide +kernel
theorem d_method_3_code_96 : decode method_3_code 96 = .ok (.ifCond .eq 7, 3) := by decide +kernel
theorem d_method_3_code_103 : decode method_3_code 103 = .ok (.iconst 0, 1) := by decide +kernel
theorem d_method_3_code_99 : decode method_3_code 99 = .ok (.iconst 1, 1) := by decide +kernel
theorem d_method_3_code_100 : decode method_3_code 100 = .ok (.goto 4, 3) := by decide +kernel
theorem d_method_3_code_104 : decode method_3_code 104 = .ok (.invokestatic 43, 3) := by decide +kernel
theorem d_method_3_code_107 : decode method_3_code 107 = .ok (.istore_n 3, 1) := by decide +kernel
theorem d_method_3_code_108 : decode method_3_code 108 = .ok (.iload_n 3, 1) := by decide +kernel
theorem d_method_3_code_109 : decode method_3_code 109 = .ok (.newarray .int, 2) := by decide +kernel
theorem d_method_3_code_111 : decode method_3_code 111 = .ok (.astore 4, 2) := by decide +kernel
theorem d_method_3_code_113 : decode method_3_code 113 = .ok (.iload_n 3, 1) := by decide +kernel
theorem d_method_3_code_114 : decode method_3_code 114 = .ok (.ifCond .le 10, 3) := by decide +kernel
theorem d_method_3_code_124 : decode method_3_code 124 = .ok (.iload_n 3, 1) := by decide +kernel
theorem d_method_3_code_125 : decode method_3_code 125 = .ok (.iconst 1, 1) := by decide +kernel
theorem d_method_3_code_126 : decode method_3_code 126 = .ok (.if_icmp .le 10, 3) := by decide +kernel
theorem d_method_3_code_136 : decode method_3_code 136 = .ok (.iload_n 3, 1) := by decide +kernel
theorem d_method_3_code_137 : decode method_3_code 137 = .ok (.iconst 2, 1) := by decide +kernel
theorem d_method_3_code_138 : decode method_3_code 138 = .ok (.if_icmp .le 10, 3) := by decide +kernel
theorem d_method_3_code_148 : decode method_3_code 148 = .ok (.iload_n 3, 1) := by decide +kernel
theorem d_method_3_code_149 : decode method_3_code 149 = .ok (.iconst 3, 1) := by decide +kernel
theorem d_method_3_code_150 : decode method_3_code 150 = .ok (.if_icmp .le 10, 3) := by decide +kernel
theorem d_method_3_code_160 : decode method_3_code 160 = .ok (.iload_n 3, 1) := by decide +kernel
theorem d_method_3_code_161 : decode method_3_code 161 = .ok (.iconst 4, 1) := by decide +kernel
theorem d_method_3_code_162 : decode method_3_code 162 = .ok (.if_icmp .le 10, 3) := by decide +kernel
theorem d_method_3_code_172 : decode method_3_code 172 = .ok (.aload 4, 2) := by decide +kernel
theorem d_method_3_code_174 : decode method_3_code 174 = .ok (.areturn, 1) := by decide +kernel
theorem d_method_3_code_117 : decode method_3_code 117 = .ok (.aload 4, 2) := by decide +kernel
theorem d_method_3_code_119 : decode method_3_code 119 = .ok (.iconst 0, 1) := by decide +kernel
theorem d_method_3_code_120 : decode method_3_code 120 = .ok (.aload_n 2, 1) := by decide +kernel
theorem d_method_3_code_121 : decode method_3_code 121 = .ok (.iconst 0, 1) := by decide +kernel
theorem d_method_3_code_122 : decode method_3_code 122 = .ok (.iaload, 1) := by decide +kernel
theorem d_method_3_code_123 : decode method_3_code 123 = .ok (.iastore, 1) := by decide +kernel
theorem d_method_3_code_129 : decode method_3_code 129 = .ok (.aload 4, 2) := by decide +kernel
theorem d_method_3_code_131 : decode method_3_code 131 = .ok (.iconst 1, 1) := by decide +kernel
theorem d_method_3_code_132 : decode method_3_code 132 = .ok (.aload_n 2, 1) := by decide +kernel
theorem d_method_3_code_133 : decode method_3_code 133 = .ok (.iconst 1, 1) := by decide +kernel
theorem d_method_3_code_134 : decode method_3_code 134 = .ok (.iaload, 1) := by decide +kernel
theorem d_method_3_code_135 : decode method_3_code 135 = .ok (.iastore, 1) := by decide +kernel
theorem d_method_3_code_141 : decode method_3_code 141 = .ok (.aload 4, 2) := by decide +kernel
theorem d_method_3_code_143 : decode method_3_code 143 = .ok (.iconst 2, 1) := by decide +kernel
theorem d_method_3_code_144 : decode method_3_code 144 = .ok (.aload_n 2, 1) := by decide +kernel
theorem d_method_3_code_145 : decode method_3_code 145 = .ok (.iconst 2, 1) := by decide +kernel
theorem d_method_3_code_146 : decode method_3_code 146 = .ok (.iaload, 1) := by decide +kernel
theorem d_method_3_code_147 : decode method_3_code 147 = .ok (.iastore, 1) := by decide +kernel
theorem d_method_3_code_153 : decode method_3_code 153 = .ok (.aload 4, 2) := by decide +kernel
theorem d_method_3_code_155 : decode method_3_code 155 = .ok (.iconst 3, 1) := by decide +kernel
theorem d_method_3_code_156 : decode method_3_code 156 = .ok (.aload_n 2, 1) := by decide +kernel
theorem d_method_3_code_157 : decode method_3_code 157 = .ok (.iconst 3, 1) := by decide +kernel
theorem d_method_3_code_158 : decode method_3_code 158 = .ok (.iaload, 1) := by decide +kernel
theorem d_method_3_code_159 : decode method_3_code 159 = .ok (.iastore, 1) := by decide +kernel
theorem d_method_3_code_165 : decode method_3_code 165 = .ok (.aload 4, 2) := by decide +kernel
theorem d_method_3_code_167 : decode method_3_code 167 = .ok (.iconst 4, 1) := by decide +kernel
theorem d_method_3_code_168 : decode method_3_code 168 = .ok (.aload_n 2, 1) := by decide +kernel
theorem d_method_3_code_169 : decode method_3_code 169 = .ok (.iconst 4, 1) := by decide +kernel
theorem d_method_3_code_170 : decode method_3_code 170 = .ok (.iaload, 1) := by decide +kernel
theorem d_method_3_code_171 : decode method_3_code 171 = .ok (.iastore, 1) := by decide +kernel
def rm_own_pick : Room := { frames := 1, cells := 2, slots := 10, locals := 15 }
set_option maxRecDepth 65536 in
set_option maxHeartbeats 40000000 in
theorem own_pick (l : Launch) (Z : State) (a0 : Array Value) (hw : ∀ d ∈ tables_1, d.before a0 Z = true) (u : Addr) (u0 u1 u2 u3 u4 mk : Int32) (L : List (Addr × (Cell → Prop))) :
    own_Con l Z (⟨"com/example/fuzzsub/fuzzsub/service/SparseVectorMeetsPinLaw", "pick", "([II)[I"⟩ : MethodName) method_3_code 5 (some (.array .int)) rm_own_pick #[(.ref u), (.int mk)] ((u, own_ar Z .int [(.int u0), (.int u1), (.int u2), (.int u3), (.int u4)]) :: L) (fun v M => ∃ a t r, v = some (.ref a) ∧ own_so r ∧ r.length ≤ 5 ∧ M = (a, own_ar Z .int (r.map Value.int)) :: (t, own_ar Z .int (own_tv r)) :: (u, own_ar Z .int [(.int u0), (.int u1), (.int u2), (.int u3), (.int u4)]) :: L) := by
  refine own_con (ls := #[.val (.ref u), .val (.int mk), .unset, .unset, .unset]) (plainFor_of_name own_pn1) (fun m => by first | rfl | (simp [entryFrame, mkF, argsToLocals, Value.category]; done)) ?_
  intro p e s m below meth c T C X
  refine k_iconst C X d_method_3_code_0 rfl (v := 5) rfl ?_
  refine k_newarray C X d_method_3_code_1 rfl (ty := .int) rfl (hw _ (List.mem_of_getElem? (i := 7) rfl)) (by decide) (cap := 5) (by decide) (by decide) (by decide) (by decide) (vs := (own_tv [])) rfl (fun T o1 X => ?_)
  refine k_astoreN C X d_method_3_code_3 rfl rfl (l' := #[.val (.ref u), .val (.int mk), .val (.ref o1), .unset, .unset]) rfl ?_
  refine k_iconst C X d_method_3_code_4 rfl (v := 0) rfl ?_
  refine k_istoreN C X d_method_3_code_5 rfl (l' := #[.val (.ref u), .val (.int mk), .val (.ref o1), .val (.int (0)), .unset]) rfl ?_
  refine k_aloadN C X d_method_3_code_6 rfl rfl rfl ?_
  refine k_iloadN C X d_method_3_code_7 rfl rfl ?_
  refine k_aloadN C X d_method_3_code_8 rfl rfl rfl ?_
  refine k_iconst C X d_method_3_code_9 rfl (v := 0) rfl ?_
  refine k_iaload C X d_method_3_code_10 rfl (ix := 1) (i := 0) rfl (by decide) (by decide) rfl ?_
  refine k_iloadN C X d_method_3_code_11 rfl rfl ?_
  refine k_iconst C X d_method_3_code_12 rfl (v := 1) rfl ?_
  refine k_iand C X d_method_3_code_13 rfl ?_
  suffices J14_22 : ∀ (y22_0 : Int32) (e_y22_0 : y22_0 = (if (mk &&& (1)) = 0 then (0) else (1))), own_Go p.tables e below (own_E Z s rm_own_pick (fun v M => ∃ a t r, v = some (.ref a) ∧ own_so r ∧ r.length ≤ 5 ∧ M = (a, own_ar Z .int (r.map Value.int)) :: (t, own_ar Z .int (own_tv r)) :: (u, own_ar Z .int [(.int u0), (.int u1), (.int u2), (.int u3), (.int u4)]) :: L)) (T.setTop (mkF m 22 #[.val (.ref u), .val (.int mk), .val (.ref o1), .val (.int (0)), .unset] [(.int y22_0), (.int u0), (.int (0)), (.ref o1)])) by
    refine k_if_eq C X d_method_3_code_14 rfl (tpc := 21) rfl (fun h14 => ?_) (fun h14 => ?_)
    · skip
      refine k_iconst C X d_method_3_code_21 rfl (v := 0) rfl ?_
      exact J14_22 _ (by rw [if_pos h14])
    · skip
      refine k_iconst C X d_method_3_code_17 rfl (v := 1) rfl ?_
      refine k_goto C X d_method_3_code_18 (tpc := 22) rfl ?_
      exact J14_22 _ (by rw [if_neg h14])
  intro y22_0 e_y22_0
  refine k_static C X d_method_3_code_22 rfl (hw _ (List.mem_of_getElem? (i := 14) rfl)) (hw _ (List.mem_of_getElem? (i := 15) rfl)) (hw _ (List.mem_of_getElem? (i := 12) rfl)) (hw _ (List.mem_of_getElem? (i := 16) rfl)) (by decide) (own_add l Z a0 hw o1 [] (0) u0 y22_0 rfl (by decide) own_so0 ((u, own_ar Z .int [(.int u0), (.int u1), (.int u2), (.int u3), (.int u4)]) :: L)) (W := 0) (argsL := [(.ref o1), (.int (0)), (.int u0), (.int y22_0)]) (rest := []) rfl rfl rfl own_pd0 rfl (Nat.le_of_eq rfl) (by decide) (by decide) (by decide) (by decide) (fun v T M hQ X => ?_)
  obtain ⟨q1, s1, l1, rfl, rfl⟩ := hQ
  simp only [List.length_nil] at l1
  refine k_istoreN C X d_method_3_code_25 rfl (l' := #[.val (.ref u), .val (.int mk), .val (.ref o1), .val (.int q1.length.toInt32), .unset]) rfl ?_
  refine k_aloadN C X d_method_3_code_26 rfl rfl rfl ?_
  refine k_iloadN C X d_method_3_code_27 rfl rfl ?_
  refine k_aloadN C X d_method_3_code_28 rfl rfl rfl ?_
  refine k_iconst C X d_method_3_code_29 rfl (v := 1) rfl ?_
  refine k_iaload C X d_method_3_code_30 rfl (ix := 1) (i := 1) rfl (by decide) (by decide) rfl ?_
  refine k_iloadN C X d_method_3_code_31 rfl rfl ?_
  refine k_iconst C X d_method_3_code_32 rfl (v := 2) rfl ?_
  refine k_iand C X d_method_3_code_33 rfl ?_
  suffices J34_42 : ∀ (y42_0 : Int32) (e_y42_0 : y42_0 = (if (mk &&& (2)) = 0 then (0) else (1))), own_Go p.tables e below (own_E Z s rm_own_pick (fun v M => ∃ a t r, v = some (.ref a) ∧ own_so r ∧ r.length ≤ 5 ∧ M = (a, own_ar Z .int (r.map Value.int)) :: (t, own_ar Z .int (own_tv r)) :: (u, own_ar Z .int [(.int u0), (.int u1), (.int u2), (.int u3), (.int u4)]) :: L)) (T.setTop (mkF m 42 #[.val (.ref u), .val (.int mk), .val (.ref o1), .val (.int q1.length.toInt32), .unset] [(.int y42_0), (.int u1), (.int q1.length.toInt32), (.ref o1)])) by
    refine k_if_eq C X d_method_3_code_34 rfl (tpc := 41) rfl (fun h34 => ?_) (fun h34 => ?_)
    · skip
      refine k_iconst C X d_method_3_code_41 rfl (v := 0) rfl ?_
      exact J34_42 _ (by rw [if_pos h34])
    · skip
      refine k_iconst C X d_method_3_code_37 rfl (v := 1) rfl ?_
      refine k_goto C X d_method_3_code_38 (tpc := 42) rfl ?_
      exact J34_42 _ (by rw [if_neg h34])
  intro y42_0 e_y42_0
  refine k_static C X d_method_3_code_42 rfl (hw _ (List.mem_of_getElem? (i := 14) rfl)) (hw _ (List.mem_of_getElem? (i := 15) rfl)) (hw _ (List.mem_of_getElem? (i := 12) rfl)) (hw _ (List.mem_of_getElem? (i := 16) rfl)) (by decide) (own_add l Z a0 hw o1 q1 q1.length.toInt32 u1 y42_0 rfl (by omega) s1 ((u, own_ar Z .int [(.int u0), (.int u1), (.int u2), (.int u3), (.int u4)]) :: L)) (W := 0) (argsL := [(.ref o1), (.int q1.length.toInt32), (.int u1), (.int y42_0)]) (rest := []) rfl rfl rfl own_pd0 rfl (Nat.le_of_eq rfl) (by decide) (by decide) (by decide) (by decide) (fun v T M hQ X => ?_)
  obtain ⟨q2, s2, l2, rfl, rfl⟩ := hQ
  refine k_istoreN C X d_method_3_code_45 rfl (l' := #[.val (.ref u), .val (.int mk), .val (.ref o1), .val (.int q2.length.toInt32), .unset]) rfl ?_
  refine k_aloadN C X d_method_3_code_46 rfl rfl rfl ?_
  refine k_iloadN C X d_method_3_code_47 rfl rfl ?_
  refine k_aloadN C X d_method_3_code_48 rfl rfl rfl ?_
  refine k_iconst C X d_method_3_code_49 rfl (v := 2) rfl ?_
  refine k_iaload C X d_method_3_code_50 rfl (ix := 1) (i := 2) rfl (by decide) (by decide) rfl ?_
  refine k_iloadN C X d_method_3_code_51 rfl rfl ?_
  refine k_iconst C X d_method_3_code_52 rfl (v := 4) rfl ?_
  refine k_iand C X d_method_3_code_53 rfl ?_
  suffices J54_62 : ∀ (y62_0 : Int32) (e_y62_0 : y62_0 = (if (mk &&& (4)) = 0 then (0) else (1))), own_Go p.tables e below (own_E Z s rm_own_pick (fun v M => ∃ a t r, v = some (.ref a) ∧ own_so r ∧ r.length ≤ 5 ∧ M = (a, own_ar Z .int (r.map Value.int)) :: (t, own_ar Z .int (own_tv r)) :: (u, own_ar Z .int [(.int u0), (.int u1), (.int u2), (.int u3), (.int u4)]) :: L)) (T.setTop (mkF m 62 #[.val (.ref u), .val (.int mk), .val (.ref o1), .val (.int q2.length.toInt32), .unset] [(.int y62_0), (.int u2), (.int q2.length.toInt32), (.ref o1)])) by
    refine k_if_eq C X d_method_3_code_54 rfl (tpc := 61) rfl (fun h54 => ?_) (fun h54 => ?_)
    · skip
      refine k_iconst C X d_method_3_code_61 rfl (v := 0) rfl ?_
      exact J54_62 _ (by rw [if_pos h54])
    · skip
      refine k_iconst C X d_method_3_code_57 rfl (v := 1) rfl ?_
      refine k_goto C X d_method_3_code_58 (tpc := 62) rfl ?_
      exact J54_62 _ (by rw [if_neg h54])
  intro y62_0 e_y62_0
  refine k_static C X d_method_3_code_62 rfl (hw _ (List.mem_of_getElem? (i := 14) rfl)) (hw _ (List.mem_of_getElem? (i := 15) rfl)) (hw _ (List.mem_of_getElem? (i := 12) rfl)) (hw _ (List.mem_of_getElem? (i := 16) rfl)) (by decide) (own_add l Z a0 hw o1 q2 q2.length.toInt32 u2 y62_0 rfl (by omega) s2 ((u, own_ar Z .int [(.int u0), (.int u1), (.int u2), (.int u3), (.int u4)]) :: L)) (W := 0) (argsL := [(.ref o1), (.int q2.length.toInt32), (.int u2), (.int y62_0)]) (rest := []) rfl rfl rfl own_pd0 rfl (Nat.le_of_eq rfl) (by decide) (by decide) (by decide) (by decide) (fun v T M hQ X => ?_)
  obtain ⟨q3, s3, l3, rfl, rfl⟩ := hQ
  refine k_istoreN C X d_method_3_code_65 rfl (l' := #[.val (.ref u), .val (.int mk), .val (.ref o1), .val (.int q3.length.toInt32), .unset]) rfl ?_
  refine k_aloadN C X d_method_3_code_66 rfl rfl rfl ?_
  refine k_iloadN C X d_method_3_code_67 rfl rfl ?_
  refine k_aloadN C X d_method_3_code_68 rfl rfl rfl ?_
  refine k_iconst C X d_method_3_code_69 rfl (v := 3) rfl ?_
  refine k_iaload C X d_method_3_code_70 rfl (ix := 1) (i := 3) rfl (by decide) (by decide) rfl ?_
  refine k_iloadN C X d_method_3_code_71 rfl rfl ?_
  refine k_bipush C X d_method_3_code_72 rfl (v := 8) rfl ?_
  refine k_iand C X d_method_3_code_74 rfl ?_
  suffices J75_83 : ∀ (y83_0 : Int32) (e_y83_0 : y83_0 = (if (mk &&& (8)) = 0 then (0) else (1))), own_Go p.tables e below (own_E Z s rm_own_pick (fun v M => ∃ a t r, v = some (.ref a) ∧ own_so r ∧ r.length ≤ 5 ∧ M = (a, own_ar Z .int (r.map Value.int)) :: (t, own_ar Z .int (own_tv r)) :: (u, own_ar Z .int [(.int u0), (.int u1), (.int u2), (.int u3), (.int u4)]) :: L)) (T.setTop (mkF m 83 #[.val (.ref u), .val (.int mk), .val (.ref o1), .val (.int q3.length.toInt32), .unset] [(.int y83_0), (.int u3), (.int q3.length.toInt32), (.ref o1)])) by
    refine k_if_eq C X d_method_3_code_75 rfl (tpc := 82) rfl (fun h75 => ?_) (fun h75 => ?_)
    · skip
      refine k_iconst C X d_method_3_code_82 rfl (v := 0) rfl ?_
      exact J75_83 _ (by rw [if_pos h75])
    · skip
      refine k_iconst C X d_method_3_code_78 rfl (v := 1) rfl ?_
      refine k_goto C X d_method_3_code_79 (tpc := 83) rfl ?_
      exact J75_83 _ (by rw [if_neg h75])
  intro y83_0 e_y83_0
  refine k_static C X d_method_3_code_83 rfl (hw _ (List.mem_of_getElem? (i := 14) rfl)) (hw _ (List.mem_of_getElem? (i := 15) rfl)) (hw _ (List.mem_of_getElem? (i := 12) rfl)) (hw _ (List.mem_of_getElem? (i := 16) rfl)) (by decide) (own_add l Z a0 hw o1 q3 q3.length.toInt32 u3 y83_0 rfl (by omega) s3 ((u, own_ar Z .int [(.int u0), (.int u1), (.int u2), (.int u3), (.int u4)]) :: L)) (W := 0) (argsL := [(.ref o1), (.int q3.length.toInt32), (.int u3), (.int y83_0)]) (rest := []) rfl rfl rfl own_pd0 rfl (Nat.le_of_eq rfl) (by decide) (by decide) (by decide) (by decide) (fun v T M hQ X => ?_)
  obtain ⟨q4, s4, l4, rfl, rfl⟩ := hQ
  refine k_istoreN C X d_method_3_code_86 rfl (l' := #[.val (.ref u), .val (.int mk), .val (.ref o1), .val (.int q4.length.toInt32), .unset]) rfl ?_
  refine k_aloadN C X d_method_3_code_87 rfl rfl rfl ?_
  refine k_iloadN C X d_method_3_code_88 rfl rfl ?_
  refine k_aloadN C X d_method_3_code_89 rfl rfl rfl ?_
  refine k_iconst C X d_method_3_code_90 rfl (v := 4) rfl ?_
  refine k_iaload C X d_method_3_code_91 rfl (ix := 1) (i := 4) rfl (by decide) (by decide) rfl ?_
  refine k_iloadN C X d_method_3_code_92 rfl rfl ?_
  refine k_bipush C X d_method_3_code_93 rfl (v := 16) rfl ?_
  refine k_iand C X d_method_3_code_95 rfl ?_
  suffices J96_104 : ∀ (y104_0 : Int32) (e_y104_0 : y104_0 = (if (mk &&& (16)) = 0 then (0) else (1))), own_Go p.tables e below (own_E Z s rm_own_pick (fun v M => ∃ a t r, v = some (.ref a) ∧ own_so r ∧ r.length ≤ 5 ∧ M = (a, own_ar Z .int (r.map Value.int)) :: (t, own_ar Z .int (own_tv r)) :: (u, own_ar Z .int [(.int u0), (.int u1), (.int u2), (.int u3), (.int u4)]) :: L)) (T.setTop (mkF m 104 #[.val (.ref u), .val (.int mk), .val (.ref o1), .val (.int q4.length.toInt32), .unset] [(.int y104_0), (.int u4), (.int q4.length.toInt32), (.ref o1)])) by
    refine k_if_eq C X d_method_3_code_96 rfl (tpc := 103) rfl (fun h96 => ?_) (fun h96 => ?_)
    · skip
      refine k_iconst C X d_method_3_code_103 rfl (v := 0) rfl ?_
      exact J96_104 _ (by rw [if_pos h96])
    · skip
      refine k_iconst C X d_method_3_code_99 rfl (v := 1) rfl ?_
      refine k_goto C X d_method_3_code_100 (tpc := 104) rfl ?_
      exact J96_104 _ (by rw [if_neg h96])
  intro y104_0 e_y104_0
  refine k_static C X d_method_3_code_104 rfl (hw _ (List.mem_of_getElem? (i := 14) rfl)) (hw _ (List.mem_of_getElem? (i := 15) rfl)) (hw _ (List.mem_of_getElem? (i := 12) rfl)) (hw _ (List.mem_of_getElem? (i := 16) rfl)) (by decide) (own_add l Z a0 hw o1 q4 q4.length.toInt32 u4 y104_0 rfl (by omega) s4 ((u, own_ar Z .int [(.int u0), (.int u1), (.int u2), (.int u3), (.int u4)]) :: L)) (W := 0) (argsL := [(.ref o1), (.int q4.length.toInt32), (.int u4), (.int y104_0)]) (rest := []) rfl rfl rfl own_pd0 rfl (Nat.le_of_eq rfl) (by decide) (by decide) (by decide) (by decide) (fun v T M hQ X => ?_)
  obtain ⟨q5, s5, l5, rfl, rfl⟩ := hQ
  refine k_istoreN C X d_method_3_code_107 rfl (l' := #[.val (.ref u), .val (.int mk), .val (.ref o1), .val (.int q5.length.toInt32), .unset]) rfl ?_
  rcases own_shape q5 (by omega) with hq | ⟨b0, hq⟩ | ⟨b0, b1, hq⟩ | ⟨b0, b1, b2, hq⟩ | ⟨b0, b1, b2, b3, hq⟩ | ⟨b0, b1, b2, b3, b4, hq⟩
  · replace X : own_S p l e rm_own_pick s m #[(.ref u), (.int mk)] below meth c Z T ((o1, own_ar Z .int [(.int 0), (.int 0), (.int 0), (.int 0), (.int 0)]) :: (u, own_ar Z .int [(.int u0), (.int u1), (.int u2), (.int u3), (.int u4)]) :: L) 1 5 := by rw [hq] at X; exact X
    rw [show q5.length.toInt32 = (0 : Int32) by rw [hq]; rfl]
    refine k_iloadN C X d_method_3_code_108 rfl rfl ?_
    refine k_newarray C X d_method_3_code_109 rfl (ty := .int) rfl (hw _ (List.mem_of_getElem? (i := 7) rfl)) (by decide) (cap := 0) (by decide) (by decide) (by decide) (by decide) (vs := []) rfl (fun T o109 X => ?_)
    refine k_astore C X d_method_3_code_111 rfl rfl (l' := #[.val (.ref u), .val (.int mk), .val (.ref o1), .val (.int (0)), .val (.ref o109)]) rfl ?_
    refine k_iloadN C X d_method_3_code_113 rfl rfl ?_
    refine k_if_le C X d_method_3_code_114 rfl (tpc := 124) rfl (fun _ => ?_) (fun hc => (absurd hc (by decide) : False).elim)
    refine k_iloadN C X d_method_3_code_124 rfl rfl ?_
    refine k_iconst C X d_method_3_code_125 rfl (v := 1) rfl ?_
    refine k_icmp_le C X d_method_3_code_126 rfl (tpc := 136) rfl (fun _ => ?_) (fun hc => (absurd hc (by decide) : False).elim)
    refine k_iloadN C X d_method_3_code_136 rfl rfl ?_
    refine k_iconst C X d_method_3_code_137 rfl (v := 2) rfl ?_
    refine k_icmp_le C X d_method_3_code_138 rfl (tpc := 148) rfl (fun _ => ?_) (fun hc => (absurd hc (by decide) : False).elim)
    refine k_iloadN C X d_method_3_code_148 rfl rfl ?_
    refine k_iconst C X d_method_3_code_149 rfl (v := 3) rfl ?_
    refine k_icmp_le C X d_method_3_code_150 rfl (tpc := 160) rfl (fun _ => ?_) (fun hc => (absurd hc (by decide) : False).elim)
    refine k_iloadN C X d_method_3_code_160 rfl rfl ?_
    refine k_iconst C X d_method_3_code_161 rfl (v := 4) rfl ?_
    refine k_icmp_le C X d_method_3_code_162 rfl (tpc := 172) rfl (fun _ => ?_) (fun hc => (absurd hc (by decide) : False).elim)
    refine k_aload C X d_method_3_code_172 rfl rfl rfl ?_
    exact k_areturn C X d_method_3_code_174 rfl rfl rfl ⟨_, _, [], rfl, hq ▸ s5, by simp, rfl⟩ (by decide) (by decide)
  · replace X : own_S p l e rm_own_pick s m #[(.ref u), (.int mk)] below meth c Z T ((o1, own_ar Z .int [(.int b0), (.int 0), (.int 0), (.int 0), (.int 0)]) :: (u, own_ar Z .int [(.int u0), (.int u1), (.int u2), (.int u3), (.int u4)]) :: L) 1 5 := by rw [hq] at X; exact X
    rw [show q5.length.toInt32 = (1 : Int32) by rw [hq]; rfl]
    refine k_iloadN C X d_method_3_code_108 rfl rfl ?_
    refine k_newarray C X d_method_3_code_109 rfl (ty := .int) rfl (hw _ (List.mem_of_getElem? (i := 7) rfl)) (by decide) (cap := 1) (by decide) (by decide) (by decide) (by decide) (vs := [(.int 0)]) rfl (fun T o109 X => ?_)
    refine k_astore C X d_method_3_code_111 rfl rfl (l' := #[.val (.ref u), .val (.int mk), .val (.ref o1), .val (.int (1)), .val (.ref o109)]) rfl ?_
    refine k_iloadN C X d_method_3_code_113 rfl rfl ?_
    refine k_if_le C X d_method_3_code_114 rfl (tpc := 124) rfl (fun hc => (absurd hc (by decide) : False).elim) (fun _ => ?_)
    refine k_aload C X d_method_3_code_117 rfl rfl rfl ?_
    refine k_iconst C X d_method_3_code_119 rfl (v := 0) rfl ?_
    refine k_aloadN C X d_method_3_code_120 rfl rfl rfl ?_
    refine k_iconst C X d_method_3_code_121 rfl (v := 0) rfl ?_
    refine k_iaload C X d_method_3_code_122 rfl (ix := 1) (i := 0) rfl (by decide) (by decide) rfl ?_
    refine k_iastore C X d_method_3_code_123 rfl (ix := 0) (i := 0) rfl (by decide) (by decide) (Nat.le_of_ble_eq_true rfl) (vs' := [(.int b0)]) rfl (L' := (o109, own_ar Z .int [(.int b0)]) :: (o1, own_ar Z .int [(.int b0), (.int 0), (.int 0), (.int 0), (.int 0)]) :: (u, own_ar Z .int [(.int u0), (.int u1), (.int u2), (.int u3), (.int u4)]) :: L) rfl (fun T X => ?_)
    refine k_iloadN C X d_method_3_code_124 rfl rfl ?_
    refine k_iconst C X d_method_3_code_125 rfl (v := 1) rfl ?_
    refine k_icmp_le C X d_method_3_code_126 rfl (tpc := 136) rfl (fun _ => ?_) (fun hc => (absurd hc (by decide) : False).elim)
    refine k_iloadN C X d_method_3_code_136 rfl rfl ?_
    refine k_iconst C X d_method_3_code_137 rfl (v := 2) rfl ?_
    refine k_icmp_le C X d_method_3_code_138 rfl (tpc := 148) rfl (fun _ => ?_) (fun hc => (absurd hc (by decide) : False).elim)
    refine k_iloadN C X d_method_3_code_148 rfl rfl ?_
    refine k_iconst C X d_method_3_code_149 rfl (v := 3) rfl ?_
    refine k_icmp_le C X d_method_3_code_150 rfl (tpc := 160) rfl (fun _ => ?_) (fun hc => (absurd hc (by decide) : False).elim)
    refine k_iloadN C X d_method_3_code_160 rfl rfl ?_
    refine k_iconst C X d_method_3_code_161 rfl (v := 4) rfl ?_
    refine k_icmp_le C X d_method_3_code_162 rfl (tpc := 172) rfl (fun _ => ?_) (fun hc => (absurd hc (by decide) : False).elim)
    refine k_aload C X d_method_3_code_172 rfl rfl rfl ?_
    exact k_areturn C X d_method_3_code_174 rfl rfl rfl ⟨_, _, [b0], rfl, hq ▸ s5, by simp, rfl⟩ (by decide) (by decide)
  · replace X : own_S p l e rm_own_pick s m #[(.ref u), (.int mk)] below meth c Z T ((o1, own_ar Z .int [(.int b0), (.int b1), (.int 0), (.int 0), (.int 0)]) :: (u, own_ar Z .int [(.int u0), (.int u1), (.int u2), (.int u3), (.int u4)]) :: L) 1 5 := by rw [hq] at X; exact X
    rw [show q5.length.toInt32 = (2 : Int32) by rw [hq]; rfl]
    refine k_iloadN C X d_method_3_code_108 rfl rfl ?_
    refine k_newarray C X d_method_3_code_109 rfl (ty := .int) rfl (hw _ (List.mem_of_getElem? (i := 7) rfl)) (by decide) (cap := 2) (by decide) (by decide) (by decide) (by decide) (vs := [(.int 0), (.int 0)]) rfl (fun T o109 X => ?_)
    refine k_astore C X d_method_3_code_111 rfl rfl (l' := #[.val (.ref u), .val (.int mk), .val (.ref o1), .val (.int (2)), .val (.ref o109)]) rfl ?_
    refine k_iloadN C X d_method_3_code_113 rfl rfl ?_
    refine k_if_le C X d_method_3_code_114 rfl (tpc := 124) rfl (fun hc => (absurd hc (by decide) : False).elim) (fun _ => ?_)
    refine k_aload C X d_method_3_code_117 rfl rfl rfl ?_
    refine k_iconst C X d_method_3_code_119 rfl (v := 0) rfl ?_
    refine k_aloadN C X d_method_3_code_120 rfl rfl rfl ?_
    refine k_iconst C X d_method_3_code_121 rfl (v := 0) rfl ?_
    refine k_iaload C X d_method_3_code_122 rfl (ix := 1) (i := 0) rfl (by decide) (by decide) rfl ?_
    refine k_iastore C X d_method_3_code_123 rfl (ix := 0) (i := 0) rfl (by decide) (by decide) (Nat.le_of_ble_eq_true rfl) (vs' := [(.int b0), (.int 0)]) rfl (L' := (o109, own_ar Z .int [(.int b0), (.int 0)]) :: (o1, own_ar Z .int [(.int b0), (.int b1), (.int 0), (.int 0), (.int 0)]) :: (u, own_ar Z .int [(.int u0), (.int u1), (.int u2), (.int u3), (.int u4)]) :: L) rfl (fun T X => ?_)
    refine k_iloadN C X d_method_3_code_124 rfl rfl ?_
    refine k_iconst C X d_method_3_code_125 rfl (v := 1) rfl ?_
    refine k_icmp_le C X d_method_3_code_126 rfl (tpc := 136) rfl (fun hc => (absurd hc (by decide) : False).elim) (fun _ => ?_)
    refine k_aload C X d_method_3_code_129 rfl rfl rfl ?_
    refine k_iconst C X d_method_3_code_131 rfl (v := 1) rfl ?_
    refine k_aloadN C X d_method_3_code_132 rfl rfl rfl ?_
    refine k_iconst C X d_method_3_code_133 rfl (v := 1) rfl ?_
    refine k_iaload C X d_method_3_code_134 rfl (ix := 1) (i := 1) rfl (by decide) (by decide) rfl ?_
    refine k_iastore C X d_method_3_code_135 rfl (ix := 0) (i := 1) rfl (by decide) (by decide) (Nat.le_of_ble_eq_true rfl) (vs' := [(.int b0), (.int b1)]) rfl (L' := (o109, own_ar Z .int [(.int b0), (.int b1)]) :: (o1, own_ar Z .int [(.int b0), (.int b1), (.int 0), (.int 0), (.int 0)]) :: (u, own_ar Z .int [(.int u0), (.int u1), (.int u2), (.int u3), (.int u4)]) :: L) rfl (fun T X => ?_)
    refine k_iloadN C X d_method_3_code_136 rfl rfl ?_
    refine k_iconst C X d_method_3_code_137 rfl (v := 2) rfl ?_
    refine k_icmp_le C X d_method_3_code_138 rfl (tpc := 148) rfl (fun _ => ?_) (fun hc => (absurd hc (by decide) : False).elim)
    refine k_iloadN C X d_method_3_code_148 rfl rfl ?_
    refine k_iconst C X d_method_3_code_149 rfl (v := 3) rfl ?_
    refine k_icmp_le C X d_method_3_code_150 rfl (tpc := 160) rfl (fun _ => ?_) (fun hc => (absurd hc (by decide) : False).elim)
    refine k_iloadN C X d_method_3_code_160 rfl rfl ?_
    refine k_iconst C X d_method_3_code_161 rfl (v := 4) rfl ?_
    refine k_icmp_le C X d_method_3_code_162 rfl (tpc := 172) rfl (fun _ => ?_) (fun hc => (absurd hc (by decide) : False).elim)
    refine k_aload C X d_method_3_code_172 rfl rfl rfl ?_
    exact k_areturn C X d_method_3_code_174 rfl rfl rfl ⟨_, _, [b0, b1], rfl, hq ▸ s5, by simp, rfl⟩ (by decide) (by decide)
  · replace X : own_S p l e rm_own_pick s m #[(.ref u), (.int mk)] below meth c Z T ((o1, own_ar Z .int [(.int b0), (.int b1), (.int b2), (.int 0), (.int 0)]) :: (u, own_ar Z .int [(.int u0), (.int u1), (.int u2), (.int u3), (.int u4)]) :: L) 1 5 := by rw [hq] at X; exact X
    rw [show q5.length.toInt32 = (3 : Int32) by rw [hq]; rfl]
    refine k_iloadN C X d_method_3_code_108 rfl rfl ?_
    refine k_newarray C X d_method_3_code_109 rfl (ty := .int) rfl (hw _ (List.mem_of_getElem? (i := 7) rfl)) (by decide) (cap := 3) (by decide) (by decide) (by decide) (by decide) (vs := [(.int 0), (.int 0), (.int 0)]) rfl (fun T o109 X => ?_)
    refine k_astore C X d_method_3_code_111 rfl rfl (l' := #[.val (.ref u), .val (.int mk), .val (.ref o1), .val (.int (3)), .val (.ref o109)]) rfl ?_
    refine k_iloadN C X d_method_3_code_113 rfl rfl ?_
    refine k_if_le C X d_method_3_code_114 rfl (tpc := 124) rfl (fun hc => (absurd hc (by decide) : False).elim) (fun _ => ?_)
    refine k_aload C X d_method_3_code_117 rfl rfl rfl ?_
    refine k_iconst C X d_method_3_code_119 rfl (v := 0) rfl ?_
    refine k_aloadN C X d_method_3_code_120 rfl rfl rfl ?_
    refine k_iconst C X d_method_3_code_121 rfl (v := 0) rfl ?_
    refine k_iaload C X d_method_3_code_122 rfl (ix := 1) (i := 0) rfl (by decide) (by decide) rfl ?_
    refine k_iastore C X d_method_3_code_123 rfl (ix := 0) (i := 0) rfl (by decide) (by decide) (Nat.le_of_ble_eq_true rfl) (vs' := [(.int b0), (.int 0), (.int 0)]) rfl (L' := (o109, own_ar Z .int [(.int b0), (.int 0), (.int 0)]) :: (o1, own_ar Z .int [(.int b0), (.int b1), (.int b2), (.int 0), (.int 0)]) :: (u, own_ar Z .int [(.int u0), (.int u1), (.int u2), (.int u3), (.int u4)]) :: L) rfl (fun T X => ?_)
    refine k_iloadN C X d_method_3_code_124 rfl rfl ?_
    refine k_iconst C X d_method_3_code_125 rfl (v := 1) rfl ?_
    refine k_icmp_le C X d_method_3_code_126 rfl (tpc := 136) rfl (fun hc => (absurd hc (by decide) : False).elim) (fun _ => ?_)
    refine k_aload C X d_method_3_code_129 rfl rfl rfl ?_
    refine k_iconst C X d_method_3_code_131 rfl (v := 1) rfl ?_
    refine k_aloadN C X d_method_3_code_132 rfl rfl rfl ?_
    refine k_iconst C X d_method_3_code_133 rfl (v := 1) rfl ?_
    refine k_iaload C X d_method_3_code_134 rfl (ix := 1) (i := 1) rfl (by decide) (by decide) rfl ?_
    refine k_iastore C X d_method_3_code_135 rfl (ix := 0) (i := 1) rfl (by decide) (by decide) (Nat.le_of_ble_eq_true rfl) (vs' := [(.int b0), (.int b1), (.int 0)]) rfl (L' := (o109, own_ar Z .int [(.int b0), (.int b1), (.int 0)]) :: (o1, own_ar Z .int [(.int b0), (.int b1), (.int b2), (.int 0), (.int 0)]) :: (u, own_ar Z .int [(.int u0), (.int u1), (.int u2), (.int u3), (.int u4)]) :: L) rfl (fun T X => ?_)
    refine k_iloadN C X d_method_3_code_136 rfl rfl ?_
    refine k_iconst C X d_method_3_code_137 rfl (v := 2) rfl ?_
    refine k_icmp_le C X d_method_3_code_138 rfl (tpc := 148) rfl (fun hc => (absurd hc (by decide) : False).elim) (fun _ => ?_)
    refine k_aload C X d_method_3_code_141 rfl rfl rfl ?_
    refine k_iconst C X d_method_3_code_143 rfl (v := 2) rfl ?_
    refine k_aloadN C X d_method_3_code_144 rfl rfl rfl ?_
    refine k_iconst C X d_method_3_code_145 rfl (v := 2) rfl ?_
    refine k_iaload C X d_method_3_code_146 rfl (ix := 1) (i := 2) rfl (by decide) (by decide) rfl ?_
    refine k_iastore C X d_method_3_code_147 rfl (ix := 0) (i := 2) rfl (by decide) (by decide) (Nat.le_of_ble_eq_true rfl) (vs' := [(.int b0), (.int b1), (.int b2)]) rfl (L' := (o109, own_ar Z .int [(.int b0), (.int b1), (.int b2)]) :: (o1, own_ar Z .int [(.int b0), (.int b1), (.int b2), (.int 0), (.int 0)]) :: (u, own_ar Z .int [(.int u0), (.int u1), (.int u2), (.int u3), (.int u4)]) :: L) rfl (fun T X => ?_)
    refine k_iloadN C X d_method_3_code_148 rfl rfl ?_
    refine k_iconst C X d_method_3_code_149 rfl (v := 3) rfl ?_
    refine k_icmp_le C X d_method_3_code_150 rfl (tpc := 160) rfl (fun _ => ?_) (fun hc => (absurd hc (by decide) : False).elim)
    refine k_iloadN C X d_method_3_code_160 rfl rfl ?_
    refine k_iconst C X d_method_3_code_161 rfl (v := 4) rfl ?_
    refine k_icmp_le C X d_method_3_code_162 rfl (tpc := 172) rfl (fun _ => ?_) (fun hc => (absurd hc (by decide) : False).elim)
    refine k_aload C X d_method_3_code_172 rfl rfl rfl ?_
    exact k_areturn C X d_method_3_code_174 rfl rfl rfl ⟨_, _, [b0, b1, b2], rfl, hq ▸ s5, by simp, rfl⟩ (by decide) (by decide)
  · replace X : own_S p l e rm_own_pick s m #[(.ref u), (.int mk)] below meth c Z T ((o1, own_ar Z .int [(.int b0), (.int b1), (.int b2), (.int b3), (.int 0)]) :: (u, own_ar Z .int [(.int u0), (.int u1), (.int u2), (.int u3), (.int u4)]) :: L) 1 5 := by rw [hq] at X; exact X
    rw [show q5.length.toInt32 = (4 : Int32) by rw [hq]; rfl]
    refine k_iloadN C X d_method_3_code_108 rfl rfl ?_
    refine k_newarray C X d_method_3_code_109 rfl (ty := .int) rfl (hw _ (List.mem_of_getElem? (i := 7) rfl)) (by decide) (cap := 4) (by decide) (by decide) (by decide) (by decide) (vs := [(.int 0), (.int 0), (.int 0), (.int 0)]) rfl (fun T o109 X => ?_)
    refine k_astore C X d_method_3_code_111 rfl rfl (l' := #[.val (.ref u), .val (.int mk), .val (.ref o1), .val (.int (4)), .val (.ref o109)]) rfl ?_
    refine k_iloadN C X d_method_3_code_113 rfl rfl ?_
    refine k_if_le C X d_method_3_code_114 rfl (tpc := 124) rfl (fun hc => (absurd hc (by decide) : False).elim) (fun _ => ?_)
    refine k_aload C X d_method_3_code_117 rfl rfl rfl ?_
    refine k_iconst C X d_method_3_code_119 rfl (v := 0) rfl ?_
    refine k_aloadN C X d_method_3_code_120 rfl rfl rfl ?_
    refine k_iconst C X d_method_3_code_121 rfl (v := 0) rfl ?_
    refine k_iaload C X d_method_3_code_122 rfl (ix := 1) (i := 0) rfl (by decide) (by decide) rfl ?_
    refine k_iastore C X d_method_3_code_123 rfl (ix := 0) (i := 0) rfl (by decide) (by decide) (Nat.le_of_ble_eq_true rfl) (vs' := [(.int b0), (.int 0), (.int 0), (.int 0)]) rfl (L' := (o109, own_ar Z .int [(.int b0), (.int 0), (.int 0), (.int 0)]) :: (o1, own_ar Z .int [(.int b0), (.int b1), (.int b2), (.int b3), (.int 0)]) :: (u, own_ar Z .int [(.int u0), (.int u1), (.int u2), (.int u3), (.int u4)]) :: L) rfl (fun T X => ?_)
    refine k_iloadN C X d_method_3_code_124 rfl rfl ?_
    refine k_iconst C X d_method_3_code_125 rfl (v := 1) rfl ?_
    refine k_icmp_le C X d_method_3_code_126 rfl (tpc := 136) rfl (fun hc => (absurd hc (by decide) : False).elim) (fun _ => ?_)
    refine k_aload C X d_method_3_code_129 rfl rfl rfl ?_
    refine k_iconst C X d_method_3_code_131 rfl (v := 1) rfl ?_
    refine k_aloadN C X d_method_3_code_132 rfl rfl rfl ?_
    refine k_iconst C X d_method_3_code_133 rfl (v := 1) rfl ?_
    refine k_iaload C X d_method_3_code_134 rfl (ix := 1) (i := 1) rfl (by decide) (by decide) rfl ?_
    refine k_iastore C X d_method_3_code_135 rfl (ix := 0) (i := 1) rfl (by decide) (by decide) (Nat.le_of_ble_eq_true rfl) (vs' := [(.int b0), (.int b1), (.int 0), (.int 0)]) rfl (L' := (o109, own_ar Z .int [(.int b0), (.int b1), (.int 0), (.int 0)]) :: (o1, own_ar Z .int [(.int b0), (.int b1), (.int b2), (.int b3), (.int 0)]) :: (u, own_ar Z .int [(.int u0), (.int u1), (.int u2), (.int u3), (.int u4)]) :: L) rfl (fun T X => ?_)
    refine k_iloadN C X d_method_3_code_136 rfl rfl ?_
    refine k_iconst C X d_method_3_code_137 rfl (v := 2) rfl ?_
    refine k_icmp_le C X d_method_3_code_138 rfl (tpc := 148) rfl (fun hc => (absurd hc (by decide) : False).elim) (fun _ => ?_)
    refine k_aload C X d_method_3_code_141 rfl rfl rfl ?_
    refine k_iconst C X d_method_3_code_143 rfl (v := 2) rfl ?_
    refine k_aloadN C X d_method_3_code_144 rfl rfl rfl ?_
    refine k_iconst C X d_method_3_code_145 rfl (v := 2) rfl ?_
    refine k_iaload C X d_method_3_code_146 rfl (ix := 1) (i := 2) rfl (by decide) (by decide) rfl ?_
    refine k_iastore C X d_method_3_code_147 rfl (ix := 0) (i := 2) rfl (by decide) (by decide) (Nat.le_of_ble_eq_true rfl) (vs' := [(.int b0), (.int b1), (.int b2), (.int 0)]) rfl (L' := (o109, own_ar Z .int [(.int b0), (.int b1), (.int b2), (.int 0)]) :: (o1, own_ar Z .int [(.int b0), (.int b1), (.int b2), (.int b3), (.int 0)]) :: (u, own_ar Z .int [(.int u0), (.int u1), (.int u2), (.int u3), (.int u4)]) :: L) rfl (fun T X => ?_)
    refine k_iloadN C X d_method_3_code_148 rfl rfl ?_
    refine k_iconst C X d_method_3_code_149 rfl (v := 3) rfl ?_
    refine k_icmp_le C X d_method_3_code_150 rfl (tpc := 160) rfl (fun hc => (absurd hc (by decide) : False).elim) (fun _ => ?_)
    refine k_aload C X d_method_3_code_153 rfl rfl rfl ?_
    refine k_iconst C X d_method_3_code_155 rfl (v := 3) rfl ?_
    refine k_aloadN C X d_method_3_code_156 rfl rfl rfl ?_
    refine k_iconst C X d_method_3_code_157 rfl (v := 3) rfl ?_
    refine k_iaload C X d_method_3_code_158 rfl (ix := 1) (i := 3) rfl (by decide) (by decide) rfl ?_
    refine k_iastore C X d_method_3_code_159 rfl (ix := 0) (i := 3) rfl (by decide) (by decide) (Nat.le_of_ble_eq_true rfl) (vs' := [(.int b0), (.int b1), (.int b2), (.int b3)]) rfl (L' := (o109, own_ar Z .int [(.int b0), (.int b1), (.int b2), (.int b3)]) :: (o1, own_ar Z .int [(.int b0), (.int b1), (.int b2), (.int b3), (.int 0)]) :: (u, own_ar Z .int [(.int u0), (.int u1), (.int u2), (.int u3), (.int u4)]) :: L) rfl (fun T X => ?_)
    refine k_iloadN C X d_method_3_code_160 rfl rfl ?_
    refine k_iconst C X d_method_3_code_161 rfl (v := 4) rfl ?_
    refine k_icmp_le C X d_method_3_code_162 rfl (tpc := 172) rfl (fun _ => ?_) (fun hc => (absurd hc (by decide) : False).elim)
    refine k_aload C X d_method_3_code_172 rfl rfl rfl ?_
    exact k_areturn C X d_method_3_code_174 rfl rfl rfl ⟨_, _, [b0, b1, b2, b3], rfl, hq ▸ s5, by simp, rfl⟩ (by decide) (by decide)
  · replace X : own_S p l e rm_own_pick s m #[(.ref u), (.int mk)] below meth c Z T ((o1, own_ar Z .int [(.int b0), (.int b1), (.int b2), (.int b3), (.int b4)]) :: (u, own_ar Z .int [(.int u0), (.int u1), (.int u2), (.int u3), (.int u4)]) :: L) 1 5 := by rw [hq] at X; exact X
    rw [show q5.length.toInt32 = (5 : Int32) by rw [hq]; rfl]
    refine k_iloadN C X d_method_3_code_108 rfl rfl ?_
    refine k_newarray C X d_method_3_code_109 rfl (ty := .int) rfl (hw _ (List.mem_of_getElem? (i := 7) rfl)) (by decide) (cap := 5) (by decide) (by decide) (by decide) (by decide) (vs := [(.int 0), (.int 0), (.int 0), (.int 0), (.int 0)]) rfl (fun T o109 X => ?_)
    refine k_astore C X d_method_3_code_111 rfl rfl (l' := #[.val (.ref u), .val (.int mk), .val (.ref o1), .val (.int (5)), .val (.ref o109)]) rfl ?_
    refine k_iloadN C X d_method_3_code_113 rfl rfl ?_
    refine k_if_le C X d_method_3_code_114 rfl (tpc := 124) rfl (fun hc => (absurd hc (by decide) : False).elim) (fun _ => ?_)
    refine k_aload C X d_method_3_code_117 rfl rfl rfl ?_
    refine k_iconst C X d_method_3_code_119 rfl (v := 0) rfl ?_
    refine k_aloadN C X d_method_3_code_120 rfl rfl rfl ?_
    refine k_iconst C X d_method_3_code_121 rfl (v := 0) rfl ?_
    refine k_iaload C X d_method_3_code_122 rfl (ix := 1) (i := 0) rfl (by decide) (by decide) rfl ?_
    refine k_iastore C X d_method_3_code_123 rfl (ix := 0) (i := 0) rfl (by decide) (by decide) (Nat.le_of_ble_eq_true rfl) (vs' := [(.int b0), (.int 0), (.int 0), (.int 0), (.int 0)]) rfl (L' := (o109, own_ar Z .int [(.int b0), (.int 0), (.int 0), (.int 0), (.int 0)]) :: (o1, own_ar Z .int [(.int b0), (.int b1), (.int b2), (.int b3), (.int b4)]) :: (u, own_ar Z .int [(.int u0), (.int u1), (.int u2), (.int u3), (.int u4)]) :: L) rfl (fun T X => ?_)
    refine k_iloadN C X d_method_3_code_124 rfl rfl ?_
    refine k_iconst C X d_method_3_code_125 rfl (v := 1) rfl ?_
    refine k_icmp_le C X d_method_3_code_126 rfl (tpc := 136) rfl (fun hc => (absurd hc (by decide) : False).elim) (fun _ => ?_)
    refine k_aload C X d_method_3_code_129 rfl rfl rfl ?_
    refine k_iconst C X d_method_3_code_131 rfl (v := 1) rfl ?_
    refine k_aloadN C X d_method_3_code_132 rfl rfl rfl ?_
    refine k_iconst C X d_method_3_code_133 rfl (v := 1) rfl ?_
    refine k_iaload C X d_method_3_code_134 rfl (ix := 1) (i := 1) rfl (by decide) (by decide) rfl ?_
    refine k_iastore C X d_method_3_code_135 rfl (ix := 0) (i := 1) rfl (by decide) (by decide) (Nat.le_of_ble_eq_true rfl) (vs' := [(.int b0), (.int b1), (.int 0), (.int 0), (.int 0)]) rfl (L' := (o109, own_ar Z .int [(.int b0), (.int b1), (.int 0), (.int 0), (.int 0)]) :: (o1, own_ar Z .int [(.int b0), (.int b1), (.int b2), (.int b3), (.int b4)]) :: (u, own_ar Z .int [(.int u0), (.int u1), (.int u2), (.int u3), (.int u4)]) :: L) rfl (fun T X => ?_)
    refine k_iloadN C X d_method_3_code_136 rfl rfl ?_
    refine k_iconst C X d_method_3_code_137 rfl (v := 2) rfl ?_
    refine k_icmp_le C X d_method_3_code_138 rfl (tpc := 148) rfl (fun hc => (absurd hc (by decide) : False).elim) (fun _ => ?_)
    refine k_aload C X d_method_3_code_141 rfl rfl rfl ?_
    refine k_iconst C X d_method_3_code_143 rfl (v := 2) rfl ?_
    refine k_aloadN C X d_method_3_code_144 rfl rfl rfl ?_
    refine k_iconst C X d_method_3_code_145 rfl (v := 2) rfl ?_
    refine k_iaload C X d_method_3_code_146 rfl (ix := 1) (i := 2) rfl (by decide) (by decide) rfl ?_
    refine k_iastore C X d_method_3_code_147 rfl (ix := 0) (i := 2) rfl (by decide) (by decide) (Nat.le_of_ble_eq_true rfl) (vs' := [(.int b0), (.int b1), (.int b2), (.int 0), (.int 0)]) rfl (L' := (o109, own_ar Z .int [(.int b0), (.int b1), (.int b2), (.int 0), (.int 0)]) :: (o1, own_ar Z .int [(.int b0), (.int b1), (.int b2), (.int b3), (.int b4)]) :: (u, own_ar Z .int [(.int u0), (.int u1), (.int u2), (.int u3), (.int u4)]) :: L) rfl (fun T X => ?_)
    refine k_iloadN C X d_method_3_code_148 rfl rfl ?_
    refine k_iconst C X d_method_3_code_149 rfl (v := 3) rfl ?_
    refine k_icmp_le C X d_method_3_code_150 rfl (tpc := 160) rfl (fun hc => (absurd hc (by decide) : False).elim) (fun _ => ?_)
    refine k_aload C X d_method_3_code_153 rfl rfl rfl ?_
    refine k_iconst C X d_method_3_code_155 rfl (v := 3) rfl ?_
    refine k_aloadN C X d_method_3_code_156 rfl rfl rfl ?_
    refine k_iconst C X d_method_3_code_157 rfl (v := 3) rfl ?_
    refine k_iaload C X d_method_3_code_158 rfl (ix := 1) (i := 3) rfl (by decide) (by decide) rfl ?_
    refine k_iastore C X d_method_3_code_159 rfl (ix := 0) (i := 3) rfl (by decide) (by decide) (Nat.le_of_ble_eq_true rfl) (vs' := [(.int b0), (.int b1), (.int b2), (.int b3), (.int 0)]) rfl (L' := (o109, own_ar Z .int [(.int b0), (.int b1), (.int b2), (.int b3), (.int 0)]) :: (o1, own_ar Z .int [(.int b0), (.int b1), (.int b2), (.int b3), (.int b4)]) :: (u, own_ar Z .int [(.int u0), (.int u1), (.int u2), (.int u3), (.int u4)]) :: L) rfl (fun T X => ?_)
    refine k_iloadN C X d_method_3_code_160 rfl rfl ?_
    refine k_iconst C X d_method_3_code_161 rfl (v := 4) rfl ?_
    refine k_icmp_le C X d_method_3_code_162 rfl (tpc := 172) rfl (fun hc => (absurd hc (by decide) : False).elim) (fun _ => ?_)
    refine k_aload C X d_method_3_code_165 rfl rfl rfl ?_
    refine k_iconst C X d_method_3_code_167 rfl (v := 4) rfl ?_
    refine k_aloadN C X d_method_3_code_168 rfl rfl rfl ?_
    refine k_iconst C X d_method_3_code_169 rfl (v := 4) rfl ?_
    refine k_iaload C X d_method_3_code_170 rfl (ix := 1) (i := 4) rfl (by decide) (by decide) rfl ?_
    refine k_iastore C X d_method_3_code_171 rfl (ix := 0) (i := 4) rfl (by decide) (by decide) (Nat.le_of_ble_eq_true rfl) (vs' := [(.int b0), (.int b1), (.int b2), (.int b3), (.int b4)]) rfl (L' := (o109, own_ar Z .int [(.int b0), (.int b1), (.int b2), (.int b3), (.int b4)]) :: (o1, own_ar Z .int [(.int b0), (.int b1), (.int b2), (.int b3), (.int b4)]) :: (u, own_ar Z .int [(.int u0), (.int u1), (.int u2), (.int u3), (.int u4)]) :: L) rfl (fun T X => ?_)
    refine k_aload C X d_method_3_code_172 rfl rfl rfl ?_
    exact k_areturn C X d_method_3_code_174 rfl rfl rfl ⟨_, _, [b0, b1, b2, b3, b4], rfl, hq ▸ s5, by simp, rfl⟩ (by decide) (by decide)
theorem d_method_5_code_0 : decode method_5_code 0 = .ok (.iload_n 0, 1) := by decide +kernel
theorem d_method_5_code_1 : decode method_5_code 1 = .ok (.newarray .double, 2) := by decide +kernel
theorem d_method_5_code_3 : decode method_5_code 3 = .ok (.astore_n 2, 1) := by decide +kernel
theorem d_method_5_code_4 : decode method_5_code 4 = .ok (.iload_n 0, 1) := by decide +kernel
theorem d_method_5_code_5 : decode method_5_code 5 = .ok (.ifCond .le 14, 3) := by decide +kernel
theorem d_method_5_code_19 : decode method_5_code 19 = .ok (.iload_n 0, 1) := by decide +kernel
theorem d_method_5_code_20 : decode method_5_code 20 = .ok (.iconst 1, 1) := by decide +kernel
theorem d_method_5_code_21 : decode method_5_code 21 = .ok (.if_icmp .le 15, 3) := by decide +kernel
theorem d_method_5_code_36 : decode method_5_code 36 = .ok (.iload_n 0, 1) := by decide +kernel
theorem d_method_5_code_37 : decode method_5_code 37 = .ok (.iconst 2, 1) := by decide +kernel
theorem d_method_5_code_38 : decode method_5_code 38 = .ok (.if_icmp .le 15, 3) := by decide +kernel
theorem d_method_5_code_53 : decode method_5_code 53 = .ok (.iload_n 0, 1) := by decide +kernel
theorem d_method_5_code_54 : decode method_5_code 54 = .ok (.iconst 3, 1) := by decide +kernel
theorem d_method_5_code_55 : decode method_5_code 55 = .ok (.if_icmp .le 15, 3) := by decide +kernel
theorem d_method_5_code_70 : decode method_5_code 70 = .ok (.iload_n 0, 1) := by decide +kernel
theorem d_method_5_code_71 : decode method_5_code 71 = .ok (.iconst 4, 1) := by decide +kernel
theorem d_method_5_code_72 : decode method_5_code 72 = .ok (.if_icmp .le 15, 3) := by decide +kernel
theorem d_method_5_code_87 : decode method_5_code 87 = .ok (.aload_n 2, 1) := by decide +kernel
theorem d_method_5_code_88 : decode method_5_code 88 = .ok (.areturn, 1) := by decide +kernel
theorem d_method_5_code_8 : decode method_5_code 8 = .ok (.aload_n 2, 1) := by decide +kernel
theorem d_method_5_code_9 : decode method_5_code 9 = .ok (.iconst 0, 1) := by decide +kernel
theorem d_method_5_code_10 : decode method_5_code 10 = .ok (.iload_n 1, 1) := by decide +kernel
theorem d_method_5_code_11 : decode method_5_code 11 = .ok (.iconst 5, 1) := by decide +kernel
theorem d_method_5_code_12 : decode method_5_code 12 = .ok (.iushr, 1) := by decide +kernel
theorem d_method_5_code_13 : decode method_5_code 13 = .ok (.iconst 3, 1) := by decide +kernel
theorem d_method_5_code_14 : decode method_5_code 14 = .ok (.iand, 1) := by decide +kernel
theorem d_method_5_code_15 : decode method_5_code 15 = .ok (.iconst 1, 1) := by decide +kernel
theorem d_method_5_code_16 : decode method_5_code 16 = .ok (.isub, 1) := by decide +kernel
theorem d_method_5_code_17 : decode method_5_code 17 = .ok (.i2d, 1) := by decide +kernel
theorem d_method_5_code_18 : decode method_5_code 18 = .ok (.dastore, 1) := by decide +kernel
theorem d_method_5_code_24 : decode method_5_code 24 = .ok (.aload_n 2, 1) := by decide +kernel
theorem d_method_5_code_25 : decode method_5_code 25 = .ok (.iconst 1, 1) := by decide +kernel
theorem d_method_5_code_26 : decode method_5_code 26 = .ok (.iload_n 1, 1) := by decide +kernel
theorem d_method_5_code_27 : decode method_5_code 27 = .ok (.bipush 7, 2) := by decide +kernel
theorem d_method_5_code_29 : decode method_5_code 29 = .ok (.iushr, 1) := by decide +kernel
theorem d_method_5_code_30 : decode method_5_code 30 = .ok (.iconst 3, 1) := by decide +kernel
theorem d_method_5_code_31 : decode method_5_code 31 = .ok (.iand, 1) := by decide +kernel
theorem d_method_5_code_32 : decode method_5_code 32 = .ok (.iconst 1, 1) := by decide +kernel
theorem d_method_5_code_33 : decode method_5_code 33 = .ok (.isub, 1) := by decide +kernel
theorem d_method_5_code_34 : decode method_5_code 34 = .ok (.i2d, 1) := by decide +kernel
theorem d_method_5_code_35 : decode method_5_code 35 = .ok (.dastore, 1) := by decide +kernel
theorem d_method_5_code_41 : decode method_5_code 41 = .ok (.aload_n 2, 1) := by decide +kernel
theorem d_method_5_code_42 : decode method_5_code 42 = .ok (.iconst 2, 1) := by decide +kernel
theorem d_method_5_code_43 : decode method_5_code 43 = .ok (.iload_n 1, 1) := by decide +kernel
theorem d_method_5_code_44 : decode method_5_code 44 = .ok (.bipush 9, 2) := by decide +kernel
theorem d_method_5_code_46 : decode method_5_code 46 = .ok (.iushr, 1) := by decide +kernel
theorem d_method_5_code_47 : decode method_5_code 47 = .ok (.iconst 3, 1) := by decide +kernel
theorem d_method_5_code_48 : decode method_5_code 48 = .ok (.iand, 1) := by decide +kernel
theorem d_method_5_code_49 : decode method_5_code 49 = .ok (.iconst 1, 1) := by decide +kernel
theorem d_method_5_code_50 : decode method_5_code 50 = .ok (.isub, 1) := by decide +kernel
theorem d_method_5_code_51 : decode method_5_code 51 = .ok (.i2d, 1) := by decide +kernel
theorem d_method_5_code_52 : decode method_5_code 52 = .ok (.dastore, 1) := by decide +kernel
theorem d_method_5_code_58 : decode method_5_code 58 = .ok (.aload_n 2, 1) := by decide +kernel
theorem d_method_5_code_59 : decode method_5_code 59 = .ok (.iconst 3, 1) := by decide +kernel
theorem d_method_5_code_60 : decode method_5_code 60 = .ok (.iload_n 1, 1) := by decide +kernel
theorem d_method_5_code_61 : decode method_5_code 61 = .ok (.bipush 11, 2) := by decide +kernel
theorem d_method_5_code_63 : decode method_5_code 63 = .ok (.iushr, 1) := by decide +kernel
theorem d_method_5_code_64 : decode method_5_code 64 = .ok (.iconst 3, 1) := by decide +kernel
theorem d_method_5_code_65 : decode method_5_code 65 = .ok (.iand, 1) := by decide +kernel
theorem d_method_5_code_66 : decode method_5_code 66 = .ok (.iconst 1, 1) := by decide +kernel
theorem d_method_5_code_67 : decode method_5_code 67 = .ok (.isub, 1) := by decide +kernel
theorem d_method_5_code_68 : decode method_5_code 68 = .ok (.i2d, 1) := by decide +kernel
theorem d_method_5_code_69 : decode method_5_code 69 = .ok (.dastore, 1) := by decide +kernel
theorem d_method_5_code_75 : decode method_5_code 75 = .ok (.aload_n 2, 1) := by decide +kernel
theorem d_method_5_code_76 : decode method_5_code 76 = .ok (.iconst 4, 1) := by decide +kernel
theorem d_method_5_code_77 : decode method_5_code 77 = .ok (.iload_n 1, 1) := by decide +kernel
theorem d_method_5_code_78 : decode method_5_code 78 = .ok (.bipush 13, 2) := by decide +kernel
theorem d_method_5_code_80 : decode method_5_code 80 = .ok (.iushr, 1) := by decide +kernel
theorem d_method_5_code_81 : decode method_5_code 81 = .ok (.iconst 3, 1) := by decide +kernel
theorem d_method_5_code_82 : decode method_5_code 82 = .ok (.iand, 1) := by decide +kernel
theorem d_method_5_code_83 : decode method_5_code 83 = .ok (.iconst 1, 1) := by decide +kernel
theorem d_method_5_code_84 : decode method_5_code 84 = .ok (.isub, 1) := by decide +kernel
theorem d_method_5_code_85 : decode method_5_code 85 = .ok (.i2d, 1) := by decide +kernel
theorem d_method_5_code_86 : decode method_5_code 86 = .ok (.dastore, 1) := by decide +kernel
def rm_own_vals : Room := { frames := 0, cells := 1, slots := 5, locals := 0 }
set_option maxRecDepth 65536 in
set_option maxHeartbeats 40000000 in
theorem own_vals (l : Launch) (Z : State) (a0 : Array Value) (hw : ∀ d ∈ tables_1, d.before a0 Z = true) (q : List Int32) (cn mk : Int32) (hn : cn = q.length.toInt32) (hq : q.length ≤ 5) (L : List (Addr × (Cell → Prop))) :
    own_Con l Z (⟨"com/example/fuzzsub/fuzzsub/service/SparseVectorMeetsPinLaw", "values", "(II)[D"⟩ : MethodName) method_5_code 3 (some (.array .double)) rm_own_vals #[(.int cn), (.int mk)] (L) (fun v M => ∃ a vs, v = some (.ref a) ∧ M = (a, own_ar Z .double vs) :: L) := by
  refine own_con (ls := #[.val (.int cn), .val (.int mk), .unset]) (plainFor_of_name own_pn1) (fun m => by first | rfl | (simp [entryFrame, mkF, argsToLocals, Value.category]; done)) ?_
  intro p e s m below meth c T C X
  rcases own_five hn hq with hcn | hcn | hcn | hcn | hcn | hcn
  · rw [hcn]
    refine k_iloadN C X d_method_5_code_0 rfl rfl ?_
    refine k_newarray C X d_method_5_code_1 rfl (ty := .double) rfl (hw _ (List.mem_of_getElem? (i := 23) rfl)) (by decide) (cap := 0) (by decide) (by decide) (by decide) (by decide) (vs := []) rfl (fun T o1 X => ?_)
    refine k_astoreN C X d_method_5_code_3 rfl rfl (l' := #[.val (.int (0)), .val (.int mk), .val (.ref o1)]) rfl ?_
    refine k_iloadN C X d_method_5_code_4 rfl rfl ?_
    refine k_if_le C X d_method_5_code_5 rfl (tpc := 19) rfl (fun _ => ?_) (fun hc => (absurd hc (by decide) : False).elim)
    refine k_iloadN C X d_method_5_code_19 rfl rfl ?_
    refine k_iconst C X d_method_5_code_20 rfl (v := 1) rfl ?_
    refine k_icmp_le C X d_method_5_code_21 rfl (tpc := 36) rfl (fun _ => ?_) (fun hc => (absurd hc (by decide) : False).elim)
    refine k_iloadN C X d_method_5_code_36 rfl rfl ?_
    refine k_iconst C X d_method_5_code_37 rfl (v := 2) rfl ?_
    refine k_icmp_le C X d_method_5_code_38 rfl (tpc := 53) rfl (fun _ => ?_) (fun hc => (absurd hc (by decide) : False).elim)
    refine k_iloadN C X d_method_5_code_53 rfl rfl ?_
    refine k_iconst C X d_method_5_code_54 rfl (v := 3) rfl ?_
    refine k_icmp_le C X d_method_5_code_55 rfl (tpc := 70) rfl (fun _ => ?_) (fun hc => (absurd hc (by decide) : False).elim)
    refine k_iloadN C X d_method_5_code_70 rfl rfl ?_
    refine k_iconst C X d_method_5_code_71 rfl (v := 4) rfl ?_
    refine k_icmp_le C X d_method_5_code_72 rfl (tpc := 87) rfl (fun _ => ?_) (fun hc => (absurd hc (by decide) : False).elim)
    refine k_aloadN C X d_method_5_code_87 rfl rfl rfl ?_
    exact k_areturn C X d_method_5_code_88 rfl rfl rfl ⟨_, _, rfl, rfl⟩ (by decide) (by decide)
  · rw [hcn]
    refine k_iloadN C X d_method_5_code_0 rfl rfl ?_
    refine k_newarray C X d_method_5_code_1 rfl (ty := .double) rfl (hw _ (List.mem_of_getElem? (i := 23) rfl)) (by decide) (cap := 1) (by decide) (by decide) (by decide) (by decide) (vs := [(.double 0)]) rfl (fun T o1 X => ?_)
    refine k_astoreN C X d_method_5_code_3 rfl rfl (l' := #[.val (.int (1)), .val (.int mk), .val (.ref o1)]) rfl ?_
    refine k_iloadN C X d_method_5_code_4 rfl rfl ?_
    refine k_if_le C X d_method_5_code_5 rfl (tpc := 19) rfl (fun hc => (absurd hc (by decide) : False).elim) (fun _ => ?_)
    refine k_aloadN C X d_method_5_code_8 rfl rfl rfl ?_
    refine k_iconst C X d_method_5_code_9 rfl (v := 0) rfl ?_
    refine k_iloadN C X d_method_5_code_10 rfl rfl ?_
    refine k_iconst C X d_method_5_code_11 rfl (v := 5) rfl ?_
    refine k_iushr C X d_method_5_code_12 rfl ?_
    refine k_iconst C X d_method_5_code_13 rfl (v := 3) rfl ?_
    refine k_iand C X d_method_5_code_14 rfl ?_
    refine k_iconst C X d_method_5_code_15 rfl (v := 1) rfl ?_
    refine k_isub C X d_method_5_code_16 rfl ?_
    refine k_i2d C X d_method_5_code_17 rfl ?_
    refine k_dastore C X d_method_5_code_18 rfl (ix := 0) (i := 0) rfl (by decide) (by decide) (Nat.le_of_ble_eq_true rfl) (vs' := [(.double (FP.i2d (((Jvm.Free.XT.ushr mk (5)) &&& (3)) - (1))))]) rfl (L' := (o1, own_ar Z .double [(.double (FP.i2d (((Jvm.Free.XT.ushr mk (5)) &&& (3)) - (1))))]) :: L) rfl (fun T X => ?_)
    refine k_iloadN C X d_method_5_code_19 rfl rfl ?_
    refine k_iconst C X d_method_5_code_20 rfl (v := 1) rfl ?_
    refine k_icmp_le C X d_method_5_code_21 rfl (tpc := 36) rfl (fun _ => ?_) (fun hc => (absurd hc (by decide) : False).elim)
    refine k_iloadN C X d_method_5_code_36 rfl rfl ?_
    refine k_iconst C X d_method_5_code_37 rfl (v := 2) rfl ?_
    refine k_icmp_le C X d_method_5_code_38 rfl (tpc := 53) rfl (fun _ => ?_) (fun hc => (absurd hc (by decide) : False).elim)
    refine k_iloadN C X d_method_5_code_53 rfl rfl ?_
    refine k_iconst C X d_method_5_code_54 rfl (v := 3) rfl ?_
    refine k_icmp_le C X d_method_5_code_55 rfl (tpc := 70) rfl (fun _ => ?_) (fun hc => (absurd hc (by decide) : False).elim)
    refine k_iloadN C X d_method_5_code_70 rfl rfl ?_
    refine k_iconst C X d_method_5_code_71 rfl (v := 4) rfl ?_
    refine k_icmp_le C X d_method_5_code_72 rfl (tpc := 87) rfl (fun _ => ?_) (fun hc => (absurd hc (by decide) : False).elim)
    refine k_aloadN C X d_method_5_code_87 rfl rfl rfl ?_
    exact k_areturn C X d_method_5_code_88 rfl rfl rfl ⟨_, _, rfl, rfl⟩ (by decide) (by decide)
  · rw [hcn]
    refine k_iloadN C X d_method_5_code_0 rfl rfl ?_
    refine k_newarray C X d_method_5_code_1 rfl (ty := .double) rfl (hw _ (List.mem_of_getElem? (i := 23) rfl)) (by decide) (cap := 2) (by decide) (by decide) (by decide) (by decide) (vs := [(.double 0), (.double 0)]) rfl (fun T o1 X => ?_)
    refine k_astoreN C X d_method_5_code_3 rfl rfl (l' := #[.val (.int (2)), .val (.int mk), .val (.ref o1)]) rfl ?_
    refine k_iloadN C X d_method_5_code_4 rfl rfl ?_
    refine k_if_le C X d_method_5_code_5 rfl (tpc := 19) rfl (fun hc => (absurd hc (by decide) : False).elim) (fun _ => ?_)
    refine k_aloadN C X d_method_5_code_8 rfl rfl rfl ?_
    refine k_iconst C X d_method_5_code_9 rfl (v := 0) rfl ?_
    refine k_iloadN C X d_method_5_code_10 rfl rfl ?_
    refine k_iconst C X d_method_5_code_11 rfl (v := 5) rfl ?_
    refine k_iushr C X d_method_5_code_12 rfl ?_
    refine k_iconst C X d_method_5_code_13 rfl (v := 3) rfl ?_
    refine k_iand C X d_method_5_code_14 rfl ?_
    refine k_iconst C X d_method_5_code_15 rfl (v := 1) rfl ?_
    refine k_isub C X d_method_5_code_16 rfl ?_
    refine k_i2d C X d_method_5_code_17 rfl ?_
    refine k_dastore C X d_method_5_code_18 rfl (ix := 0) (i := 0) rfl (by decide) (by decide) (Nat.le_of_ble_eq_true rfl) (vs' := [(.double (FP.i2d (((Jvm.Free.XT.ushr mk (5)) &&& (3)) - (1)))), (.double 0)]) rfl (L' := (o1, own_ar Z .double [(.double (FP.i2d (((Jvm.Free.XT.ushr mk (5)) &&& (3)) - (1)))), (.double 0)]) :: L) rfl (fun T X => ?_)
    refine k_iloadN C X d_method_5_code_19 rfl rfl ?_
    refine k_iconst C X d_method_5_code_20 rfl (v := 1) rfl ?_
    refine k_icmp_le C X d_method_5_code_21 rfl (tpc := 36) rfl (fun hc => (absurd hc (by decide) : False).elim) (fun _ => ?_)
    refine k_aloadN C X d_method_5_code_24 rfl rfl rfl ?_
    refine k_iconst C X d_method_5_code_25 rfl (v := 1) rfl ?_
    refine k_iloadN C X d_method_5_code_26 rfl rfl ?_
    refine k_bipush C X d_method_5_code_27 rfl (v := 7) rfl ?_
    refine k_iushr C X d_method_5_code_29 rfl ?_
    refine k_iconst C X d_method_5_code_30 rfl (v := 3) rfl ?_
    refine k_iand C X d_method_5_code_31 rfl ?_
    refine k_iconst C X d_method_5_code_32 rfl (v := 1) rfl ?_
    refine k_isub C X d_method_5_code_33 rfl ?_
    refine k_i2d C X d_method_5_code_34 rfl ?_
    refine k_dastore C X d_method_5_code_35 rfl (ix := 0) (i := 1) rfl (by decide) (by decide) (Nat.le_of_ble_eq_true rfl) (vs' := [(.double (FP.i2d (((Jvm.Free.XT.ushr mk (5)) &&& (3)) - (1)))), (.double (FP.i2d (((Jvm.Free.XT.ushr mk (7)) &&& (3)) - (1))))]) rfl (L' := (o1, own_ar Z .double [(.double (FP.i2d (((Jvm.Free.XT.ushr mk (5)) &&& (3)) - (1)))), (.double (FP.i2d (((Jvm.Free.XT.ushr mk (7)) &&& (3)) - (1))))]) :: L) rfl (fun T X => ?_)
    refine k_iloadN C X d_method_5_code_36 rfl rfl ?_
    refine k_iconst C X d_method_5_code_37 rfl (v := 2) rfl ?_
    refine k_icmp_le C X d_method_5_code_38 rfl (tpc := 53) rfl (fun _ => ?_) (fun hc => (absurd hc (by decide) : False).elim)
    refine k_iloadN C X d_method_5_code_53 rfl rfl ?_
    refine k_iconst C X d_method_5_code_54 rfl (v := 3) rfl ?_
    refine k_icmp_le C X d_method_5_code_55 rfl (tpc := 70) rfl (fun _ => ?_) (fun hc => (absurd hc (by decide) : False).elim)
    refine k_iloadN C X d_method_5_code_70 rfl rfl ?_
    refine k_iconst C X d_method_5_code_71 rfl (v := 4) rfl ?_
    refine k_icmp_le C X d_method_5_code_72 rfl (tpc := 87) rfl (fun _ => ?_) (fun hc => (absurd hc (by decide) : False).elim)
    refine k_aloadN C X d_method_5_code_87 rfl rfl rfl ?_
    exact k_areturn C X d_method_5_code_88 rfl rfl rfl ⟨_, _, rfl, rfl⟩ (by decide) (by decide)
  · rw [hcn]
    refine k_iloadN C X d_method_5_code_0 rfl rfl ?_
    refine k_newarray C X d_method_5_code_1 rfl (ty := .double) rfl (hw _ (List.mem_of_getElem? (i := 23) rfl)) (by decide) (cap := 3) (by decide) (by decide) (by decide) (by decide) (vs := [(.double 0), (.double 0), (.double 0)]) rfl (fun T o1 X => ?_)
    refine k_astoreN C X d_method_5_code_3 rfl rfl (l' := #[.val (.int (3)), .val (.int mk), .val (.ref o1)]) rfl ?_
    refine k_iloadN C X d_method_5_code_4 rfl rfl ?_
    refine k_if_le C X d_method_5_code_5 rfl (tpc := 19) rfl (fun hc => (absurd hc (by decide) : False).elim) (fun _ => ?_)
    refine k_aloadN C X d_method_5_code_8 rfl rfl rfl ?_
    refine k_iconst C X d_method_5_code_9 rfl (v := 0) rfl ?_
    refine k_iloadN C X d_method_5_code_10 rfl rfl ?_
    refine k_iconst C X d_method_5_code_11 rfl (v := 5) rfl ?_
    refine k_iushr C X d_method_5_code_12 rfl ?_
    refine k_iconst C X d_method_5_code_13 rfl (v := 3) rfl ?_
    refine k_iand C X d_method_5_code_14 rfl ?_
    refine k_iconst C X d_method_5_code_15 rfl (v := 1) rfl ?_
    refine k_isub C X d_method_5_code_16 rfl ?_
    refine k_i2d C X d_method_5_code_17 rfl ?_
    refine k_dastore C X d_method_5_code_18 rfl (ix := 0) (i := 0) rfl (by decide) (by decide) (Nat.le_of_ble_eq_true rfl) (vs' := [(.double (FP.i2d (((Jvm.Free.XT.ushr mk (5)) &&& (3)) - (1)))), (.double 0), (.double 0)]) rfl (L' := (o1, own_ar Z .double [(.double (FP.i2d (((Jvm.Free.XT.ushr mk (5)) &&& (3)) - (1)))), (.double 0), (.double 0)]) :: L) rfl (fun T X => ?_)
    refine k_iloadN C X d_method_5_code_19 rfl rfl ?_
    refine k_iconst C X d_method_5_code_20 rfl (v := 1) rfl ?_
    refine k_icmp_le C X d_method_5_code_21 rfl (tpc := 36) rfl (fun hc => (absurd hc (by decide) : False).elim) (fun _ => ?_)
    refine k_aloadN C X d_method_5_code_24 rfl rfl rfl ?_
    refine k_iconst C X d_method_5_code_25 rfl (v := 1) rfl ?_
    refine k_iloadN C X d_method_5_code_26 rfl rfl ?_
    refine k_bipush C X d_method_5_code_27 rfl (v := 7) rfl ?_
    refine k_iushr C X d_method_5_code_29 rfl ?_
    refine k_iconst C X d_method_5_code_30 rfl (v := 3) rfl ?_
    refine k_iand C X d_method_5_code_31 rfl ?_
    refine k_iconst C X d_method_5_code_32 rfl (v := 1) rfl ?_
    refine k_isub C X d_method_5_code_33 rfl ?_
    refine k_i2d C X d_method_5_code_34 rfl ?_
    refine k_dastore C X d_method_5_code_35 rfl (ix := 0) (i := 1) rfl (by decide) (by decide) (Nat.le_of_ble_eq_true rfl) (vs' := [(.double (FP.i2d (((Jvm.Free.XT.ushr mk (5)) &&& (3)) - (1)))), (.double (FP.i2d (((Jvm.Free.XT.ushr mk (7)) &&& (3)) - (1)))), (.double 0)]) rfl (L' := (o1, own_ar Z .double [(.double (FP.i2d (((Jvm.Free.XT.ushr mk (5)) &&& (3)) - (1)))), (.double (FP.i2d (((Jvm.Free.XT.ushr mk (7)) &&& (3)) - (1)))), (.double 0)]) :: L) rfl (fun T X => ?_)
    refine k_iloadN C X d_method_5_code_36 rfl rfl ?_
    refine k_iconst C X d_method_5_code_37 rfl (v := 2) rfl ?_
    refine k_icmp_le C X d_method_5_code_38 rfl (tpc := 53) rfl (fun hc => (absurd hc (by decide) : False).elim) (fun _ => ?_)
    refine k_aloadN C X d_method_5_code_41 rfl rfl rfl ?_
    refine k_iconst C X d_method_5_code_42 rfl (v := 2) rfl ?_
    refine k_iloadN C X d_method_5_code_43 rfl rfl ?_
    refine k_bipush C X d_method_5_code_44 rfl (v := 9) rfl ?_
    refine k_iushr C X d_method_5_code_46 rfl ?_
    refine k_iconst C X d_method_5_code_47 rfl (v := 3) rfl ?_
    refine k_iand C X d_method_5_code_48 rfl ?_
    refine k_iconst C X d_method_5_code_49 rfl (v := 1) rfl ?_
    refine k_isub C X d_method_5_code_50 rfl ?_
    refine k_i2d C X d_method_5_code_51 rfl ?_
    refine k_dastore C X d_method_5_code_52 rfl (ix := 0) (i := 2) rfl (by decide) (by decide) (Nat.le_of_ble_eq_true rfl) (vs' := [(.double (FP.i2d (((Jvm.Free.XT.ushr mk (5)) &&& (3)) - (1)))), (.double (FP.i2d (((Jvm.Free.XT.ushr mk (7)) &&& (3)) - (1)))), (.double (FP.i2d (((Jvm.Free.XT.ushr mk (9)) &&& (3)) - (1))))]) rfl (L' := (o1, own_ar Z .double [(.double (FP.i2d (((Jvm.Free.XT.ushr mk (5)) &&& (3)) - (1)))), (.double (FP.i2d (((Jvm.Free.XT.ushr mk (7)) &&& (3)) - (1)))), (.double (FP.i2d (((Jvm.Free.XT.ushr mk (9)) &&& (3)) - (1))))]) :: L) rfl (fun T X => ?_)
    refine k_iloadN C X d_method_5_code_53 rfl rfl ?_
    refine k_iconst C X d_method_5_code_54 rfl (v := 3) rfl ?_
    refine k_icmp_le C X d_method_5_code_55 rfl (tpc := 70) rfl (fun _ => ?_) (fun hc => (absurd hc (by decide) : False).elim)
    refine k_iloadN C X d_method_5_code_70 rfl rfl ?_
    refine k_iconst C X d_method_5_code_71 rfl (v := 4) rfl ?_
    refine k_icmp_le C X d_method_5_code_72 rfl (tpc := 87) rfl (fun _ => ?_) (fun hc => (absurd hc (by decide) : False).elim)
    refine k_aloadN C X d_method_5_code_87 rfl rfl rfl ?_
    exact k_areturn C X d_method_5_code_88 rfl rfl rfl ⟨_, _, rfl, rfl⟩ (by decide) (by decide)
  · rw [hcn]
    refine k_iloadN C X d_method_5_code_0 rfl rfl ?_
    refine k_newarray C X d_method_5_code_1 rfl (ty := .double) rfl (hw _ (List.mem_of_getElem? (i := 23) rfl)) (by decide) (cap := 4) (by decide) (by decide) (by decide) (by decide) (vs := [(.double 0), (.double 0), (.double 0), (.double 0)]) rfl (fun T o1 X => ?_)
    refine k_astoreN C X d_method_5_code_3 rfl rfl (l' := #[.val (.int (4)), .val (.int mk), .val (.ref o1)]) rfl ?_
    refine k_iloadN C X d_method_5_code_4 rfl rfl ?_
    refine k_if_le C X d_method_5_code_5 rfl (tpc := 19) rfl (fun hc => (absurd hc (by decide) : False).elim) (fun _ => ?_)
    refine k_aloadN C X d_method_5_code_8 rfl rfl rfl ?_
    refine k_iconst C X d_method_5_code_9 rfl (v := 0) rfl ?_
    refine k_iloadN C X d_method_5_code_10 rfl rfl ?_
    refine k_iconst C X d_method_5_code_11 rfl (v := 5) rfl ?_
    refine k_iushr C X d_method_5_code_12 rfl ?_
    refine k_iconst C X d_method_5_code_13 rfl (v := 3) rfl ?_
    refine k_iand C X d_method_5_code_14 rfl ?_
    refine k_iconst C X d_method_5_code_15 rfl (v := 1) rfl ?_
    refine k_isub C X d_method_5_code_16 rfl ?_
    refine k_i2d C X d_method_5_code_17 rfl ?_
    refine k_dastore C X d_method_5_code_18 rfl (ix := 0) (i := 0) rfl (by decide) (by decide) (Nat.le_of_ble_eq_true rfl) (vs' := [(.double (FP.i2d (((Jvm.Free.XT.ushr mk (5)) &&& (3)) - (1)))), (.double 0), (.double 0), (.double 0)]) rfl (L' := (o1, own_ar Z .double [(.double (FP.i2d (((Jvm.Free.XT.ushr mk (5)) &&& (3)) - (1)))), (.double 0), (.double 0), (.double 0)]) :: L) rfl (fun T X => ?_)
    refine k_iloadN C X d_method_5_code_19 rfl rfl ?_
    refine k_iconst C X d_method_5_code_20 rfl (v := 1) rfl ?_
    refine k_icmp_le C X d_method_5_code_21 rfl (tpc := 36) rfl (fun hc => (absurd hc (by decide) : False).elim) (fun _ => ?_)
    refine k_aloadN C X d_method_5_code_24 rfl rfl rfl ?_
    refine k_iconst C X d_method_5_code_25 rfl (v := 1) rfl ?_
    refine k_iloadN C X d_method_5_code_26 rfl rfl ?_
    refine k_bipush C X d_method_5_code_27 rfl (v := 7) rfl ?_
    refine k_iushr C X d_method_5_code_29 rfl ?_
    refine k_iconst C X d_method_5_code_30 rfl (v := 3) rfl ?_
    refine k_iand C X d_method_5_code_31 rfl ?_
    refine k_iconst C X d_method_5_code_32 rfl (v := 1) rfl ?_
    refine k_isub C X d_method_5_code_33 rfl ?_
    refine k_i2d C X d_method_5_code_34 rfl ?_
    refine k_dastore C X d_method_5_code_35 rfl (ix := 0) (i := 1) rfl (by decide) (by decide) (Nat.le_of_ble_eq_true rfl) (vs' := [(.double (FP.i2d (((Jvm.Free.XT.ushr mk (5)) &&& (3)) - (1)))), (.double (FP.i2d (((Jvm.Free.XT.ushr mk (7)) &&& (3)) - (1)))), (.double 0), (.double 0)]) rfl (L' := (o1, own_ar Z .double [(.double (FP.i2d (((Jvm.Free.XT.ushr mk (5)) &&& (3)) - (1)))), (.double (FP.i2d (((Jvm.Free.XT.ushr mk (7)) &&& (3)) - (1)))), (.double 0), (.double 0)]) :: L) rfl (fun T X => ?_)
    refine k_iloadN C X d_method_5_code_36 rfl rfl ?_
    refine k_iconst C X d_method_5_code_37 rfl (v := 2) rfl ?_
    refine k_icmp_le C X d_method_5_code_38 rfl (tpc := 53) rfl (fun hc => (absurd hc (by decide) : False).elim) (fun _ => ?_)
    refine k_aloadN C X d_method_5_code_41 rfl rfl rfl ?_
    refine k_iconst C X d_method_5_code_42 rfl (v := 2) rfl ?_
    refine k_iloadN C X d_method_5_code_43 rfl rfl ?_
    refine k_bipush C X d_method_5_code_44 rfl (v := 9) rfl ?_
    refine k_iushr C X d_method_5_code_46 rfl ?_
    refine k_iconst C X d_method_5_code_47 rfl (v := 3) rfl ?_
    refine k_iand C X d_method_5_code_48 rfl ?_
    refine k_iconst C X d_method_5_code_49 rfl (v := 1) rfl ?_
    refine k_isub C X d_method_5_code_50 rfl ?_
    refine k_i2d C X d_method_5_code_51 rfl ?_
    refine k_dastore C X d_method_5_code_52 rfl (ix := 0) (i := 2) rfl (by decide) (by decide) (Nat.le_of_ble_eq_true rfl) (vs' := [(.double (FP.i2d (((Jvm.Free.XT.ushr mk (5)) &&& (3)) - (1)))), (.double (FP.i2d (((Jvm.Free.XT.ushr mk (7)) &&& (3)) - (1)))), (.double (FP.i2d (((Jvm.Free.XT.ushr mk (9)) &&& (3)) - (1)))), (.double 0)]) rfl (L' := (o1, own_ar Z .double [(.double (FP.i2d (((Jvm.Free.XT.ushr mk (5)) &&& (3)) - (1)))), (.double (FP.i2d (((Jvm.Free.XT.ushr mk (7)) &&& (3)) - (1)))), (.double (FP.i2d (((Jvm.Free.XT.ushr mk (9)) &&& (3)) - (1)))), (.double 0)]) :: L) rfl (fun T X => ?_)
    refine k_iloadN C X d_method_5_code_53 rfl rfl ?_
    refine k_iconst C X d_method_5_code_54 rfl (v := 3) rfl ?_
    refine k_icmp_le C X d_method_5_code_55 rfl (tpc := 70) rfl (fun hc => (absurd hc (by decide) : False).elim) (fun _ => ?_)
    refine k_aloadN C X d_method_5_code_58 rfl rfl rfl ?_
    refine k_iconst C X d_method_5_code_59 rfl (v := 3) rfl ?_
    refine k_iloadN C X d_method_5_code_60 rfl rfl ?_
    refine k_bipush C X d_method_5_code_61 rfl (v := 11) rfl ?_
    refine k_iushr C X d_method_5_code_63 rfl ?_
    refine k_iconst C X d_method_5_code_64 rfl (v := 3) rfl ?_
    refine k_iand C X d_method_5_code_65 rfl ?_
    refine k_iconst C X d_method_5_code_66 rfl (v := 1) rfl ?_
    refine k_isub C X d_method_5_code_67 rfl ?_
    refine k_i2d C X d_method_5_code_68 rfl ?_
    refine k_dastore C X d_method_5_code_69 rfl (ix := 0) (i := 3) rfl (by decide) (by decide) (Nat.le_of_ble_eq_true rfl) (vs' := [(.double (FP.i2d (((Jvm.Free.XT.ushr mk (5)) &&& (3)) - (1)))), (.double (FP.i2d (((Jvm.Free.XT.ushr mk (7)) &&& (3)) - (1)))), (.double (FP.i2d (((Jvm.Free.XT.ushr mk (9)) &&& (3)) - (1)))), (.double (FP.i2d (((Jvm.Free.XT.ushr mk (11)) &&& (3)) - (1))))]) rfl (L' := (o1, own_ar Z .double [(.double (FP.i2d (((Jvm.Free.XT.ushr mk (5)) &&& (3)) - (1)))), (.double (FP.i2d (((Jvm.Free.XT.ushr mk (7)) &&& (3)) - (1)))), (.double (FP.i2d (((Jvm.Free.XT.ushr mk (9)) &&& (3)) - (1)))), (.double (FP.i2d (((Jvm.Free.XT.ushr mk (11)) &&& (3)) - (1))))]) :: L) rfl (fun T X => ?_)
    refine k_iloadN C X d_method_5_code_70 rfl rfl ?_
    refine k_iconst C X d_method_5_code_71 rfl (v := 4) rfl ?_
    refine k_icmp_le C X d_method_5_code_72 rfl (tpc := 87) rfl (fun _ => ?_) (fun hc => (absurd hc (by decide) : False).elim)
    refine k_aloadN C X d_method_5_code_87 rfl rfl rfl ?_
    exact k_areturn C X d_method_5_code_88 rfl rfl rfl ⟨_, _, rfl, rfl⟩ (by decide) (by decide)
  · rw [hcn]
    refine k_iloadN C X d_method_5_code_0 rfl rfl ?_
    refine k_newarray C X d_method_5_code_1 rfl (ty := .double) rfl (hw _ (List.mem_of_getElem? (i := 23) rfl)) (by decide) (cap := 5) (by decide) (by decide) (by decide) (by decide) (vs := [(.double 0), (.double 0), (.double 0), (.double 0), (.double 0)]) rfl (fun T o1 X => ?_)
    refine k_astoreN C X d_method_5_code_3 rfl rfl (l' := #[.val (.int (5)), .val (.int mk), .val (.ref o1)]) rfl ?_
    refine k_iloadN C X d_method_5_code_4 rfl rfl ?_
    refine k_if_le C X d_method_5_code_5 rfl (tpc := 19) rfl (fun hc => (absurd hc (by decide) : False).elim) (fun _ => ?_)
    refine k_aloadN C X d_method_5_code_8 rfl rfl rfl ?_
    refine k_iconst C X d_method_5_code_9 rfl (v := 0) rfl ?_
    refine k_iloadN C X d_method_5_code_10 rfl rfl ?_
    refine k_iconst C X d_method_5_code_11 rfl (v := 5) rfl ?_
    refine k_iushr C X d_method_5_code_12 rfl ?_
    refine k_iconst C X d_method_5_code_13 rfl (v := 3) rfl ?_
    refine k_iand C X d_method_5_code_14 rfl ?_
    refine k_iconst C X d_method_5_code_15 rfl (v := 1) rfl ?_
    refine k_isub C X d_method_5_code_16 rfl ?_
    refine k_i2d C X d_method_5_code_17 rfl ?_
    refine k_dastore C X d_method_5_code_18 rfl (ix := 0) (i := 0) rfl (by decide) (by decide) (Nat.le_of_ble_eq_true rfl) (vs' := [(.double (FP.i2d (((Jvm.Free.XT.ushr mk (5)) &&& (3)) - (1)))), (.double 0), (.double 0), (.double 0), (.double 0)]) rfl (L' := (o1, own_ar Z .double [(.double (FP.i2d (((Jvm.Free.XT.ushr mk (5)) &&& (3)) - (1)))), (.double 0), (.double 0), (.double 0), (.double 0)]) :: L) rfl (fun T X => ?_)
    refine k_iloadN C X d_method_5_code_19 rfl rfl ?_
    refine k_iconst C X d_method_5_code_20 rfl (v := 1) rfl ?_
    refine k_icmp_le C X d_method_5_code_21 rfl (tpc := 36) rfl (fun hc => (absurd hc (by decide) : False).elim) (fun _ => ?_)
    refine k_aloadN C X d_method_5_code_24 rfl rfl rfl ?_
    refine k_iconst C X d_method_5_code_25 rfl (v := 1) rfl ?_
    refine k_iloadN C X d_method_5_code_26 rfl rfl ?_
    refine k_bipush C X d_method_5_code_27 rfl (v := 7) rfl ?_
    refine k_iushr C X d_method_5_code_29 rfl ?_
    refine k_iconst C X d_method_5_code_30 rfl (v := 3) rfl ?_
    refine k_iand C X d_method_5_code_31 rfl ?_
    refine k_iconst C X d_method_5_code_32 rfl (v := 1) rfl ?_
    refine k_isub C X d_method_5_code_33 rfl ?_
    refine k_i2d C X d_method_5_code_34 rfl ?_
    refine k_dastore C X d_method_5_code_35 rfl (ix := 0) (i := 1) rfl (by decide) (by decide) (Nat.le_of_ble_eq_true rfl) (vs' := [(.double (FP.i2d (((Jvm.Free.XT.ushr mk (5)) &&& (3)) - (1)))), (.double (FP.i2d (((Jvm.Free.XT.ushr mk (7)) &&& (3)) - (1)))), (.double 0), (.double 0), (.double 0)]) rfl (L' := (o1, own_ar Z .double [(.double (FP.i2d (((Jvm.Free.XT.ushr mk (5)) &&& (3)) - (1)))), (.double (FP.i2d (((Jvm.Free.XT.ushr mk (7)) &&& (3)) - (1)))), (.double 0), (.double 0), (.double 0)]) :: L) rfl (fun T X => ?_)
    refine k_iloadN C X d_method_5_code_36 rfl rfl ?_
    refine k_iconst C X d_method_5_code_37 rfl (v := 2) rfl ?_
    refine k_icmp_le C X d_method_5_code_38 rfl (tpc := 53) rfl (fun hc => (absurd hc (by decide) : False).elim) (fun _ => ?_)
    refine k_aloadN C X d_method_5_code_41 rfl rfl rfl ?_
    refine k_iconst C X d_method_5_code_42 rfl (v := 2) rfl ?_
    refine k_iloadN C X d_method_5_code_43 rfl rfl ?_
    refine k_bipush C X d_method_5_code_44 rfl (v := 9) rfl ?_
    refine k_iushr C X d_method_5_code_46 rfl ?_
    refine k_iconst C X d_method_5_code_47 rfl (v := 3) rfl ?_
    refine k_iand C X d_method_5_code_48 rfl ?_
    refine k_iconst C X d_method_5_code_49 rfl (v := 1) rfl ?_
    refine k_isub C X d_method_5_code_50 rfl ?_
    refine k_i2d C X d_method_5_code_51 rfl ?_
    refine k_dastore C X d_method_5_code_52 rfl (ix := 0) (i := 2) rfl (by decide) (by decide) (Nat.le_of_ble_eq_true rfl) (vs' := [(.double (FP.i2d (((Jvm.Free.XT.ushr mk (5)) &&& (3)) - (1)))), (.double (FP.i2d (((Jvm.Free.XT.ushr mk (7)) &&& (3)) - (1)))), (.double (FP.i2d (((Jvm.Free.XT.ushr mk (9)) &&& (3)) - (1)))), (.double 0), (.double 0)]) rfl (L' := (o1, own_ar Z .double [(.double (FP.i2d (((Jvm.Free.XT.ushr mk (5)) &&& (3)) - (1)))), (.double (FP.i2d (((Jvm.Free.XT.ushr mk (7)) &&& (3)) - (1)))), (.double (FP.i2d (((Jvm.Free.XT.ushr mk (9)) &&& (3)) - (1)))), (.double 0), (.double 0)]) :: L) rfl (fun T X => ?_)
    refine k_iloadN C X d_method_5_code_53 rfl rfl ?_
    refine k_iconst C X d_method_5_code_54 rfl (v := 3) rfl ?_
    refine k_icmp_le C X d_method_5_code_55 rfl (tpc := 70) rfl (fun hc => (absurd hc (by decide) : False).elim) (fun _ => ?_)
    refine k_aloadN C X d_method_5_code_58 rfl rfl rfl ?_
    refine k_iconst C X d_method_5_code_59 rfl (v := 3) rfl ?_
    refine k_iloadN C X d_method_5_code_60 rfl rfl ?_
    refine k_bipush C X d_method_5_code_61 rfl (v := 11) rfl ?_
    refine k_iushr C X d_method_5_code_63 rfl ?_
    refine k_iconst C X d_method_5_code_64 rfl (v := 3) rfl ?_
    refine k_iand C X d_method_5_code_65 rfl ?_
    refine k_iconst C X d_method_5_code_66 rfl (v := 1) rfl ?_
    refine k_isub C X d_method_5_code_67 rfl ?_
    refine k_i2d C X d_method_5_code_68 rfl ?_
    refine k_dastore C X d_method_5_code_69 rfl (ix := 0) (i := 3) rfl (by decide) (by decide) (Nat.le_of_ble_eq_true rfl) (vs' := [(.double (FP.i2d (((Jvm.Free.XT.ushr mk (5)) &&& (3)) - (1)))), (.double (FP.i2d (((Jvm.Free.XT.ushr mk (7)) &&& (3)) - (1)))), (.double (FP.i2d (((Jvm.Free.XT.ushr mk (9)) &&& (3)) - (1)))), (.double (FP.i2d (((Jvm.Free.XT.ushr mk (11)) &&& (3)) - (1)))), (.double 0)]) rfl (L' := (o1, own_ar Z .double [(.double (FP.i2d (((Jvm.Free.XT.ushr mk (5)) &&& (3)) - (1)))), (.double (FP.i2d (((Jvm.Free.XT.ushr mk (7)) &&& (3)) - (1)))), (.double (FP.i2d (((Jvm.Free.XT.ushr mk (9)) &&& (3)) - (1)))), (.double (FP.i2d (((Jvm.Free.XT.ushr mk (11)) &&& (3)) - (1)))), (.double 0)]) :: L) rfl (fun T X => ?_)
    refine k_iloadN C X d_method_5_code_70 rfl rfl ?_
    refine k_iconst C X d_method_5_code_71 rfl (v := 4) rfl ?_
    refine k_icmp_le C X d_method_5_code_72 rfl (tpc := 87) rfl (fun hc => (absurd hc (by decide) : False).elim) (fun _ => ?_)
    refine k_aloadN C X d_method_5_code_75 rfl rfl rfl ?_
    refine k_iconst C X d_method_5_code_76 rfl (v := 4) rfl ?_
    refine k_iloadN C X d_method_5_code_77 rfl rfl ?_
    refine k_bipush C X d_method_5_code_78 rfl (v := 13) rfl ?_
    refine k_iushr C X d_method_5_code_80 rfl ?_
    refine k_iconst C X d_method_5_code_81 rfl (v := 3) rfl ?_
    refine k_iand C X d_method_5_code_82 rfl ?_
    refine k_iconst C X d_method_5_code_83 rfl (v := 1) rfl ?_
    refine k_isub C X d_method_5_code_84 rfl ?_
    refine k_i2d C X d_method_5_code_85 rfl ?_
    refine k_dastore C X d_method_5_code_86 rfl (ix := 0) (i := 4) rfl (by decide) (by decide) (Nat.le_of_ble_eq_true rfl) (vs' := [(.double (FP.i2d (((Jvm.Free.XT.ushr mk (5)) &&& (3)) - (1)))), (.double (FP.i2d (((Jvm.Free.XT.ushr mk (7)) &&& (3)) - (1)))), (.double (FP.i2d (((Jvm.Free.XT.ushr mk (9)) &&& (3)) - (1)))), (.double (FP.i2d (((Jvm.Free.XT.ushr mk (11)) &&& (3)) - (1)))), (.double (FP.i2d (((Jvm.Free.XT.ushr mk (13)) &&& (3)) - (1))))]) rfl (L' := (o1, own_ar Z .double [(.double (FP.i2d (((Jvm.Free.XT.ushr mk (5)) &&& (3)) - (1)))), (.double (FP.i2d (((Jvm.Free.XT.ushr mk (7)) &&& (3)) - (1)))), (.double (FP.i2d (((Jvm.Free.XT.ushr mk (9)) &&& (3)) - (1)))), (.double (FP.i2d (((Jvm.Free.XT.ushr mk (11)) &&& (3)) - (1)))), (.double (FP.i2d (((Jvm.Free.XT.ushr mk (13)) &&& (3)) - (1))))]) :: L) rfl (fun T X => ?_)
    refine k_aloadN C X d_method_5_code_87 rfl rfl rfl ?_
    exact k_areturn C X d_method_5_code_88 rfl rfl rfl ⟨_, _, rfl, rfl⟩ (by decide) (by decide)
theorem d_method_6_code_0 : decode method_6_code 0 = .ok (.iload_n 2, 1) := by decide +kernel
theorem d_method_6_code_1 : decode method_6_code 1 = .ok (.aload_n 1, 1) := by decide +kernel
theorem d_method_6_code_2 : decode method_6_code 2 = .ok (.arraylength, 1) := by decide +kernel
theorem d_method_6_code_3 : decode method_6_code 3 = .ok (.if_icmp .lt 5, 3) := by decide +kernel
theorem d_method_6_code_8 : decode method_6_code 8 = .ok (.aload_n 1, 1) := by decide +kernel
theorem d_method_6_code_9 : decode method_6_code 9 = .ok (.iload_n 2, 1) := by decide +kernel
theorem d_method_6_code_10 : decode method_6_code 10 = .ok (.iaload, 1) := by decide +kernel
theorem d_method_6_code_11 : decode method_6_code 11 = .ok (.istore_n 3, 1) := by decide +kernel
theorem d_method_6_code_12 : decode method_6_code 12 = .ok (.aload_n 0, 1) := by decide +kernel
theorem d_method_6_code_13 : decode method_6_code 13 = .ok (.arraylength, 1) := by decide +kernel
theorem d_method_6_code_14 : decode method_6_code 14 = .ok (.ifCond .le 10, 3) := by decide +kernel
theorem d_method_6_code_24 : decode method_6_code 24 = .ok (.aload_n 0, 1) := by decide +kernel
theorem d_method_6_code_25 : decode method_6_code 25 = .ok (.arraylength, 1) := by decide +kernel
theorem d_method_6_code_26 : decode method_6_code 26 = .ok (.iconst 1, 1) := by decide +kernel
theorem d_method_6_code_27 : decode method_6_code 27 = .ok (.if_icmp .le 10, 3) := by decide +kernel
theorem d_method_6_code_37 : decode method_6_code 37 = .ok (.aload_n 0, 1) := by decide +kernel
theorem d_method_6_code_38 : decode method_6_code 38 = .ok (.arraylength, 1) := by decide +kernel
theorem d_method_6_code_39 : decode method_6_code 39 = .ok (.iconst 2, 1) := by decide +kernel
theorem d_method_6_code_40 : decode method_6_code 40 = .ok (.if_icmp .le 10, 3) := by decide +kernel
theorem d_method_6_code_50 : decode method_6_code 50 = .ok (.aload_n 0, 1) := by decide +kernel
theorem d_method_6_code_51 : decode method_6_code 51 = .ok (.arraylength, 1) := by decide +kernel
theorem d_method_6_code_52 : decode method_6_code 52 = .ok (.iconst 3, 1) := by decide +kernel
theorem d_method_6_code_53 : decode method_6_code 53 = .ok (.if_icmp .le 10, 3) := by decide +kernel
theorem d_method_6_code_63 : decode method_6_code 63 = .ok (.aload_n 0, 1) := by decide +kernel
theorem d_method_6_code_64 : decode method_6_code 64 = .ok (.arraylength, 1) := by decide +kernel
theorem d_method_6_code_65 : decode method_6_code 65 = .ok (.iconst 4, 1) := by decide +kernel
theorem d_method_6_code_66 : decode method_6_code 66 = .ok (.if_icmp .le 14, 3) := by decide +kernel
theorem d_method_6_code_80 : decode method_6_code 80 = .ok (.iconst 0, 1) := by decide +kernel
theorem d_method_6_code_81 : decode method_6_code 81 = .ok (.ireturn, 1) := by decide +kernel
theorem d_method_6_code_6 : decode method_6_code 6 = .ok (.iconst 0, 1) := by decide +kernel
theorem d_method_6_code_7 : decode method_6_code 7 = .ok (.ireturn, 1) := by decide +kernel
theorem d_method_6_code_17 : decode method_6_code 17 = .ok (.aload_n 0, 1) := by decide +kernel
theorem d_method_6_code_18 : decode method_6_code 18 = .ok (.iconst 0, 1) := by decide +kernel
theorem d_method_6_code_19 : decode method_6_code 19 = .ok (.iaload, 1) := by decide +kernel
theorem d_method_6_code_20 : decode method_6_code 20 = .ok (.iload_n 3, 1) := by decide +kernel
theorem d_method_6_code_21 : decode method_6_code 21 = .ok (.if_icmp .eq 55, 3) := by decide +kernel
theorem d_method_6_code_76 : decode method_6_code 76 = .ok (.iconst 1, 1) := by decide +kernel
theorem d_method_6_code_77 : decode method_6_code 77 = .ok (.goto 4, 3) := by decide +kernel
theorem d_method_6_code_30 : decode method_6_code 30 = .ok (.aload_n 0, 1) := by decide +kernel
theorem d_method_6_code_31 : decode method_6_code 31 = .ok (.iconst 1, 1) := by decide +kernel
theorem d_method_6_code_32 : decode method_6_code 32 = .ok (.iaload, 1) := by decide +kernel
theorem d_method_6_code_33 : decode method_6_code 33 = .ok (.iload_n 3, 1) := by decide +kernel
theorem d_method_6_code_34 : decode method_6_code 34 = .ok (.if_icmp .eq 42, 3) := by decide +kernel
theorem d_method_6_code_43 : decode method_6_code 43 = .ok (.aload_n 0, 1) := by decide +kernel
theorem d_method_6_code_44 : decode method_6_code 44 = .ok (.iconst 2, 1) := by decide +kernel
theorem d_method_6_code_45 : decode method_6_code 45 = .ok (.iaload, 1) := by decide +kernel
theorem d_method_6_code_46 : decode method_6_code 46 = .ok (.iload_n 3, 1) := by decide +kernel
theorem d_method_6_code_47 : decode method_6_code 47 = .ok (.if_icmp .eq 29, 3) := by decide +kernel
theorem d_method_6_code_56 : decode method_6_code 56 = .ok (.aload_n 0, 1) := by decide +kernel
theorem d_method_6_code_57 : decode method_6_code 57 = .ok (.iconst 3, 1) := by decide +kernel
theorem d_method_6_code_58 : decode method_6_code 58 = .ok (.iaload, 1) := by decide +kernel
theorem d_method_6_code_59 : decode method_6_code 59 = .ok (.iload_n 3, 1) := by decide +kernel
theorem d_method_6_code_60 : decode method_6_code 60 = .ok (.if_icmp .eq 16, 3) := by decide +kernel
theorem d_method_6_code_69 : decode method_6_code 69 = .ok (.aload_n 0, 1) := by decide +kernel
theorem d_method_6_code_70 : decode method_6_code 70 = .ok (.iconst 4, 1) := by decide +kernel
theorem d_method_6_code_71 : decode method_6_code 71 = .ok (.iaload, 1) := by decide +kernel
theorem d_method_6_code_72 : decode method_6_code 72 = .ok (.iload_n 3, 1) := by decide +kernel
theorem d_method_6_code_73 : decode method_6_code 73 = .ok (.if_icmp .ne 7, 3) := by decide +kernel
def rm_own_chas : Room := { frames := 0, cells := 0, slots := 0, locals := 0 }
set_option maxRecDepth 65536 in
set_option maxHeartbeats 40000000 in
theorem own_chas (l : Launch) (Z : State) (a0 : Array Value) (hw : ∀ d ∈ tables_1, d.before a0 Z = true) (b a : Addr) (lb la : List Int32) (i : Int32) (ii : Nat) (hi : i.toNatClampNeg = ii) (h0 : ¬ i < 0) (hlb : lb.length ≤ 5) (hla : la.length ≤ 5) (L : List (Addr × (Cell → Prop))) :
    own_Con l Z (⟨"com/example/fuzzsub/fuzzsub/service/SparseVectorMeetsPinLaw", "has", "([I[II)Z"⟩ : MethodName) method_6_code 4 (some .boolean) rm_own_chas #[(.ref b), (.ref a), (.int i)] ((b, own_ar Z .int (lb.map Value.int)) :: (a, own_ar Z .int (la.map Value.int)) :: L) (fun v M => v = some (.int (own_has lb la ii)) ∧ M = (b, own_ar Z .int (lb.map Value.int)) :: (a, own_ar Z .int (la.map Value.int)) :: L) := by
  refine own_con (ls := #[.val (.ref b), .val (.ref a), .val (.int i), .unset]) (plainFor_of_name own_pn1) (fun m => by first | rfl | (simp [entryFrame, mkF, argsToLocals, Value.category]; done)) ?_
  intro p e s m below meth c T C X
  rcases own_shape lb hlb with hq | ⟨b0, hq⟩ | ⟨b0, b1, hq⟩ | ⟨b0, b1, b2, hq⟩ | ⟨b0, b1, b2, b3, hq⟩ | ⟨b0, b1, b2, b3, b4, hq⟩
  · replace X : own_S p l e rm_own_chas s m #[(.ref b), (.ref a), (.int i)] below meth c Z T ((b, own_ar Z .int []) :: (a, own_ar Z .int (la.map Value.int)) :: L) 0 0 := by rw [hq] at X; exact X
    refine k_iloadN C X d_method_6_code_0 rfl rfl ?_
    refine k_aloadN C X d_method_6_code_1 rfl rfl rfl ?_
    refine k_arraylength C X d_method_6_code_2 rfl (ix := 1) rfl (z := la.length.toInt32) (by rw [List.length_map]) ?_
    refine k_icmp_lt C X d_method_6_code_3 rfl (tpc := 8) rfl (fun h3 => ?_) (fun h3 => ?_)
    · skip
      obtain ⟨x, hx⟩ : ∃ x, la[ii]? = some x := ⟨_, List.getElem?_eq_getElem ((own_ilt hi h0 hla).mp h3)⟩
      refine k_aloadN C X d_method_6_code_8 rfl rfl rfl ?_
      refine k_iloadN C X d_method_6_code_9 rfl rfl ?_
      refine k_iaload C X d_method_6_code_10 rfl (ix := 1) (i := ii) rfl h0 hi (by rw [List.getElem?_map, hx]; rfl) ?_
      refine k_istoreN C X d_method_6_code_11 rfl (l' := #[.val (.ref b), .val (.ref a), .val (.int i), .val (.int x)]) rfl ?_
      refine k_aloadN C X d_method_6_code_12 rfl rfl rfl ?_
      refine k_arraylength C X d_method_6_code_13 rfl (ix := 0) rfl (z := (0)) rfl ?_
      refine k_if_le C X d_method_6_code_14 rfl (tpc := 24) rfl (fun _ => ?_) (fun hc => (absurd hc (by decide) : False).elim)
      refine k_aloadN C X d_method_6_code_24 rfl rfl rfl ?_
      refine k_arraylength C X d_method_6_code_25 rfl (ix := 0) rfl (z := (0)) rfl ?_
      refine k_iconst C X d_method_6_code_26 rfl (v := 1) rfl ?_
      refine k_icmp_le C X d_method_6_code_27 rfl (tpc := 37) rfl (fun _ => ?_) (fun hc => (absurd hc (by decide) : False).elim)
      refine k_aloadN C X d_method_6_code_37 rfl rfl rfl ?_
      refine k_arraylength C X d_method_6_code_38 rfl (ix := 0) rfl (z := (0)) rfl ?_
      refine k_iconst C X d_method_6_code_39 rfl (v := 2) rfl ?_
      refine k_icmp_le C X d_method_6_code_40 rfl (tpc := 50) rfl (fun _ => ?_) (fun hc => (absurd hc (by decide) : False).elim)
      refine k_aloadN C X d_method_6_code_50 rfl rfl rfl ?_
      refine k_arraylength C X d_method_6_code_51 rfl (ix := 0) rfl (z := (0)) rfl ?_
      refine k_iconst C X d_method_6_code_52 rfl (v := 3) rfl ?_
      refine k_icmp_le C X d_method_6_code_53 rfl (tpc := 63) rfl (fun _ => ?_) (fun hc => (absurd hc (by decide) : False).elim)
      refine k_aloadN C X d_method_6_code_63 rfl rfl rfl ?_
      refine k_arraylength C X d_method_6_code_64 rfl (ix := 0) rfl (z := (0)) rfl ?_
      refine k_iconst C X d_method_6_code_65 rfl (v := 4) rfl ?_
      refine k_icmp_le C X d_method_6_code_66 rfl (tpc := 80) rfl (fun _ => ?_) (fun hc => (absurd hc (by decide) : False).elim)
      refine k_iconst C X d_method_6_code_80 rfl (v := 0) rfl ?_
      exact k_ireturn C X d_method_6_code_81 (by simp) rfl ⟨by rw [hq, own_has_x hx own_nm0], by rw [hq]; rfl⟩ (by decide) (by decide)
    · skip
      refine k_iconst C X d_method_6_code_6 rfl (v := 0) rfl ?_
      exact k_ireturn C X d_method_6_code_7 (by simp) rfl ⟨by rw [hq, own_has_n (List.getElem?_eq_none_iff.mpr (Nat.not_lt.mp fun h => h3 ((own_ilt hi h0 hla).mpr h)))], by rw [hq]; rfl⟩ (by decide) (by decide)
  · replace X : own_S p l e rm_own_chas s m #[(.ref b), (.ref a), (.int i)] below meth c Z T ((b, own_ar Z .int [(.int b0)]) :: (a, own_ar Z .int (la.map Value.int)) :: L) 0 0 := by rw [hq] at X; exact X
    refine k_iloadN C X d_method_6_code_0 rfl rfl ?_
    refine k_aloadN C X d_method_6_code_1 rfl rfl rfl ?_
    refine k_arraylength C X d_method_6_code_2 rfl (ix := 1) rfl (z := la.length.toInt32) (by rw [List.length_map]) ?_
    refine k_icmp_lt C X d_method_6_code_3 rfl (tpc := 8) rfl (fun h3 => ?_) (fun h3 => ?_)
    · skip
      obtain ⟨x, hx⟩ : ∃ x, la[ii]? = some x := ⟨_, List.getElem?_eq_getElem ((own_ilt hi h0 hla).mp h3)⟩
      refine k_aloadN C X d_method_6_code_8 rfl rfl rfl ?_
      refine k_iloadN C X d_method_6_code_9 rfl rfl ?_
      refine k_iaload C X d_method_6_code_10 rfl (ix := 1) (i := ii) rfl h0 hi (by rw [List.getElem?_map, hx]; rfl) ?_
      refine k_istoreN C X d_method_6_code_11 rfl (l' := #[.val (.ref b), .val (.ref a), .val (.int i), .val (.int x)]) rfl ?_
      refine k_aloadN C X d_method_6_code_12 rfl rfl rfl ?_
      refine k_arraylength C X d_method_6_code_13 rfl (ix := 0) rfl (z := (1)) rfl ?_
      refine k_if_le C X d_method_6_code_14 rfl (tpc := 24) rfl (fun hc => (absurd hc (by decide) : False).elim) (fun _ => ?_)
      refine k_aloadN C X d_method_6_code_17 rfl rfl rfl ?_
      refine k_iconst C X d_method_6_code_18 rfl (v := 0) rfl ?_
      refine k_iaload C X d_method_6_code_19 rfl (ix := 0) (i := 0) rfl (by decide) (by decide) rfl ?_
      refine k_iloadN C X d_method_6_code_20 rfl rfl ?_
      refine k_icmp_eq C X d_method_6_code_21 rfl (tpc := 76) rfl (fun h21 => ?_) (fun h21 => ?_)
      · skip
        refine k_iconst C X d_method_6_code_76 rfl (v := 1) rfl ?_
        refine k_goto C X d_method_6_code_77 (tpc := 81) rfl ?_
        exact k_ireturn C X d_method_6_code_81 (by simp) rfl ⟨by rw [hq, own_has_y hx (own_mh h21)], by rw [hq]; rfl⟩ (by decide) (by decide)
      · skip
        refine k_aloadN C X d_method_6_code_24 rfl rfl rfl ?_
        refine k_arraylength C X d_method_6_code_25 rfl (ix := 0) rfl (z := (1)) rfl ?_
        refine k_iconst C X d_method_6_code_26 rfl (v := 1) rfl ?_
        refine k_icmp_le C X d_method_6_code_27 rfl (tpc := 37) rfl (fun _ => ?_) (fun hc => (absurd hc (by decide) : False).elim)
        refine k_aloadN C X d_method_6_code_37 rfl rfl rfl ?_
        refine k_arraylength C X d_method_6_code_38 rfl (ix := 0) rfl (z := (1)) rfl ?_
        refine k_iconst C X d_method_6_code_39 rfl (v := 2) rfl ?_
        refine k_icmp_le C X d_method_6_code_40 rfl (tpc := 50) rfl (fun _ => ?_) (fun hc => (absurd hc (by decide) : False).elim)
        refine k_aloadN C X d_method_6_code_50 rfl rfl rfl ?_
        refine k_arraylength C X d_method_6_code_51 rfl (ix := 0) rfl (z := (1)) rfl ?_
        refine k_iconst C X d_method_6_code_52 rfl (v := 3) rfl ?_
        refine k_icmp_le C X d_method_6_code_53 rfl (tpc := 63) rfl (fun _ => ?_) (fun hc => (absurd hc (by decide) : False).elim)
        refine k_aloadN C X d_method_6_code_63 rfl rfl rfl ?_
        refine k_arraylength C X d_method_6_code_64 rfl (ix := 0) rfl (z := (1)) rfl ?_
        refine k_iconst C X d_method_6_code_65 rfl (v := 4) rfl ?_
        refine k_icmp_le C X d_method_6_code_66 rfl (tpc := 80) rfl (fun _ => ?_) (fun hc => (absurd hc (by decide) : False).elim)
        refine k_iconst C X d_method_6_code_80 rfl (v := 0) rfl ?_
        exact k_ireturn C X d_method_6_code_81 (by simp) rfl ⟨by rw [hq, own_has_x hx (own_nm h21 own_nm0)], by rw [hq]; rfl⟩ (by decide) (by decide)
    · skip
      refine k_iconst C X d_method_6_code_6 rfl (v := 0) rfl ?_
      exact k_ireturn C X d_method_6_code_7 (by simp) rfl ⟨by rw [hq, own_has_n (List.getElem?_eq_none_iff.mpr (Nat.not_lt.mp fun h => h3 ((own_ilt hi h0 hla).mpr h)))], by rw [hq]; rfl⟩ (by decide) (by decide)
  · replace X : own_S p l e rm_own_chas s m #[(.ref b), (.ref a), (.int i)] below meth c Z T ((b, own_ar Z .int [(.int b0), (.int b1)]) :: (a, own_ar Z .int (la.map Value.int)) :: L) 0 0 := by rw [hq] at X; exact X
    refine k_iloadN C X d_method_6_code_0 rfl rfl ?_
    refine k_aloadN C X d_method_6_code_1 rfl rfl rfl ?_
    refine k_arraylength C X d_method_6_code_2 rfl (ix := 1) rfl (z := la.length.toInt32) (by rw [List.length_map]) ?_
    refine k_icmp_lt C X d_method_6_code_3 rfl (tpc := 8) rfl (fun h3 => ?_) (fun h3 => ?_)
    · skip
      obtain ⟨x, hx⟩ : ∃ x, la[ii]? = some x := ⟨_, List.getElem?_eq_getElem ((own_ilt hi h0 hla).mp h3)⟩
      refine k_aloadN C X d_method_6_code_8 rfl rfl rfl ?_
      refine k_iloadN C X d_method_6_code_9 rfl rfl ?_
      refine k_iaload C X d_method_6_code_10 rfl (ix := 1) (i := ii) rfl h0 hi (by rw [List.getElem?_map, hx]; rfl) ?_
      refine k_istoreN C X d_method_6_code_11 rfl (l' := #[.val (.ref b), .val (.ref a), .val (.int i), .val (.int x)]) rfl ?_
      refine k_aloadN C X d_method_6_code_12 rfl rfl rfl ?_
      refine k_arraylength C X d_method_6_code_13 rfl (ix := 0) rfl (z := (2)) rfl ?_
      refine k_if_le C X d_method_6_code_14 rfl (tpc := 24) rfl (fun hc => (absurd hc (by decide) : False).elim) (fun _ => ?_)
      refine k_aloadN C X d_method_6_code_17 rfl rfl rfl ?_
      refine k_iconst C X d_method_6_code_18 rfl (v := 0) rfl ?_
      refine k_iaload C X d_method_6_code_19 rfl (ix := 0) (i := 0) rfl (by decide) (by decide) rfl ?_
      refine k_iloadN C X d_method_6_code_20 rfl rfl ?_
      refine k_icmp_eq C X d_method_6_code_21 rfl (tpc := 76) rfl (fun h21 => ?_) (fun h21 => ?_)
      · skip
        refine k_iconst C X d_method_6_code_76 rfl (v := 1) rfl ?_
        refine k_goto C X d_method_6_code_77 (tpc := 81) rfl ?_
        exact k_ireturn C X d_method_6_code_81 (by simp) rfl ⟨by rw [hq, own_has_y hx (own_mh h21)], by rw [hq]; rfl⟩ (by decide) (by decide)
      · skip
        refine k_aloadN C X d_method_6_code_24 rfl rfl rfl ?_
        refine k_arraylength C X d_method_6_code_25 rfl (ix := 0) rfl (z := (2)) rfl ?_
        refine k_iconst C X d_method_6_code_26 rfl (v := 1) rfl ?_
        refine k_icmp_le C X d_method_6_code_27 rfl (tpc := 37) rfl (fun hc => (absurd hc (by decide) : False).elim) (fun _ => ?_)
        refine k_aloadN C X d_method_6_code_30 rfl rfl rfl ?_
        refine k_iconst C X d_method_6_code_31 rfl (v := 1) rfl ?_
        refine k_iaload C X d_method_6_code_32 rfl (ix := 0) (i := 1) rfl (by decide) (by decide) rfl ?_
        refine k_iloadN C X d_method_6_code_33 rfl rfl ?_
        refine k_icmp_eq C X d_method_6_code_34 rfl (tpc := 76) rfl (fun h34 => ?_) (fun h34 => ?_)
        · skip
          refine k_iconst C X d_method_6_code_76 rfl (v := 1) rfl ?_
          refine k_goto C X d_method_6_code_77 (tpc := 81) rfl ?_
          exact k_ireturn C X d_method_6_code_81 (by simp) rfl ⟨by rw [hq, own_has_y hx (own_mt (own_mh h34))], by rw [hq]; rfl⟩ (by decide) (by decide)
        · skip
          refine k_aloadN C X d_method_6_code_37 rfl rfl rfl ?_
          refine k_arraylength C X d_method_6_code_38 rfl (ix := 0) rfl (z := (2)) rfl ?_
          refine k_iconst C X d_method_6_code_39 rfl (v := 2) rfl ?_
          refine k_icmp_le C X d_method_6_code_40 rfl (tpc := 50) rfl (fun _ => ?_) (fun hc => (absurd hc (by decide) : False).elim)
          refine k_aloadN C X d_method_6_code_50 rfl rfl rfl ?_
          refine k_arraylength C X d_method_6_code_51 rfl (ix := 0) rfl (z := (2)) rfl ?_
          refine k_iconst C X d_method_6_code_52 rfl (v := 3) rfl ?_
          refine k_icmp_le C X d_method_6_code_53 rfl (tpc := 63) rfl (fun _ => ?_) (fun hc => (absurd hc (by decide) : False).elim)
          refine k_aloadN C X d_method_6_code_63 rfl rfl rfl ?_
          refine k_arraylength C X d_method_6_code_64 rfl (ix := 0) rfl (z := (2)) rfl ?_
          refine k_iconst C X d_method_6_code_65 rfl (v := 4) rfl ?_
          refine k_icmp_le C X d_method_6_code_66 rfl (tpc := 80) rfl (fun _ => ?_) (fun hc => (absurd hc (by decide) : False).elim)
          refine k_iconst C X d_method_6_code_80 rfl (v := 0) rfl ?_
          exact k_ireturn C X d_method_6_code_81 (by simp) rfl ⟨by rw [hq, own_has_x hx (own_nm h21 (own_nm h34 own_nm0))], by rw [hq]; rfl⟩ (by decide) (by decide)
    · skip
      refine k_iconst C X d_method_6_code_6 rfl (v := 0) rfl ?_
      exact k_ireturn C X d_method_6_code_7 (by simp) rfl ⟨by rw [hq, own_has_n (List.getElem?_eq_none_iff.mpr (Nat.not_lt.mp fun h => h3 ((own_ilt hi h0 hla).mpr h)))], by rw [hq]; rfl⟩ (by decide) (by decide)
  · replace X : own_S p l e rm_own_chas s m #[(.ref b), (.ref a), (.int i)] below meth c Z T ((b, own_ar Z .int [(.int b0), (.int b1), (.int b2)]) :: (a, own_ar Z .int (la.map Value.int)) :: L) 0 0 := by rw [hq] at X; exact X
    refine k_iloadN C X d_method_6_code_0 rfl rfl ?_
    refine k_aloadN C X d_method_6_code_1 rfl rfl rfl ?_
    refine k_arraylength C X d_method_6_code_2 rfl (ix := 1) rfl (z := la.length.toInt32) (by rw [List.length_map]) ?_
    refine k_icmp_lt C X d_method_6_code_3 rfl (tpc := 8) rfl (fun h3 => ?_) (fun h3 => ?_)
    · skip
      obtain ⟨x, hx⟩ : ∃ x, la[ii]? = some x := ⟨_, List.getElem?_eq_getElem ((own_ilt hi h0 hla).mp h3)⟩
      refine k_aloadN C X d_method_6_code_8 rfl rfl rfl ?_
      refine k_iloadN C X d_method_6_code_9 rfl rfl ?_
      refine k_iaload C X d_method_6_code_10 rfl (ix := 1) (i := ii) rfl h0 hi (by rw [List.getElem?_map, hx]; rfl) ?_
      refine k_istoreN C X d_method_6_code_11 rfl (l' := #[.val (.ref b), .val (.ref a), .val (.int i), .val (.int x)]) rfl ?_
      refine k_aloadN C X d_method_6_code_12 rfl rfl rfl ?_
      refine k_arraylength C X d_method_6_code_13 rfl (ix := 0) rfl (z := (3)) rfl ?_
      refine k_if_le C X d_method_6_code_14 rfl (tpc := 24) rfl (fun hc => (absurd hc (by decide) : False).elim) (fun _ => ?_)
      refine k_aloadN C X d_method_6_code_17 rfl rfl rfl ?_
      refine k_iconst C X d_method_6_code_18 rfl (v := 0) rfl ?_
      refine k_iaload C X d_method_6_code_19 rfl (ix := 0) (i := 0) rfl (by decide) (by decide) rfl ?_
      refine k_iloadN C X d_method_6_code_20 rfl rfl ?_
      refine k_icmp_eq C X d_method_6_code_21 rfl (tpc := 76) rfl (fun h21 => ?_) (fun h21 => ?_)
      · skip
        refine k_iconst C X d_method_6_code_76 rfl (v := 1) rfl ?_
        refine k_goto C X d_method_6_code_77 (tpc := 81) rfl ?_
        exact k_ireturn C X d_method_6_code_81 (by simp) rfl ⟨by rw [hq, own_has_y hx (own_mh h21)], by rw [hq]; rfl⟩ (by decide) (by decide)
      · skip
        refine k_aloadN C X d_method_6_code_24 rfl rfl rfl ?_
        refine k_arraylength C X d_method_6_code_25 rfl (ix := 0) rfl (z := (3)) rfl ?_
        refine k_iconst C X d_method_6_code_26 rfl (v := 1) rfl ?_
        refine k_icmp_le C X d_method_6_code_27 rfl (tpc := 37) rfl (fun hc => (absurd hc (by decide) : False).elim) (fun _ => ?_)
        refine k_aloadN C X d_method_6_code_30 rfl rfl rfl ?_
        refine k_iconst C X d_method_6_code_31 rfl (v := 1) rfl ?_
        refine k_iaload C X d_method_6_code_32 rfl (ix := 0) (i := 1) rfl (by decide) (by decide) rfl ?_
        refine k_iloadN C X d_method_6_code_33 rfl rfl ?_
        refine k_icmp_eq C X d_method_6_code_34 rfl (tpc := 76) rfl (fun h34 => ?_) (fun h34 => ?_)
        · skip
          refine k_iconst C X d_method_6_code_76 rfl (v := 1) rfl ?_
          refine k_goto C X d_method_6_code_77 (tpc := 81) rfl ?_
          exact k_ireturn C X d_method_6_code_81 (by simp) rfl ⟨by rw [hq, own_has_y hx (own_mt (own_mh h34))], by rw [hq]; rfl⟩ (by decide) (by decide)
        · skip
          refine k_aloadN C X d_method_6_code_37 rfl rfl rfl ?_
          refine k_arraylength C X d_method_6_code_38 rfl (ix := 0) rfl (z := (3)) rfl ?_
          refine k_iconst C X d_method_6_code_39 rfl (v := 2) rfl ?_
          refine k_icmp_le C X d_method_6_code_40 rfl (tpc := 50) rfl (fun hc => (absurd hc (by decide) : False).elim) (fun _ => ?_)
          refine k_aloadN C X d_method_6_code_43 rfl rfl rfl ?_
          refine k_iconst C X d_method_6_code_44 rfl (v := 2) rfl ?_
          refine k_iaload C X d_method_6_code_45 rfl (ix := 0) (i := 2) rfl (by decide) (by decide) rfl ?_
          refine k_iloadN C X d_method_6_code_46 rfl rfl ?_
          refine k_icmp_eq C X d_method_6_code_47 rfl (tpc := 76) rfl (fun h47 => ?_) (fun h47 => ?_)
          · skip
            refine k_iconst C X d_method_6_code_76 rfl (v := 1) rfl ?_
            refine k_goto C X d_method_6_code_77 (tpc := 81) rfl ?_
            exact k_ireturn C X d_method_6_code_81 (by simp) rfl ⟨by rw [hq, own_has_y hx (own_mt (own_mt (own_mh h47)))], by rw [hq]; rfl⟩ (by decide) (by decide)
          · skip
            refine k_aloadN C X d_method_6_code_50 rfl rfl rfl ?_
            refine k_arraylength C X d_method_6_code_51 rfl (ix := 0) rfl (z := (3)) rfl ?_
            refine k_iconst C X d_method_6_code_52 rfl (v := 3) rfl ?_
            refine k_icmp_le C X d_method_6_code_53 rfl (tpc := 63) rfl (fun _ => ?_) (fun hc => (absurd hc (by decide) : False).elim)
            refine k_aloadN C X d_method_6_code_63 rfl rfl rfl ?_
            refine k_arraylength C X d_method_6_code_64 rfl (ix := 0) rfl (z := (3)) rfl ?_
            refine k_iconst C X d_method_6_code_65 rfl (v := 4) rfl ?_
            refine k_icmp_le C X d_method_6_code_66 rfl (tpc := 80) rfl (fun _ => ?_) (fun hc => (absurd hc (by decide) : False).elim)
            refine k_iconst C X d_method_6_code_80 rfl (v := 0) rfl ?_
            exact k_ireturn C X d_method_6_code_81 (by simp) rfl ⟨by rw [hq, own_has_x hx (own_nm h21 (own_nm h34 (own_nm h47 own_nm0)))], by rw [hq]; rfl⟩ (by decide) (by decide)
    · skip
      refine k_iconst C X d_method_6_code_6 rfl (v := 0) rfl ?_
      exact k_ireturn C X d_method_6_code_7 (by simp) rfl ⟨by rw [hq, own_has_n (List.getElem?_eq_none_iff.mpr (Nat.not_lt.mp fun h => h3 ((own_ilt hi h0 hla).mpr h)))], by rw [hq]; rfl⟩ (by decide) (by decide)
  · replace X : own_S p l e rm_own_chas s m #[(.ref b), (.ref a), (.int i)] below meth c Z T ((b, own_ar Z .int [(.int b0), (.int b1), (.int b2), (.int b3)]) :: (a, own_ar Z .int (la.map Value.int)) :: L) 0 0 := by rw [hq] at X; exact X
    refine k_iloadN C X d_method_6_code_0 rfl rfl ?_
    refine k_aloadN C X d_method_6_code_1 rfl rfl rfl ?_
    refine k_arraylength C X d_method_6_code_2 rfl (ix := 1) rfl (z := la.length.toInt32) (by rw [List.length_map]) ?_
    refine k_icmp_lt C X d_method_6_code_3 rfl (tpc := 8) rfl (fun h3 => ?_) (fun h3 => ?_)
    · skip
      obtain ⟨x, hx⟩ : ∃ x, la[ii]? = some x := ⟨_, List.getElem?_eq_getElem ((own_ilt hi h0 hla).mp h3)⟩
      refine k_aloadN C X d_method_6_code_8 rfl rfl rfl ?_
      refine k_iloadN C X d_method_6_code_9 rfl rfl ?_
      refine k_iaload C X d_method_6_code_10 rfl (ix := 1) (i := ii) rfl h0 hi (by rw [List.getElem?_map, hx]; rfl) ?_
      refine k_istoreN C X d_method_6_code_11 rfl (l' := #[.val (.ref b), .val (.ref a), .val (.int i), .val (.int x)]) rfl ?_
      refine k_aloadN C X d_method_6_code_12 rfl rfl rfl ?_
      refine k_arraylength C X d_method_6_code_13 rfl (ix := 0) rfl (z := (4)) rfl ?_
      refine k_if_le C X d_method_6_code_14 rfl (tpc := 24) rfl (fun hc => (absurd hc (by decide) : False).elim) (fun _ => ?_)
      refine k_aloadN C X d_method_6_code_17 rfl rfl rfl ?_
      refine k_iconst C X d_method_6_code_18 rfl (v := 0) rfl ?_
      refine k_iaload C X d_method_6_code_19 rfl (ix := 0) (i := 0) rfl (by decide) (by decide) rfl ?_
      refine k_iloadN C X d_method_6_code_20 rfl rfl ?_
      refine k_icmp_eq C X d_method_6_code_21 rfl (tpc := 76) rfl (fun h21 => ?_) (fun h21 => ?_)
      · skip
        refine k_iconst C X d_method_6_code_76 rfl (v := 1) rfl ?_
        refine k_goto C X d_method_6_code_77 (tpc := 81) rfl ?_
        exact k_ireturn C X d_method_6_code_81 (by simp) rfl ⟨by rw [hq, own_has_y hx (own_mh h21)], by rw [hq]; rfl⟩ (by decide) (by decide)
      · skip
        refine k_aloadN C X d_method_6_code_24 rfl rfl rfl ?_
        refine k_arraylength C X d_method_6_code_25 rfl (ix := 0) rfl (z := (4)) rfl ?_
        refine k_iconst C X d_method_6_code_26 rfl (v := 1) rfl ?_
        refine k_icmp_le C X d_method_6_code_27 rfl (tpc := 37) rfl (fun hc => (absurd hc (by decide) : False).elim) (fun _ => ?_)
        refine k_aloadN C X d_method_6_code_30 rfl rfl rfl ?_
        refine k_iconst C X d_method_6_code_31 rfl (v := 1) rfl ?_
        refine k_iaload C X d_method_6_code_32 rfl (ix := 0) (i := 1) rfl (by decide) (by decide) rfl ?_
        refine k_iloadN C X d_method_6_code_33 rfl rfl ?_
        refine k_icmp_eq C X d_method_6_code_34 rfl (tpc := 76) rfl (fun h34 => ?_) (fun h34 => ?_)
        · skip
          refine k_iconst C X d_method_6_code_76 rfl (v := 1) rfl ?_
          refine k_goto C X d_method_6_code_77 (tpc := 81) rfl ?_
          exact k_ireturn C X d_method_6_code_81 (by simp) rfl ⟨by rw [hq, own_has_y hx (own_mt (own_mh h34))], by rw [hq]; rfl⟩ (by decide) (by decide)
        · skip
          refine k_aloadN C X d_method_6_code_37 rfl rfl rfl ?_
          refine k_arraylength C X d_method_6_code_38 rfl (ix := 0) rfl (z := (4)) rfl ?_
          refine k_iconst C X d_method_6_code_39 rfl (v := 2) rfl ?_
          refine k_icmp_le C X d_method_6_code_40 rfl (tpc := 50) rfl (fun hc => (absurd hc (by decide) : False).elim) (fun _ => ?_)
          refine k_aloadN C X d_method_6_code_43 rfl rfl rfl ?_
          refine k_iconst C X d_method_6_code_44 rfl (v := 2) rfl ?_
          refine k_iaload C X d_method_6_code_45 rfl (ix := 0) (i := 2) rfl (by decide) (by decide) rfl ?_
          refine k_iloadN C X d_method_6_code_46 rfl rfl ?_
          refine k_icmp_eq C X d_method_6_code_47 rfl (tpc := 76) rfl (fun h47 => ?_) (fun h47 => ?_)
          · skip
            refine k_iconst C X d_method_6_code_76 rfl (v := 1) rfl ?_
            refine k_goto C X d_method_6_code_77 (tpc := 81) rfl ?_
            exact k_ireturn C X d_method_6_code_81 (by simp) rfl ⟨by rw [hq, own_has_y hx (own_mt (own_mt (own_mh h47)))], by rw [hq]; rfl⟩ (by decide) (by decide)
          · skip
            refine k_aloadN C X d_method_6_code_50 rfl rfl rfl ?_
            refine k_arraylength C X d_method_6_code_51 rfl (ix := 0) rfl (z := (4)) rfl ?_
            refine k_iconst C X d_method_6_code_52 rfl (v := 3) rfl ?_
            refine k_icmp_le C X d_method_6_code_53 rfl (tpc := 63) rfl (fun hc => (absurd hc (by decide) : False).elim) (fun _ => ?_)
            refine k_aloadN C X d_method_6_code_56 rfl rfl rfl ?_
            refine k_iconst C X d_method_6_code_57 rfl (v := 3) rfl ?_
            refine k_iaload C X d_method_6_code_58 rfl (ix := 0) (i := 3) rfl (by decide) (by decide) rfl ?_
            refine k_iloadN C X d_method_6_code_59 rfl rfl ?_
            refine k_icmp_eq C X d_method_6_code_60 rfl (tpc := 76) rfl (fun h60 => ?_) (fun h60 => ?_)
            · skip
              refine k_iconst C X d_method_6_code_76 rfl (v := 1) rfl ?_
              refine k_goto C X d_method_6_code_77 (tpc := 81) rfl ?_
              exact k_ireturn C X d_method_6_code_81 (by simp) rfl ⟨by rw [hq, own_has_y hx (own_mt (own_mt (own_mt (own_mh h60))))], by rw [hq]; rfl⟩ (by decide) (by decide)
            · skip
              refine k_aloadN C X d_method_6_code_63 rfl rfl rfl ?_
              refine k_arraylength C X d_method_6_code_64 rfl (ix := 0) rfl (z := (4)) rfl ?_
              refine k_iconst C X d_method_6_code_65 rfl (v := 4) rfl ?_
              refine k_icmp_le C X d_method_6_code_66 rfl (tpc := 80) rfl (fun _ => ?_) (fun hc => (absurd hc (by decide) : False).elim)
              refine k_iconst C X d_method_6_code_80 rfl (v := 0) rfl ?_
              exact k_ireturn C X d_method_6_code_81 (by simp) rfl ⟨by rw [hq, own_has_x hx (own_nm h21 (own_nm h34 (own_nm h47 (own_nm h60 own_nm0))))], by rw [hq]; rfl⟩ (by decide) (by decide)
    · skip
      refine k_iconst C X d_method_6_code_6 rfl (v := 0) rfl ?_
      exact k_ireturn C X d_method_6_code_7 (by simp) rfl ⟨by rw [hq, own_has_n (List.getElem?_eq_none_iff.mpr (Nat.not_lt.mp fun h => h3 ((own_ilt hi h0 hla).mpr h)))], by rw [hq]; rfl⟩ (by decide) (by decide)
  · replace X : own_S p l e rm_own_chas s m #[(.ref b), (.ref a), (.int i)] below meth c Z T ((b, own_ar Z .int [(.int b0), (.int b1), (.int b2), (.int b3), (.int b4)]) :: (a, own_ar Z .int (la.map Value.int)) :: L) 0 0 := by rw [hq] at X; exact X
    refine k_iloadN C X d_method_6_code_0 rfl rfl ?_
    refine k_aloadN C X d_method_6_code_1 rfl rfl rfl ?_
    refine k_arraylength C X d_method_6_code_2 rfl (ix := 1) rfl (z := la.length.toInt32) (by rw [List.length_map]) ?_
    refine k_icmp_lt C X d_method_6_code_3 rfl (tpc := 8) rfl (fun h3 => ?_) (fun h3 => ?_)
    · skip
      obtain ⟨x, hx⟩ : ∃ x, la[ii]? = some x := ⟨_, List.getElem?_eq_getElem ((own_ilt hi h0 hla).mp h3)⟩
      refine k_aloadN C X d_method_6_code_8 rfl rfl rfl ?_
      refine k_iloadN C X d_method_6_code_9 rfl rfl ?_
      refine k_iaload C X d_method_6_code_10 rfl (ix := 1) (i := ii) rfl h0 hi (by rw [List.getElem?_map, hx]; rfl) ?_
      refine k_istoreN C X d_method_6_code_11 rfl (l' := #[.val (.ref b), .val (.ref a), .val (.int i), .val (.int x)]) rfl ?_
      refine k_aloadN C X d_method_6_code_12 rfl rfl rfl ?_
      refine k_arraylength C X d_method_6_code_13 rfl (ix := 0) rfl (z := (5)) rfl ?_
      refine k_if_le C X d_method_6_code_14 rfl (tpc := 24) rfl (fun hc => (absurd hc (by decide) : False).elim) (fun _ => ?_)
      refine k_aloadN C X d_method_6_code_17 rfl rfl rfl ?_
      refine k_iconst C X d_method_6_code_18 rfl (v := 0) rfl ?_
      refine k_iaload C X d_method_6_code_19 rfl (ix := 0) (i := 0) rfl (by decide) (by decide) rfl ?_
      refine k_iloadN C X d_method_6_code_20 rfl rfl ?_
      refine k_icmp_eq C X d_method_6_code_21 rfl (tpc := 76) rfl (fun h21 => ?_) (fun h21 => ?_)
      · skip
        refine k_iconst C X d_method_6_code_76 rfl (v := 1) rfl ?_
        refine k_goto C X d_method_6_code_77 (tpc := 81) rfl ?_
        exact k_ireturn C X d_method_6_code_81 (by simp) rfl ⟨by rw [hq, own_has_y hx (own_mh h21)], by rw [hq]; rfl⟩ (by decide) (by decide)
      · skip
        refine k_aloadN C X d_method_6_code_24 rfl rfl rfl ?_
        refine k_arraylength C X d_method_6_code_25 rfl (ix := 0) rfl (z := (5)) rfl ?_
        refine k_iconst C X d_method_6_code_26 rfl (v := 1) rfl ?_
        refine k_icmp_le C X d_method_6_code_27 rfl (tpc := 37) rfl (fun hc => (absurd hc (by decide) : False).elim) (fun _ => ?_)
        refine k_aloadN C X d_method_6_code_30 rfl rfl rfl ?_
        refine k_iconst C X d_method_6_code_31 rfl (v := 1) rfl ?_
        refine k_iaload C X d_method_6_code_32 rfl (ix := 0) (i := 1) rfl (by decide) (by decide) rfl ?_
        refine k_iloadN C X d_method_6_code_33 rfl rfl ?_
        refine k_icmp_eq C X d_method_6_code_34 rfl (tpc := 76) rfl (fun h34 => ?_) (fun h34 => ?_)
        · skip
          refine k_iconst C X d_method_6_code_76 rfl (v := 1) rfl ?_
          refine k_goto C X d_method_6_code_77 (tpc := 81) rfl ?_
          exact k_ireturn C X d_method_6_code_81 (by simp) rfl ⟨by rw [hq, own_has_y hx (own_mt (own_mh h34))], by rw [hq]; rfl⟩ (by decide) (by decide)
        · skip
          refine k_aloadN C X d_method_6_code_37 rfl rfl rfl ?_
          refine k_arraylength C X d_method_6_code_38 rfl (ix := 0) rfl (z := (5)) rfl ?_
          refine k_iconst C X d_method_6_code_39 rfl (v := 2) rfl ?_
          refine k_icmp_le C X d_method_6_code_40 rfl (tpc := 50) rfl (fun hc => (absurd hc (by decide) : False).elim) (fun _ => ?_)
          refine k_aloadN C X d_method_6_code_43 rfl rfl rfl ?_
          refine k_iconst C X d_method_6_code_44 rfl (v := 2) rfl ?_
          refine k_iaload C X d_method_6_code_45 rfl (ix := 0) (i := 2) rfl (by decide) (by decide) rfl ?_
          refine k_iloadN C X d_method_6_code_46 rfl rfl ?_
          refine k_icmp_eq C X d_method_6_code_47 rfl (tpc := 76) rfl (fun h47 => ?_) (fun h47 => ?_)
          · skip
            refine k_iconst C X d_method_6_code_76 rfl (v := 1) rfl ?_
            refine k_goto C X d_method_6_code_77 (tpc := 81) rfl ?_
            exact k_ireturn C X d_method_6_code_81 (by simp) rfl ⟨by rw [hq, own_has_y hx (own_mt (own_mt (own_mh h47)))], by rw [hq]; rfl⟩ (by decide) (by decide)
          · skip
            refine k_aloadN C X d_method_6_code_50 rfl rfl rfl ?_
            refine k_arraylength C X d_method_6_code_51 rfl (ix := 0) rfl (z := (5)) rfl ?_
            refine k_iconst C X d_method_6_code_52 rfl (v := 3) rfl ?_
            refine k_icmp_le C X d_method_6_code_53 rfl (tpc := 63) rfl (fun hc => (absurd hc (by decide) : False).elim) (fun _ => ?_)
            refine k_aloadN C X d_method_6_code_56 rfl rfl rfl ?_
            refine k_iconst C X d_method_6_code_57 rfl (v := 3) rfl ?_
            refine k_iaload C X d_method_6_code_58 rfl (ix := 0) (i := 3) rfl (by decide) (by decide) rfl ?_
            refine k_iloadN C X d_method_6_code_59 rfl rfl ?_
            refine k_icmp_eq C X d_method_6_code_60 rfl (tpc := 76) rfl (fun h60 => ?_) (fun h60 => ?_)
            · skip
              refine k_iconst C X d_method_6_code_76 rfl (v := 1) rfl ?_
              refine k_goto C X d_method_6_code_77 (tpc := 81) rfl ?_
              exact k_ireturn C X d_method_6_code_81 (by simp) rfl ⟨by rw [hq, own_has_y hx (own_mt (own_mt (own_mt (own_mh h60))))], by rw [hq]; rfl⟩ (by decide) (by decide)
            · skip
              refine k_aloadN C X d_method_6_code_63 rfl rfl rfl ?_
              refine k_arraylength C X d_method_6_code_64 rfl (ix := 0) rfl (z := (5)) rfl ?_
              refine k_iconst C X d_method_6_code_65 rfl (v := 4) rfl ?_
              refine k_icmp_le C X d_method_6_code_66 rfl (tpc := 80) rfl (fun hc => (absurd hc (by decide) : False).elim) (fun _ => ?_)
              refine k_aloadN C X d_method_6_code_69 rfl rfl rfl ?_
              refine k_iconst C X d_method_6_code_70 rfl (v := 4) rfl ?_
              refine k_iaload C X d_method_6_code_71 rfl (ix := 0) (i := 4) rfl (by decide) (by decide) rfl ?_
              refine k_iloadN C X d_method_6_code_72 rfl rfl ?_
              refine k_icmp_ne C X d_method_6_code_73 rfl (tpc := 80) rfl (fun h73 => ?_) (fun h73 => ?_)
              · skip
                refine k_iconst C X d_method_6_code_80 rfl (v := 0) rfl ?_
                exact k_ireturn C X d_method_6_code_81 (by simp) rfl ⟨by rw [hq, own_has_x hx (own_nm h21 (own_nm h34 (own_nm h47 (own_nm h60 (own_nm h73 own_nm0)))))], by rw [hq]; rfl⟩ (by decide) (by decide)
              · skip
                refine k_iconst C X d_method_6_code_76 rfl (v := 1) rfl ?_
                refine k_goto C X d_method_6_code_77 (tpc := 81) rfl ?_
                exact k_ireturn C X d_method_6_code_81 (by simp) rfl ⟨by rw [hq, own_has_y hx (own_mt (own_mt (own_mt (own_mt (own_mh h73)))))], by rw [hq]; rfl⟩ (by decide) (by decide)
    · skip
      refine k_iconst C X d_method_6_code_6 rfl (v := 0) rfl ?_
      exact k_ireturn C X d_method_6_code_7 (by simp) rfl ⟨by rw [hq, own_has_n (List.getElem?_eq_none_iff.mpr (Nat.not_lt.mp fun h => h3 ((own_ilt hi h0 hla).mpr h)))], by rw [hq]; rfl⟩ (by decide) (by decide)
theorem d_prog_137_method_9_code_0 : decode prog_137_method_9_code 0 = .ok (.iconst 0, 1) := by decide +kernel
theorem d_prog_137_method_9_code_1 : decode prog_137_method_9_code 1 = .ok (.istore_n 2, 1) := by decide +kernel
theorem d_prog_137_method_9_code_2 : decode prog_137_method_9_code 2 = .ok (.iconst 0, 1) := by decide +kernel
theorem d_prog_137_method_9_code_3 : decode prog_137_method_9_code 3 = .ok (.istore_n 3, 1) := by decide +kernel
theorem d_prog_137_method_9_code_4 : decode prog_137_method_9_code 4 = .ok (.iload_n 2, 1) := by decide +kernel
theorem d_prog_137_method_9_code_5 : decode prog_137_method_9_code 5 = .ok (.aload_n 0, 1) := by decide +kernel
theorem d_prog_137_method_9_code_6 : decode prog_137_method_9_code 6 = .ok (.getfield 7, 3) := by decide +kernel
theorem d_prog_137_method_9_code_9 : decode prog_137_method_9_code 9 = .ok (.arraylength, 1) := by decide +kernel
theorem d_prog_137_method_9_code_10 : decode prog_137_method_9_code 10 = .ok (.if_icmp .ge 56, 3) := by decide +kernel
theorem d_prog_137_method_9_code_66 : decode prog_137_method_9_code 66 = .ok (.iconst 0, 1) := by decide +kernel
theorem d_prog_137_method_9_code_67 : decode prog_137_method_9_code 67 = .ok (.ireturn, 1) := by decide +kernel
theorem d_prog_137_method_9_code_13 : decode prog_137_method_9_code 13 = .ok (.iload_n 3, 1) := by decide +kernel
theorem d_prog_137_method_9_code_14 : decode prog_137_method_9_code 14 = .ok (.aload_n 1, 1) := by decide +kernel
theorem d_prog_137_method_9_code_15 : decode prog_137_method_9_code 15 = .ok (.getfield 7, 3) := by decide +kernel
theorem d_prog_137_method_9_code_18 : decode prog_137_method_9_code 18 = .ok (.arraylength, 1) := by decide +kernel
theorem d_prog_137_method_9_code_19 : decode prog_137_method_9_code 19 = .ok (.if_icmp .ge 47, 3) := by decide +kernel
theorem d_prog_137_method_9_code_22 : decode prog_137_method_9_code 22 = .ok (.aload_n 0, 1) := by decide +kernel
theorem d_prog_137_method_9_code_23 : decode prog_137_method_9_code 23 = .ok (.getfield 7, 3) := by decide +kernel
theorem d_prog_137_method_9_code_26 : decode prog_137_method_9_code 26 = .ok (.iload_n 2, 1) := by decide +kernel
theorem d_prog_137_method_9_code_27 : decode prog_137_method_9_code 27 = .ok (.iaload, 1) := by decide +kernel
theorem d_prog_137_method_9_code_28 : decode prog_137_method_9_code 28 = .ok (.aload_n 1, 1) := by decide +kernel
theorem d_prog_137_method_9_code_29 : decode prog_137_method_9_code 29 = .ok (.getfield 7, 3) := by decide +kernel
theorem d_prog_137_method_9_code_32 : decode prog_137_method_9_code 32 = .ok (.iload_n 3, 1) := by decide +kernel
theorem d_prog_137_method_9_code_33 : decode prog_137_method_9_code 33 = .ok (.iaload, 1) := by decide +kernel
theorem d_prog_137_method_9_code_34 : decode prog_137_method_9_code 34 = .ok (.if_icmp .ge 9, 3) := by decide +kernel
theorem d_prog_137_method_9_code_43 : decode prog_137_method_9_code 43 = .ok (.aload_n 0, 1) := by decide +kernel
theorem d_prog_137_method_9_code_44 : decode prog_137_method_9_code 44 = .ok (.getfield 7, 3) := by decide +kernel
theorem d_prog_137_method_9_code_47 : decode prog_137_method_9_code 47 = .ok (.iload_n 2, 1) := by decide +kernel
theorem d_prog_137_method_9_code_48 : decode prog_137_method_9_code 48 = .ok (.iaload, 1) := by decide +kernel
theorem d_prog_137_method_9_code_49 : decode prog_137_method_9_code 49 = .ok (.aload_n 1, 1) := by decide +kernel
theorem d_prog_137_method_9_code_50 : decode prog_137_method_9_code 50 = .ok (.getfield 7, 3) := by decide +kernel
theorem d_prog_137_method_9_code_53 : decode prog_137_method_9_code 53 = .ok (.iload_n 3, 1) := by decide +kernel
theorem d_prog_137_method_9_code_54 : decode prog_137_method_9_code 54 = .ok (.iaload, 1) := by decide +kernel
theorem d_prog_137_method_9_code_55 : decode prog_137_method_9_code 55 = .ok (.if_icmp .le 9, 3) := by decide +kernel
theorem d_prog_137_method_9_code_64 : decode prog_137_method_9_code 64 = .ok (.iconst 1, 1) := by decide +kernel
theorem d_prog_137_method_9_code_65 : decode prog_137_method_9_code 65 = .ok (.ireturn, 1) := by decide +kernel
theorem d_prog_137_method_9_code_58 : decode prog_137_method_9_code 58 = .ok (.iinc 3 1, 3) := by decide +kernel
theorem d_prog_137_method_9_code_61 : decode prog_137_method_9_code 61 = .ok (.goto (-57), 3) := by decide +kernel
theorem d_prog_137_method_9_code_37 : decode prog_137_method_9_code 37 = .ok (.iinc 2 1, 3) := by decide +kernel
theorem d_prog_137_method_9_code_40 : decode prog_137_method_9_code 40 = .ok (.goto (-36), 3) := by decide +kernel
def rm_own_cmeet : Room := { frames := 0, cells := 0, slots := 0, locals := 0 }
set_option maxRecDepth 65536 in
set_option maxHeartbeats 40000000 in
theorem own_cmeet (l : Launch) (Z : State) (a0 : Array Value) (hw : ∀ d ∈ tables_1, d.before a0 Z = true) (a ad aq b bd bq : Addr) (xs ys : List Int32) (hlx : xs.length ≤ 5) (hly : ys.length ≤ 5) (L : List (Addr × (Cell → Prop))) :
    own_Con l Z (⟨"com/example/fuzzsub/fuzzsub/service/SparseVector", "meets", "(Lcom/example/fuzzsub/fuzzsub/service/SparseVector;)Z"⟩ : MethodName) prog_137_method_9_code 4 (some .boolean) rm_own_cmeet #[(.ref a), (.ref b)] ((a, own_ob Z "com/example/fuzzsub/fuzzsub/service/SparseVector" [("dimensions", "[I", (.ref ad)), ("values", "[D", (.ref aq))]) :: (b, own_ob Z "com/example/fuzzsub/fuzzsub/service/SparseVector" [("dimensions", "[I", (.ref bd)), ("values", "[D", (.ref bq))]) :: (ad, own_ar Z .int (xs.map Value.int)) :: (bd, own_ar Z .int (ys.map Value.int)) :: L) (fun v M => v = some (.int (own_meet (xs.length + ys.length + 1) xs ys)) ∧ M = (a, own_ob Z "com/example/fuzzsub/fuzzsub/service/SparseVector" [("dimensions", "[I", (.ref ad)), ("values", "[D", (.ref aq))]) :: (b, own_ob Z "com/example/fuzzsub/fuzzsub/service/SparseVector" [("dimensions", "[I", (.ref bd)), ("values", "[D", (.ref bq))]) :: (ad, own_ar Z .int (xs.map Value.int)) :: (bd, own_ar Z .int (ys.map Value.int)) :: L) := by
  refine own_con (ls := #[.val (.ref a), .val (.ref b), .unset, .unset]) (plainFor_of_name own_pn0) (fun m => by first | rfl | (simp [entryFrame, mkF, argsToLocals, Value.category]; done)) ?_
  intro p e s m below meth c T C X
  refine k_iconst C X d_prog_137_method_9_code_0 rfl (v := 0) rfl ?_
  refine k_istoreN C X d_prog_137_method_9_code_1 rfl (l' := #[.val (.ref a), .val (.ref b), .val (.int (0)), .unset]) rfl ?_
  refine k_iconst C X d_prog_137_method_9_code_2 rfl (v := 0) rfl ?_
  refine k_istoreN C X d_prog_137_method_9_code_3 rfl (l' := #[.val (.ref a), .val (.ref b), .val (.int (0)), .val (.int (0))]) rfl ?_
  suffices LP4 : ∀ (f4 : Nat) (T' : State) (i : Nat) (j : Nat) (hi : i ≤ xs.length) (hj : j ≤ ys.length) (hf : (xs.length - i) + (ys.length - j) < f4) (hr : own_meet (xs.length + ys.length + 1) xs ys = own_meet f4 (xs.drop i) (ys.drop j)) (X' : own_S p l e rm_own_cmeet s m #[(.ref a), (.ref b)] below meth c Z T' ((a, own_ob Z "com/example/fuzzsub/fuzzsub/service/SparseVector" [("dimensions", "[I", (.ref ad)), ("values", "[D", (.ref aq))]) :: (b, own_ob Z "com/example/fuzzsub/fuzzsub/service/SparseVector" [("dimensions", "[I", (.ref bd)), ("values", "[D", (.ref bq))]) :: (ad, own_ar Z .int (xs.map Value.int)) :: (bd, own_ar Z .int (ys.map Value.int)) :: L) 0 0), own_Go p.tables e below (own_E Z s rm_own_cmeet (fun v M => v = some (.int (own_meet (xs.length + ys.length + 1) xs ys)) ∧ M = (a, own_ob Z "com/example/fuzzsub/fuzzsub/service/SparseVector" [("dimensions", "[I", (.ref ad)), ("values", "[D", (.ref aq))]) :: (b, own_ob Z "com/example/fuzzsub/fuzzsub/service/SparseVector" [("dimensions", "[I", (.ref bd)), ("values", "[D", (.ref bq))]) :: (ad, own_ar Z .int (xs.map Value.int)) :: (bd, own_ar Z .int (ys.map Value.int)) :: L)) (T'.setTop (mkF m 4 #[.val (.ref a), .val (.ref b), .val (.int i.toInt32), .val (.int j.toInt32)] [])) by
    exact LP4 (xs.length + ys.length + 1) _ 0 0 (Nat.zero_le _) (Nat.zero_le _) (by omega) rfl (X.more (by decide) (by decide))
  intro f4
  induction f4 with
  | zero =>
    intro T i j hi hj hf hr X
    omega
  | succ f4 ih4 =>
    intro T i j hi hj hf hr X
    refine k_iloadN C X d_prog_137_method_9_code_4 rfl rfl ?_
    refine k_aloadN C X d_prog_137_method_9_code_5 rfl rfl rfl ?_
    refine k_getfield C X d_prog_137_method_9_code_6 rfl (host := "") (Or.inl (hw _ (List.mem_of_getElem? (i := 30) rfl))) (own_fL (ix := 0) (j := 0) rfl rfl) (fun T X => ?_)
    refine k_arraylength C X d_prog_137_method_9_code_9 rfl (ix := 2) rfl (z := xs.length.toInt32) (by rw [List.length_map]) ?_
    refine k_icmp_ge C X d_prog_137_method_9_code_10 rfl (tpc := 66) rfl (fun h10 => ?_) (fun h10 => ?_)
    · skip
      refine k_iconst C X d_prog_137_method_9_code_66 rfl (v := 0) rfl ?_
      exact k_ireturn C X d_prog_137_method_9_code_67 (by simp) rfl ⟨by rw [own_mend hr (Or.inl (by have := mt (own_lt32 (by omega) (by omega)).mpr h10; omega))], rfl⟩ (by decide) (by decide)
    · skip
      refine k_iloadN C X d_prog_137_method_9_code_13 rfl rfl ?_
      refine k_aloadN C X d_prog_137_method_9_code_14 rfl rfl rfl ?_
      refine k_getfield C X d_prog_137_method_9_code_15 rfl (host := "") (Or.inl (hw _ (List.mem_of_getElem? (i := 30) rfl))) (own_fL (ix := 1) (j := 0) rfl rfl) (fun T X => ?_)
      refine k_arraylength C X d_prog_137_method_9_code_18 rfl (ix := 3) rfl (z := ys.length.toInt32) (by rw [List.length_map]) ?_
      refine k_icmp_ge C X d_prog_137_method_9_code_19 rfl (tpc := 66) rfl (fun h19 => ?_) (fun h19 => ?_)
      · skip
        refine k_iconst C X d_prog_137_method_9_code_66 rfl (v := 0) rfl ?_
        exact k_ireturn C X d_prog_137_method_9_code_67 (by simp) rfl ⟨by rw [own_mend hr (Or.inr (by have := mt (own_lt32 (by omega) (by omega)).mpr h19; omega))], rfl⟩ (by decide) (by decide)
      · skip
        have hI : i < xs.length := (own_lt32 (by omega) (by omega)).mp h10
        have hJ : j < ys.length := (own_lt32 (by omega) (by omega)).mp h19
        obtain ⟨x, hx⟩ : ∃ x, xs[i]? = some x := ⟨_, List.getElem?_eq_getElem hI⟩
        obtain ⟨y, hy⟩ : ∃ y, ys[j]? = some y := ⟨_, List.getElem?_eq_getElem hJ⟩
        refine k_aloadN C X d_prog_137_method_9_code_22 rfl rfl rfl ?_
        refine k_getfield C X d_prog_137_method_9_code_23 rfl (host := "") (Or.inl (hw _ (List.mem_of_getElem? (i := 30) rfl))) (own_fL (ix := 0) (j := 0) rfl rfl) (fun T X => ?_)
        refine k_iloadN C X d_prog_137_method_9_code_26 rfl rfl ?_
        refine k_iaload C X d_prog_137_method_9_code_27 rfl (ix := 2) (i := i) rfl (own_len32 i (by omega)).2 (own_len32 i (by omega)).1 (by rw [List.getElem?_map, hx]; rfl) ?_
        refine k_aloadN C X d_prog_137_method_9_code_28 rfl rfl rfl ?_
        refine k_getfield C X d_prog_137_method_9_code_29 rfl (host := "") (Or.inl (hw _ (List.mem_of_getElem? (i := 30) rfl))) (own_fL (ix := 1) (j := 0) rfl rfl) (fun T X => ?_)
        refine k_iloadN C X d_prog_137_method_9_code_32 rfl rfl ?_
        refine k_iaload C X d_prog_137_method_9_code_33 rfl (ix := 3) (i := j) rfl (own_len32 j (by omega)).2 (own_len32 j (by omega)).1 (by rw [List.getElem?_map, hy]; rfl) ?_
        refine k_icmp_ge C X d_prog_137_method_9_code_34 rfl (tpc := 43) rfl (fun h34 => ?_) (fun h34 => ?_)
        · skip
          refine k_aloadN C X d_prog_137_method_9_code_43 rfl rfl rfl ?_
          refine k_getfield C X d_prog_137_method_9_code_44 rfl (host := "") (Or.inl (hw _ (List.mem_of_getElem? (i := 30) rfl))) (own_fL (ix := 0) (j := 0) rfl rfl) (fun T X => ?_)
          refine k_iloadN C X d_prog_137_method_9_code_47 rfl rfl ?_
          refine k_iaload C X d_prog_137_method_9_code_48 rfl (ix := 2) (i := i) rfl (own_len32 i (by omega)).2 (own_len32 i (by omega)).1 (by rw [List.getElem?_map, hx]; rfl) ?_
          refine k_aloadN C X d_prog_137_method_9_code_49 rfl rfl rfl ?_
          refine k_getfield C X d_prog_137_method_9_code_50 rfl (host := "") (Or.inl (hw _ (List.mem_of_getElem? (i := 30) rfl))) (own_fL (ix := 1) (j := 0) rfl rfl) (fun T X => ?_)
          refine k_iloadN C X d_prog_137_method_9_code_53 rfl rfl ?_
          refine k_iaload C X d_prog_137_method_9_code_54 rfl (ix := 3) (i := j) rfl (own_len32 j (by omega)).2 (own_len32 j (by omega)).1 (by rw [List.getElem?_map, hy]; rfl) ?_
          refine k_icmp_le C X d_prog_137_method_9_code_55 rfl (tpc := 64) rfl (fun h55 => ?_) (fun h55 => ?_)
          · skip
            refine k_iconst C X d_prog_137_method_9_code_64 rfl (v := 1) rfl ?_
            exact k_ireturn C X d_prog_137_method_9_code_65 (by simp) rfl ⟨by rw [own_meq hr hx hy h34 h55], rfl⟩ (by decide) (by decide)
          · skip
            refine k_iinc C X d_prog_137_method_9_code_58 rfl (v := 1) rfl rfl (l' := #[.val (.ref a), .val (.ref b), .val (.int i.toInt32), .val (.int (j.toInt32 + 1))]) rfl ?_
            refine k_goto C X d_prog_137_method_9_code_61 (tpc := 4) rfl ?_
            rw [own_succ j]
            exact ih4 _ i (j + 1) (by omega) (by omega) (by omega) (own_mgt hr hx hy h34 h55) (X.more (by decide) (by decide))
        · skip
          refine k_iinc C X d_prog_137_method_9_code_37 rfl (v := 1) rfl rfl (l' := #[.val (.ref a), .val (.ref b), .val (.int (i.toInt32 + 1)), .val (.int j.toInt32)]) rfl ?_
          refine k_goto C X d_prog_137_method_9_code_40 (tpc := 4) rfl ?_
          rw [own_succ i]
          exact ih4 _ (i + 1) j (by omega) (by omega) (by omega) (own_mlt hr hx hy h34) (X.more (by decide) (by decide))
theorem own_pd1 : parseMethodDescriptor "(II)I" = some ⟨[.int, .int], some .int⟩ := by decide +kernel
theorem own_pd2 : parseMethodDescriptor "([II)[I" = some ⟨[(.array .int), .int], some (.array .int)⟩ := by decide +kernel
theorem own_pd3 : parseMethodDescriptor "(II)[D" = some ⟨[.int, .int], some (.array .double)⟩ := by decide +kernel
theorem own_pd4 : parseMethodDescriptor "([I[D)V" = some ⟨[(.array .int), (.array .double)], none⟩ := by decide +kernel
theorem own_pd5 : parseMethodDescriptor "([I[II)Z" = some ⟨[(.array .int), (.array .int), .int], some .boolean⟩ := by decide +kernel
theorem own_pd6 : parseMethodDescriptor "(Lcom/example/fuzzsub/fuzzsub/service/SparseVector;)Z" = some ⟨[(.object "com/example/fuzzsub/fuzzsub/service/SparseVector")], some .boolean⟩ := by decide +kernel
set_option maxRecDepth 65536 in
set_option maxHeartbeats 40000000 in
theorem own_law (l : Launch) (Z : State) (a0 : Array Value) (hw : ∀ d ∈ tables_1, d.before a0 Z = true) (x0 x1 x2 x3 x4 : Int32) :
    own_Con l Z x code maxLocals ret room_1 #[(.int x0), (.int x1), (.int x2), (.int x3), (.int x4)] ([]) (fun v M => v = some (.int 1)) := by
  refine own_con (ls := #[.val (.int x0), .val (.int x1), .val (.int x2), .val (.int x3), .val (.int x4), .unset, .unset, .unset, .unset, .unset, .unset, .unset, .unset, .unset]) (plainFor_of_name own_pn1) (fun m => by first | rfl | (simp [entryFrame, mkF, argsToLocals, Value.category]; done)) ?_
  intro p e s m below meth c T C X
  refine k_iloadN C X at_0 rfl rfl ?_
  refine k_iloadN C X at_1 rfl rfl ?_
  refine k_static C X at_2 rfl (hw _ (List.mem_of_getElem? (i := 0) rfl)) (hw _ (List.mem_of_getElem? (i := 1) rfl)) (hw _ (List.mem_of_getElem? (i := 2) rfl)) (hw _ (List.mem_of_getElem? (i := 3) rfl)) (by decide) (own_min l Z a0 hw x0 x1 ([])) (W := 0) (argsL := [(.int x0), (.int x1)]) (rest := []) rfl rfl rfl own_pd1 rfl (Nat.le_of_eq rfl) (by decide) (by decide) (by decide) (by decide) (fun v T M hQ X => ?_)
  obtain ⟨rfl, rfl⟩ := hQ
  refine k_iloadN C X at_5 rfl rfl ?_
  refine k_static C X at_6 rfl (hw _ (List.mem_of_getElem? (i := 0) rfl)) (hw _ (List.mem_of_getElem? (i := 1) rfl)) (hw _ (List.mem_of_getElem? (i := 2) rfl)) (hw _ (List.mem_of_getElem? (i := 3) rfl)) (by decide) (own_min l Z a0 hw (if x1 < x0 then x1 else x0) x2 ([])) (W := 0) (argsL := [(.int (if x1 < x0 then x1 else x0)), (.int x2)]) (rest := []) rfl rfl rfl own_pd1 rfl (Nat.le_of_eq rfl) (by decide) (by decide) (by decide) (by decide) (fun v T M hQ X => ?_)
  obtain ⟨rfl, rfl⟩ := hQ
  refine k_istore C X at_9 rfl (l' := #[.val (.int x0), .val (.int x1), .val (.int x2), .val (.int x3), .val (.int x4), .val (.int (if x2 < (if x1 < x0 then x1 else x0) then x2 else (if x1 < x0 then x1 else x0))), .unset, .unset, .unset, .unset, .unset, .unset, .unset, .unset]) rfl ?_
  obtain ⟨z0, e_z0⟩ : ∃ z, z = ((if x2 < (if x1 < x0 then x1 else x0) then x2 else (if x1 < x0 then x1 else x0)) : Int32) := ⟨_, rfl⟩
  rw [← e_z0]
  refine k_iloadN C X at_11 rfl rfl ?_
  refine k_iloadN C X at_12 rfl rfl ?_
  refine k_static C X at_13 rfl (hw _ (List.mem_of_getElem? (i := 4) rfl)) (hw _ (List.mem_of_getElem? (i := 5) rfl)) (hw _ (List.mem_of_getElem? (i := 2) rfl)) (hw _ (List.mem_of_getElem? (i := 6) rfl)) (by decide) (own_max l Z a0 hw x0 x1 ([])) (W := 0) (argsL := [(.int x0), (.int x1)]) (rest := []) rfl rfl rfl own_pd1 rfl (Nat.le_of_eq rfl) (by decide) (by decide) (by decide) (by decide) (fun v T M hQ X => ?_)
  obtain ⟨rfl, rfl⟩ := hQ
  refine k_iloadN C X at_16 rfl rfl ?_
  refine k_static C X at_17 rfl (hw _ (List.mem_of_getElem? (i := 4) rfl)) (hw _ (List.mem_of_getElem? (i := 5) rfl)) (hw _ (List.mem_of_getElem? (i := 2) rfl)) (hw _ (List.mem_of_getElem? (i := 6) rfl)) (by decide) (own_max l Z a0 hw (if x0 < x1 then x1 else x0) x2 ([])) (W := 0) (argsL := [(.int (if x0 < x1 then x1 else x0)), (.int x2)]) (rest := []) rfl rfl rfl own_pd1 rfl (Nat.le_of_eq rfl) (by decide) (by decide) (by decide) (by decide) (fun v T M hQ X => ?_)
  obtain ⟨rfl, rfl⟩ := hQ
  refine k_istore C X at_20 rfl (l' := #[.val (.int x0), .val (.int x1), .val (.int x2), .val (.int x3), .val (.int x4), .val (.int z0), .val (.int (if (if x0 < x1 then x1 else x0) < x2 then x2 else (if x0 < x1 then x1 else x0))), .unset, .unset, .unset, .unset, .unset, .unset, .unset]) rfl ?_
  obtain ⟨z2, e_z2⟩ : ∃ z, z = ((if (if x0 < x1 then x1 else x0) < x2 then x2 else (if x0 < x1 then x1 else x0)) : Int32) := ⟨_, rfl⟩
  rw [← e_z2]
  refine k_iloadN C X at_22 rfl rfl ?_
  refine k_iloadN C X at_23 rfl rfl ?_
  refine k_iadd C X at_24 rfl ?_
  refine k_iloadN C X at_25 rfl rfl ?_
  refine k_iadd C X at_26 rfl ?_
  refine k_iload C X at_27 rfl rfl ?_
  refine k_isub C X at_29 rfl ?_
  refine k_iload C X at_30 rfl rfl ?_
  refine k_isub C X at_32 rfl ?_
  refine k_istore C X at_33 rfl (l' := #[.val (.int x0), .val (.int x1), .val (.int x2), .val (.int x3), .val (.int x4), .val (.int z0), .val (.int z2), .val (.int ((((x0 + x1) + x2) - z0) - z2)), .unset, .unset, .unset, .unset, .unset, .unset]) rfl ?_
  obtain ⟨z1, e_z1⟩ : ∃ z, z = (((((x0 + x1) + x2) - z0) - z2) : Int32) := ⟨_, rfl⟩
  rw [← e_z1]
  refine k_iconst C X at_35 rfl (v := 5) rfl ?_
  refine k_newarray C X at_36 rfl (ty := .int) rfl (hw _ (List.mem_of_getElem? (i := 7) rfl)) (by decide) (cap := 5) (by decide) (by decide) (by decide) (by decide) (vs := [(.int 0), (.int 0), (.int 0), (.int 0), (.int 0)]) rfl (fun T o36 X => ?_)
  refine k_dup C X at_38 rfl rfl ?_
  refine k_iconst C X at_39 rfl (v := 0) rfl ?_
  refine k_ldc C X at_40 rfl (hw _ (List.mem_of_getElem? (i := 8) rfl)) ?_
  refine k_iastore C X at_42 rfl (ix := 0) (i := 0) rfl (by decide) (by decide) (Nat.le_of_ble_eq_true rfl) (vs' := [(.int (-2147483648)), (.int 0), (.int 0), (.int 0), (.int 0)]) rfl (L' := [(o36, own_ar Z .int [(.int (-2147483648)), (.int 0), (.int 0), (.int 0), (.int 0)])]) rfl (fun T X => ?_)
  refine k_dup C X at_43 rfl rfl ?_
  refine k_iconst C X at_44 rfl (v := 1) rfl ?_
  refine k_iload C X at_45 rfl rfl ?_
  refine k_iastore C X at_47 rfl (ix := 0) (i := 1) rfl (by decide) (by decide) (Nat.le_of_ble_eq_true rfl) (vs' := [(.int (-2147483648)), (.int z0), (.int 0), (.int 0), (.int 0)]) rfl (L' := [(o36, own_ar Z .int [(.int (-2147483648)), (.int z0), (.int 0), (.int 0), (.int 0)])]) rfl (fun T X => ?_)
  refine k_dup C X at_48 rfl rfl ?_
  refine k_iconst C X at_49 rfl (v := 2) rfl ?_
  refine k_iload C X at_50 rfl rfl ?_
  refine k_iastore C X at_52 rfl (ix := 0) (i := 2) rfl (by decide) (by decide) (Nat.le_of_ble_eq_true rfl) (vs' := [(.int (-2147483648)), (.int z0), (.int z1), (.int 0), (.int 0)]) rfl (L' := [(o36, own_ar Z .int [(.int (-2147483648)), (.int z0), (.int z1), (.int 0), (.int 0)])]) rfl (fun T X => ?_)
  refine k_dup C X at_53 rfl rfl ?_
  refine k_iconst C X at_54 rfl (v := 3) rfl ?_
  refine k_iload C X at_55 rfl rfl ?_
  refine k_iastore C X at_57 rfl (ix := 0) (i := 3) rfl (by decide) (by decide) (Nat.le_of_ble_eq_true rfl) (vs' := [(.int (-2147483648)), (.int z0), (.int z1), (.int z2), (.int 0)]) rfl (L' := [(o36, own_ar Z .int [(.int (-2147483648)), (.int z0), (.int z1), (.int z2), (.int 0)])]) rfl (fun T X => ?_)
  refine k_dup C X at_58 rfl rfl ?_
  refine k_iconst C X at_59 rfl (v := 4) rfl ?_
  refine k_ldc C X at_60 rfl (hw _ (List.mem_of_getElem? (i := 9) rfl)) ?_
  refine k_iastore C X at_62 rfl (ix := 0) (i := 4) rfl (by decide) (by decide) (Nat.le_of_ble_eq_true rfl) (vs' := [(.int (-2147483648)), (.int z0), (.int z1), (.int z2), (.int 2147483647)]) rfl (L' := [(o36, own_ar Z .int [(.int (-2147483648)), (.int z0), (.int z1), (.int z2), (.int 2147483647)])]) rfl (fun T X => ?_)
  refine k_astore C X at_63 rfl rfl (l' := #[.val (.int x0), .val (.int x1), .val (.int x2), .val (.int x3), .val (.int x4), .val (.int z0), .val (.int z2), .val (.int z1), .val (.ref o36), .unset, .unset, .unset, .unset, .unset]) rfl ?_
  refine k_aload C X at_65 rfl rfl rfl ?_
  refine k_iloadN C X at_67 rfl rfl ?_
  refine k_static C X at_68 rfl (hw _ (List.mem_of_getElem? (i := 10) rfl)) (hw _ (List.mem_of_getElem? (i := 11) rfl)) (hw _ (List.mem_of_getElem? (i := 12) rfl)) (hw _ (List.mem_of_getElem? (i := 13) rfl)) (by decide) (own_pick l Z a0 hw o36 (-2147483648) z0 z1 z2 2147483647 x3 ([])) (W := 0) (argsL := [(.ref o36), (.int x3)]) (rest := []) rfl rfl rfl own_pd2 rfl (Nat.le_of_eq rfl) (by decide) (by decide) (by decide) (by decide) (fun v T M hQ X => ?_)
  obtain ⟨p1, t1, q1, rfl, s1, l1, rfl⟩ := hQ
  refine k_astore C X at_71 rfl rfl (l' := #[.val (.int x0), .val (.int x1), .val (.int x2), .val (.int x3), .val (.int x4), .val (.int z0), .val (.int z2), .val (.int z1), .val (.ref o36), .val (.ref p1), .unset, .unset, .unset, .unset]) rfl ?_
  refine k_aload C X at_73 rfl rfl rfl ?_
  refine k_iload C X at_75 rfl rfl ?_
  replace X := X.bring (i := 2) rfl (M := [(o36, own_ar Z .int [(.int (-2147483648)), (.int z0), (.int z1), (.int z2), (.int 2147483647)]), (p1, own_ar Z .int (q1.map Value.int)), (t1, own_ar Z .int (own_tv q1))]) rfl
  refine k_static C X at_77 rfl (hw _ (List.mem_of_getElem? (i := 10) rfl)) (hw _ (List.mem_of_getElem? (i := 11) rfl)) (hw _ (List.mem_of_getElem? (i := 12) rfl)) (hw _ (List.mem_of_getElem? (i := 13) rfl)) (by decide) (own_pick l Z a0 hw o36 (-2147483648) z0 z1 z2 2147483647 x4 ([(p1, own_ar Z .int (q1.map Value.int)), (t1, own_ar Z .int (own_tv q1))])) (W := 0) (argsL := [(.ref o36), (.int x4)]) (rest := []) rfl rfl rfl own_pd2 rfl (Nat.le_of_eq rfl) (by decide) (by decide) (by decide) (by decide) (fun v T M hQ X => ?_)
  obtain ⟨p2, t2, q2, rfl, s2, l2, rfl⟩ := hQ
  refine k_astore C X at_80 rfl rfl (l' := #[.val (.int x0), .val (.int x1), .val (.int x2), .val (.int x3), .val (.int x4), .val (.int z0), .val (.int z2), .val (.int z1), .val (.ref o36), .val (.ref p1), .val (.ref p2), .unset, .unset, .unset]) rfl ?_
  refine k_new C X at_82 rfl (hw _ (List.mem_of_getElem? (i := 17) rfl)) (hw _ (List.mem_of_getElem? (i := 18) rfl)) (hw _ (List.mem_of_getElem? (i := 19) rfl)) (own_lay_SparseVector hw) (fs := [("dimensions", "[I", .null), ("values", "[D", .null)]) rfl (by decide) (by decide) (fun T o82 X => ?_)
  refine k_dup C X at_85 rfl rfl ?_
  refine k_aload C X at_86 rfl rfl rfl ?_
  refine k_aload C X at_88 rfl rfl rfl ?_
  refine k_arraylength C X at_90 rfl (ix := 4) rfl (z := q1.length.toInt32) (by rw [List.length_map]) ?_
  refine k_iloadN C X at_91 rfl rfl ?_
  refine k_static C X at_92 rfl (hw _ (List.mem_of_getElem? (i := 20) rfl)) (hw _ (List.mem_of_getElem? (i := 21) rfl)) (hw _ (List.mem_of_getElem? (i := 12) rfl)) (hw _ (List.mem_of_getElem? (i := 22) rfl)) (by decide) (own_vals l Z a0 hw q1 q1.length.toInt32 x3 rfl l1 ([(o82, own_ob Z "com/example/fuzzsub/fuzzsub/service/SparseVector" [("dimensions", "[I", .null), ("values", "[D", .null)]), (p2, own_ar Z .int (q2.map Value.int)), (t2, own_ar Z .int (own_tv q2)), (o36, own_ar Z .int [(.int (-2147483648)), (.int z0), (.int z1), (.int z2), (.int 2147483647)]), (p1, own_ar Z .int (q1.map Value.int)), (t1, own_ar Z .int (own_tv q1))])) (W := 3) (argsL := [(.int q1.length.toInt32), (.int x3)]) (rest := [(.ref p1), (.ref o82), (.ref o82)]) rfl rfl rfl own_pd3 rfl (Nat.le_of_eq rfl) (by decide) (by decide) (by decide) (by decide) (fun v T M hQ X => ?_)
  obtain ⟨w1, vs1, rfl, rfl⟩ := hQ
  replace X := X.bring (i := 1) rfl (M := [(o82, own_ob Z "com/example/fuzzsub/fuzzsub/service/SparseVector" [("dimensions", "[I", .null), ("values", "[D", .null)]), (w1, own_ar Z .double vs1), (p2, own_ar Z .int (q2.map Value.int)), (t2, own_ar Z .int (own_tv q2)), (o36, own_ar Z .int [(.int (-2147483648)), (.int z0), (.int z1), (.int z2), (.int 2147483647)]), (p1, own_ar Z .int (q1.map Value.int)), (t1, own_ar Z .int (own_tv q1))]) rfl
  refine k_init C X at_95 rfl rfl (hw _ (List.mem_of_getElem? (i := 24) rfl)) (hw _ (List.mem_of_getElem? (i := 25) rfl)) (hw _ (List.mem_of_getElem? (i := 19) rfl)) (hw _ (List.mem_of_getElem? (i := 26) rfl)) (by decide) (own_sv l Z a0 hw o82 p1 w1 ([(w1, own_ar Z .double vs1), (p2, own_ar Z .int (q2.map Value.int)), (t2, own_ar Z .int (own_tv q2)), (o36, own_ar Z .int [(.int (-2147483648)), (.int z0), (.int z1), (.int z2), (.int 2147483647)]), (p1, own_ar Z .int (q1.map Value.int)), (t1, own_ar Z .int (own_tv q1))])) (W := 1) (argsL := [(.ref p1), (.ref w1)]) (rest := [(.ref o82)]) rfl rfl rfl own_pd4 rfl (Nat.le_of_eq rfl) (by decide) (by decide) (by decide) (by decide) (fun v T M hQ X => ?_)
  obtain ⟨rfl, rfl⟩ := hQ
  refine k_astore C X at_98 rfl rfl (l' := #[.val (.int x0), .val (.int x1), .val (.int x2), .val (.int x3), .val (.int x4), .val (.int z0), .val (.int z2), .val (.int z1), .val (.ref o36), .val (.ref p1), .val (.ref p2), .val (.ref o82), .unset, .unset]) rfl ?_
  refine k_new C X at_100 rfl (hw _ (List.mem_of_getElem? (i := 17) rfl)) (hw _ (List.mem_of_getElem? (i := 18) rfl)) (hw _ (List.mem_of_getElem? (i := 19) rfl)) (own_lay_SparseVector hw) (fs := [("dimensions", "[I", .null), ("values", "[D", .null)]) rfl (by decide) (by decide) (fun T o100 X => ?_)
  refine k_dup C X at_103 rfl rfl ?_
  refine k_aload C X at_104 rfl rfl rfl ?_
  refine k_aload C X at_106 rfl rfl rfl ?_
  refine k_arraylength C X at_108 rfl (ix := 3) rfl (z := q2.length.toInt32) (by rw [List.length_map]) ?_
  refine k_iload C X at_109 rfl rfl ?_
  refine k_static C X at_111 rfl (hw _ (List.mem_of_getElem? (i := 20) rfl)) (hw _ (List.mem_of_getElem? (i := 21) rfl)) (hw _ (List.mem_of_getElem? (i := 12) rfl)) (hw _ (List.mem_of_getElem? (i := 22) rfl)) (by decide) (own_vals l Z a0 hw q2 q2.length.toInt32 x4 rfl l2 ([(o100, own_ob Z "com/example/fuzzsub/fuzzsub/service/SparseVector" [("dimensions", "[I", .null), ("values", "[D", .null)]), (o82, own_ob Z "com/example/fuzzsub/fuzzsub/service/SparseVector" [("dimensions", "[I", (.ref p1)), ("values", "[D", (.ref w1))]), (w1, own_ar Z .double vs1), (p2, own_ar Z .int (q2.map Value.int)), (t2, own_ar Z .int (own_tv q2)), (o36, own_ar Z .int [(.int (-2147483648)), (.int z0), (.int z1), (.int z2), (.int 2147483647)]), (p1, own_ar Z .int (q1.map Value.int)), (t1, own_ar Z .int (own_tv q1))])) (W := 3) (argsL := [(.int q2.length.toInt32), (.int x4)]) (rest := [(.ref p2), (.ref o100), (.ref o100)]) rfl rfl rfl own_pd3 rfl (Nat.le_of_eq rfl) (by decide) (by decide) (by decide) (by decide) (fun v T M hQ X => ?_)
  obtain ⟨w2, vs2, rfl, rfl⟩ := hQ
  replace X := X.bring (i := 1) rfl (M := [(o100, own_ob Z "com/example/fuzzsub/fuzzsub/service/SparseVector" [("dimensions", "[I", .null), ("values", "[D", .null)]), (w2, own_ar Z .double vs2), (o82, own_ob Z "com/example/fuzzsub/fuzzsub/service/SparseVector" [("dimensions", "[I", (.ref p1)), ("values", "[D", (.ref w1))]), (w1, own_ar Z .double vs1), (p2, own_ar Z .int (q2.map Value.int)), (t2, own_ar Z .int (own_tv q2)), (o36, own_ar Z .int [(.int (-2147483648)), (.int z0), (.int z1), (.int z2), (.int 2147483647)]), (p1, own_ar Z .int (q1.map Value.int)), (t1, own_ar Z .int (own_tv q1))]) rfl
  refine k_init C X at_114 rfl rfl (hw _ (List.mem_of_getElem? (i := 24) rfl)) (hw _ (List.mem_of_getElem? (i := 25) rfl)) (hw _ (List.mem_of_getElem? (i := 19) rfl)) (hw _ (List.mem_of_getElem? (i := 26) rfl)) (by decide) (own_sv l Z a0 hw o100 p2 w2 ([(w2, own_ar Z .double vs2), (o82, own_ob Z "com/example/fuzzsub/fuzzsub/service/SparseVector" [("dimensions", "[I", (.ref p1)), ("values", "[D", (.ref w1))]), (w1, own_ar Z .double vs1), (p2, own_ar Z .int (q2.map Value.int)), (t2, own_ar Z .int (own_tv q2)), (o36, own_ar Z .int [(.int (-2147483648)), (.int z0), (.int z1), (.int z2), (.int 2147483647)]), (p1, own_ar Z .int (q1.map Value.int)), (t1, own_ar Z .int (own_tv q1))])) (W := 1) (argsL := [(.ref p2), (.ref w2)]) (rest := [(.ref o100)]) rfl rfl rfl own_pd4 rfl (Nat.le_of_eq rfl) (by decide) (by decide) (by decide) (by decide) (fun v T M hQ X => ?_)
  obtain ⟨rfl, rfl⟩ := hQ
  refine k_astore C X at_117 rfl rfl (l' := #[.val (.int x0), .val (.int x1), .val (.int x2), .val (.int x3), .val (.int x4), .val (.int z0), .val (.int z2), .val (.int z1), .val (.ref o36), .val (.ref p1), .val (.ref p2), .val (.ref o82), .val (.ref o100), .unset]) rfl ?_
  refine k_aload C X at_119 rfl rfl rfl ?_
  refine k_aload C X at_121 rfl rfl rfl ?_
  refine k_iconst C X at_123 rfl (v := 0) rfl ?_
  replace X := X.bring (i := 7) rfl (M := [(p1, own_ar Z .int (q1.map Value.int)), (o100, own_ob Z "com/example/fuzzsub/fuzzsub/service/SparseVector" [("dimensions", "[I", (.ref p2)), ("values", "[D", (.ref w2))]), (w2, own_ar Z .double vs2), (o82, own_ob Z "com/example/fuzzsub/fuzzsub/service/SparseVector" [("dimensions", "[I", (.ref p1)), ("values", "[D", (.ref w1))]), (w1, own_ar Z .double vs1), (p2, own_ar Z .int (q2.map Value.int)), (t2, own_ar Z .int (own_tv q2)), (o36, own_ar Z .int [(.int (-2147483648)), (.int z0), (.int z1), (.int z2), (.int 2147483647)]), (t1, own_ar Z .int (own_tv q1))]) rfl
  replace X := X.bring (i := 5) rfl (M := [(p2, own_ar Z .int (q2.map Value.int)), (p1, own_ar Z .int (q1.map Value.int)), (o100, own_ob Z "com/example/fuzzsub/fuzzsub/service/SparseVector" [("dimensions", "[I", (.ref p2)), ("values", "[D", (.ref w2))]), (w2, own_ar Z .double vs2), (o82, own_ob Z "com/example/fuzzsub/fuzzsub/service/SparseVector" [("dimensions", "[I", (.ref p1)), ("values", "[D", (.ref w1))]), (w1, own_ar Z .double vs1), (t2, own_ar Z .int (own_tv q2)), (o36, own_ar Z .int [(.int (-2147483648)), (.int z0), (.int z1), (.int z2), (.int 2147483647)]), (t1, own_ar Z .int (own_tv q1))]) rfl
  refine k_static C X at_124 rfl (hw _ (List.mem_of_getElem? (i := 34) rfl)) (hw _ (List.mem_of_getElem? (i := 35) rfl)) (hw _ (List.mem_of_getElem? (i := 12) rfl)) (hw _ (List.mem_of_getElem? (i := 36) rfl)) (by decide) (own_chas l Z a0 hw p2 p1 q2 q1 (0) (0) (by decide) (by decide) l2 l1 ([(o100, own_ob Z "com/example/fuzzsub/fuzzsub/service/SparseVector" [("dimensions", "[I", (.ref p2)), ("values", "[D", (.ref w2))]), (w2, own_ar Z .double vs2), (o82, own_ob Z "com/example/fuzzsub/fuzzsub/service/SparseVector" [("dimensions", "[I", (.ref p1)), ("values", "[D", (.ref w1))]), (w1, own_ar Z .double vs1), (t2, own_ar Z .int (own_tv q2)), (o36, own_ar Z .int [(.int (-2147483648)), (.int z0), (.int z1), (.int z2), (.int 2147483647)]), (t1, own_ar Z .int (own_tv q1))])) (W := 0) (argsL := [(.ref p2), (.ref p1), (.int (0))]) (rest := []) rfl rfl rfl own_pd5 rfl (Nat.le_of_eq rfl) (by decide) (by decide) (by decide) (by decide) (fun v T M hQ X => ?_)
  obtain ⟨rfl, rfl⟩ := hQ
  suffices J127_179 : ∀ (T' : State) (y179_0 : Int32) (e_y179_0 : y179_0 = (if (own_has q2 q1 0) = 0 then (if (own_has q2 q1 1) = 0 then (if (own_has q2 q1 2) = 0 then (if (own_has q2 q1 3) = 0 then (if (own_has q2 q1 4) = 0 then (0) else (1)) else (1)) else (1)) else (1)) else (1))) (X' : own_S p l e room_1 s m #[(.int x0), (.int x1), (.int x2), (.int x3), (.int x4)] below meth c Z T' ([(p2, own_ar Z .int (q2.map Value.int)), (p1, own_ar Z .int (q1.map Value.int)), (o100, own_ob Z "com/example/fuzzsub/fuzzsub/service/SparseVector" [("dimensions", "[I", (.ref p2)), ("values", "[D", (.ref w2))]), (w2, own_ar Z .double vs2), (o82, own_ob Z "com/example/fuzzsub/fuzzsub/service/SparseVector" [("dimensions", "[I", (.ref p1)), ("values", "[D", (.ref w1))]), (w1, own_ar Z .double vs1), (t2, own_ar Z .int (own_tv q2)), (o36, own_ar Z .int [(.int (-2147483648)), (.int z0), (.int z1), (.int z2), (.int 2147483647)]), (t1, own_ar Z .int (own_tv q1))]) 9 39), own_Go p.tables e below (own_E Z s room_1 (fun v M => v = some (.int 1))) (T'.setTop (mkF m 179 #[.val (.int x0), .val (.int x1), .val (.int x2), .val (.int x3), .val (.int x4), .val (.int z0), .val (.int z2), .val (.int z1), .val (.ref o36), .val (.ref p1), .val (.ref p2), .val (.ref o82), .val (.ref o100), .unset] [(.int y179_0)])) by
    refine k_if_ne C X at_127 rfl (tpc := 174) rfl (fun h127 => ?_) (fun h127 => ?_)
    · skip
      refine k_iconst C X at_174 rfl (v := 1) rfl ?_
      refine k_goto C X at_175 (tpc := 179) rfl ?_
      exact J127_179 _ _ (by rw [if_neg h127]) (X.more (by decide) (by decide))
    · skip
      refine k_aload C X at_130 rfl rfl rfl ?_
      refine k_aload C X at_132 rfl rfl rfl ?_
      refine k_iconst C X at_134 rfl (v := 1) rfl ?_
      replace X := X.bring (i := 1) rfl (M := [(p1, own_ar Z .int (q1.map Value.int)), (p2, own_ar Z .int (q2.map Value.int)), (o100, own_ob Z "com/example/fuzzsub/fuzzsub/service/SparseVector" [("dimensions", "[I", (.ref p2)), ("values", "[D", (.ref w2))]), (w2, own_ar Z .double vs2), (o82, own_ob Z "com/example/fuzzsub/fuzzsub/service/SparseVector" [("dimensions", "[I", (.ref p1)), ("values", "[D", (.ref w1))]), (w1, own_ar Z .double vs1), (t2, own_ar Z .int (own_tv q2)), (o36, own_ar Z .int [(.int (-2147483648)), (.int z0), (.int z1), (.int z2), (.int 2147483647)]), (t1, own_ar Z .int (own_tv q1))]) rfl
      replace X := X.bring (i := 1) rfl (M := [(p2, own_ar Z .int (q2.map Value.int)), (p1, own_ar Z .int (q1.map Value.int)), (o100, own_ob Z "com/example/fuzzsub/fuzzsub/service/SparseVector" [("dimensions", "[I", (.ref p2)), ("values", "[D", (.ref w2))]), (w2, own_ar Z .double vs2), (o82, own_ob Z "com/example/fuzzsub/fuzzsub/service/SparseVector" [("dimensions", "[I", (.ref p1)), ("values", "[D", (.ref w1))]), (w1, own_ar Z .double vs1), (t2, own_ar Z .int (own_tv q2)), (o36, own_ar Z .int [(.int (-2147483648)), (.int z0), (.int z1), (.int z2), (.int 2147483647)]), (t1, own_ar Z .int (own_tv q1))]) rfl
      refine k_static C X at_135 rfl (hw _ (List.mem_of_getElem? (i := 34) rfl)) (hw _ (List.mem_of_getElem? (i := 35) rfl)) (hw _ (List.mem_of_getElem? (i := 12) rfl)) (hw _ (List.mem_of_getElem? (i := 36) rfl)) (by decide) (own_chas l Z a0 hw p2 p1 q2 q1 (1) (1) (by decide) (by decide) l2 l1 ([(o100, own_ob Z "com/example/fuzzsub/fuzzsub/service/SparseVector" [("dimensions", "[I", (.ref p2)), ("values", "[D", (.ref w2))]), (w2, own_ar Z .double vs2), (o82, own_ob Z "com/example/fuzzsub/fuzzsub/service/SparseVector" [("dimensions", "[I", (.ref p1)), ("values", "[D", (.ref w1))]), (w1, own_ar Z .double vs1), (t2, own_ar Z .int (own_tv q2)), (o36, own_ar Z .int [(.int (-2147483648)), (.int z0), (.int z1), (.int z2), (.int 2147483647)]), (t1, own_ar Z .int (own_tv q1))])) (W := 0) (argsL := [(.ref p2), (.ref p1), (.int (1))]) (rest := []) rfl rfl rfl own_pd5 rfl (Nat.le_of_eq rfl) (by decide) (by decide) (by decide) (by decide) (fun v T M hQ X => ?_)
      obtain ⟨rfl, rfl⟩ := hQ
      refine k_if_ne C X at_138 rfl (tpc := 174) rfl (fun h138 => ?_) (fun h138 => ?_)
      · skip
        refine k_iconst C X at_174 rfl (v := 1) rfl ?_
        refine k_goto C X at_175 (tpc := 179) rfl ?_
        exact J127_179 _ _ (by rw [if_pos h127, if_neg h138]) (X.more (by decide) (by decide))
      · skip
        refine k_aload C X at_141 rfl rfl rfl ?_
        refine k_aload C X at_143 rfl rfl rfl ?_
        refine k_iconst C X at_145 rfl (v := 2) rfl ?_
        replace X := X.bring (i := 1) rfl (M := [(p1, own_ar Z .int (q1.map Value.int)), (p2, own_ar Z .int (q2.map Value.int)), (o100, own_ob Z "com/example/fuzzsub/fuzzsub/service/SparseVector" [("dimensions", "[I", (.ref p2)), ("values", "[D", (.ref w2))]), (w2, own_ar Z .double vs2), (o82, own_ob Z "com/example/fuzzsub/fuzzsub/service/SparseVector" [("dimensions", "[I", (.ref p1)), ("values", "[D", (.ref w1))]), (w1, own_ar Z .double vs1), (t2, own_ar Z .int (own_tv q2)), (o36, own_ar Z .int [(.int (-2147483648)), (.int z0), (.int z1), (.int z2), (.int 2147483647)]), (t1, own_ar Z .int (own_tv q1))]) rfl
        replace X := X.bring (i := 1) rfl (M := [(p2, own_ar Z .int (q2.map Value.int)), (p1, own_ar Z .int (q1.map Value.int)), (o100, own_ob Z "com/example/fuzzsub/fuzzsub/service/SparseVector" [("dimensions", "[I", (.ref p2)), ("values", "[D", (.ref w2))]), (w2, own_ar Z .double vs2), (o82, own_ob Z "com/example/fuzzsub/fuzzsub/service/SparseVector" [("dimensions", "[I", (.ref p1)), ("values", "[D", (.ref w1))]), (w1, own_ar Z .double vs1), (t2, own_ar Z .int (own_tv q2)), (o36, own_ar Z .int [(.int (-2147483648)), (.int z0), (.int z1), (.int z2), (.int 2147483647)]), (t1, own_ar Z .int (own_tv q1))]) rfl
        refine k_static C X at_146 rfl (hw _ (List.mem_of_getElem? (i := 34) rfl)) (hw _ (List.mem_of_getElem? (i := 35) rfl)) (hw _ (List.mem_of_getElem? (i := 12) rfl)) (hw _ (List.mem_of_getElem? (i := 36) rfl)) (by decide) (own_chas l Z a0 hw p2 p1 q2 q1 (2) (2) (by decide) (by decide) l2 l1 ([(o100, own_ob Z "com/example/fuzzsub/fuzzsub/service/SparseVector" [("dimensions", "[I", (.ref p2)), ("values", "[D", (.ref w2))]), (w2, own_ar Z .double vs2), (o82, own_ob Z "com/example/fuzzsub/fuzzsub/service/SparseVector" [("dimensions", "[I", (.ref p1)), ("values", "[D", (.ref w1))]), (w1, own_ar Z .double vs1), (t2, own_ar Z .int (own_tv q2)), (o36, own_ar Z .int [(.int (-2147483648)), (.int z0), (.int z1), (.int z2), (.int 2147483647)]), (t1, own_ar Z .int (own_tv q1))])) (W := 0) (argsL := [(.ref p2), (.ref p1), (.int (2))]) (rest := []) rfl rfl rfl own_pd5 rfl (Nat.le_of_eq rfl) (by decide) (by decide) (by decide) (by decide) (fun v T M hQ X => ?_)
        obtain ⟨rfl, rfl⟩ := hQ
        refine k_if_ne C X at_149 rfl (tpc := 174) rfl (fun h149 => ?_) (fun h149 => ?_)
        · skip
          refine k_iconst C X at_174 rfl (v := 1) rfl ?_
          refine k_goto C X at_175 (tpc := 179) rfl ?_
          exact J127_179 _ _ (by rw [if_pos h127, if_pos h138, if_neg h149]) (X.more (by decide) (by decide))
        · skip
          refine k_aload C X at_152 rfl rfl rfl ?_
          refine k_aload C X at_154 rfl rfl rfl ?_
          refine k_iconst C X at_156 rfl (v := 3) rfl ?_
          replace X := X.bring (i := 1) rfl (M := [(p1, own_ar Z .int (q1.map Value.int)), (p2, own_ar Z .int (q2.map Value.int)), (o100, own_ob Z "com/example/fuzzsub/fuzzsub/service/SparseVector" [("dimensions", "[I", (.ref p2)), ("values", "[D", (.ref w2))]), (w2, own_ar Z .double vs2), (o82, own_ob Z "com/example/fuzzsub/fuzzsub/service/SparseVector" [("dimensions", "[I", (.ref p1)), ("values", "[D", (.ref w1))]), (w1, own_ar Z .double vs1), (t2, own_ar Z .int (own_tv q2)), (o36, own_ar Z .int [(.int (-2147483648)), (.int z0), (.int z1), (.int z2), (.int 2147483647)]), (t1, own_ar Z .int (own_tv q1))]) rfl
          replace X := X.bring (i := 1) rfl (M := [(p2, own_ar Z .int (q2.map Value.int)), (p1, own_ar Z .int (q1.map Value.int)), (o100, own_ob Z "com/example/fuzzsub/fuzzsub/service/SparseVector" [("dimensions", "[I", (.ref p2)), ("values", "[D", (.ref w2))]), (w2, own_ar Z .double vs2), (o82, own_ob Z "com/example/fuzzsub/fuzzsub/service/SparseVector" [("dimensions", "[I", (.ref p1)), ("values", "[D", (.ref w1))]), (w1, own_ar Z .double vs1), (t2, own_ar Z .int (own_tv q2)), (o36, own_ar Z .int [(.int (-2147483648)), (.int z0), (.int z1), (.int z2), (.int 2147483647)]), (t1, own_ar Z .int (own_tv q1))]) rfl
          refine k_static C X at_157 rfl (hw _ (List.mem_of_getElem? (i := 34) rfl)) (hw _ (List.mem_of_getElem? (i := 35) rfl)) (hw _ (List.mem_of_getElem? (i := 12) rfl)) (hw _ (List.mem_of_getElem? (i := 36) rfl)) (by decide) (own_chas l Z a0 hw p2 p1 q2 q1 (3) (3) (by decide) (by decide) l2 l1 ([(o100, own_ob Z "com/example/fuzzsub/fuzzsub/service/SparseVector" [("dimensions", "[I", (.ref p2)), ("values", "[D", (.ref w2))]), (w2, own_ar Z .double vs2), (o82, own_ob Z "com/example/fuzzsub/fuzzsub/service/SparseVector" [("dimensions", "[I", (.ref p1)), ("values", "[D", (.ref w1))]), (w1, own_ar Z .double vs1), (t2, own_ar Z .int (own_tv q2)), (o36, own_ar Z .int [(.int (-2147483648)), (.int z0), (.int z1), (.int z2), (.int 2147483647)]), (t1, own_ar Z .int (own_tv q1))])) (W := 0) (argsL := [(.ref p2), (.ref p1), (.int (3))]) (rest := []) rfl rfl rfl own_pd5 rfl (Nat.le_of_eq rfl) (by decide) (by decide) (by decide) (by decide) (fun v T M hQ X => ?_)
          obtain ⟨rfl, rfl⟩ := hQ
          refine k_if_ne C X at_160 rfl (tpc := 174) rfl (fun h160 => ?_) (fun h160 => ?_)
          · skip
            refine k_iconst C X at_174 rfl (v := 1) rfl ?_
            refine k_goto C X at_175 (tpc := 179) rfl ?_
            exact J127_179 _ _ (by rw [if_pos h127, if_pos h138, if_pos h149, if_neg h160]) (X.more (by decide) (by decide))
          · skip
            refine k_aload C X at_163 rfl rfl rfl ?_
            refine k_aload C X at_165 rfl rfl rfl ?_
            refine k_iconst C X at_167 rfl (v := 4) rfl ?_
            replace X := X.bring (i := 1) rfl (M := [(p1, own_ar Z .int (q1.map Value.int)), (p2, own_ar Z .int (q2.map Value.int)), (o100, own_ob Z "com/example/fuzzsub/fuzzsub/service/SparseVector" [("dimensions", "[I", (.ref p2)), ("values", "[D", (.ref w2))]), (w2, own_ar Z .double vs2), (o82, own_ob Z "com/example/fuzzsub/fuzzsub/service/SparseVector" [("dimensions", "[I", (.ref p1)), ("values", "[D", (.ref w1))]), (w1, own_ar Z .double vs1), (t2, own_ar Z .int (own_tv q2)), (o36, own_ar Z .int [(.int (-2147483648)), (.int z0), (.int z1), (.int z2), (.int 2147483647)]), (t1, own_ar Z .int (own_tv q1))]) rfl
            replace X := X.bring (i := 1) rfl (M := [(p2, own_ar Z .int (q2.map Value.int)), (p1, own_ar Z .int (q1.map Value.int)), (o100, own_ob Z "com/example/fuzzsub/fuzzsub/service/SparseVector" [("dimensions", "[I", (.ref p2)), ("values", "[D", (.ref w2))]), (w2, own_ar Z .double vs2), (o82, own_ob Z "com/example/fuzzsub/fuzzsub/service/SparseVector" [("dimensions", "[I", (.ref p1)), ("values", "[D", (.ref w1))]), (w1, own_ar Z .double vs1), (t2, own_ar Z .int (own_tv q2)), (o36, own_ar Z .int [(.int (-2147483648)), (.int z0), (.int z1), (.int z2), (.int 2147483647)]), (t1, own_ar Z .int (own_tv q1))]) rfl
            refine k_static C X at_168 rfl (hw _ (List.mem_of_getElem? (i := 34) rfl)) (hw _ (List.mem_of_getElem? (i := 35) rfl)) (hw _ (List.mem_of_getElem? (i := 12) rfl)) (hw _ (List.mem_of_getElem? (i := 36) rfl)) (by decide) (own_chas l Z a0 hw p2 p1 q2 q1 (4) (4) (by decide) (by decide) l2 l1 ([(o100, own_ob Z "com/example/fuzzsub/fuzzsub/service/SparseVector" [("dimensions", "[I", (.ref p2)), ("values", "[D", (.ref w2))]), (w2, own_ar Z .double vs2), (o82, own_ob Z "com/example/fuzzsub/fuzzsub/service/SparseVector" [("dimensions", "[I", (.ref p1)), ("values", "[D", (.ref w1))]), (w1, own_ar Z .double vs1), (t2, own_ar Z .int (own_tv q2)), (o36, own_ar Z .int [(.int (-2147483648)), (.int z0), (.int z1), (.int z2), (.int 2147483647)]), (t1, own_ar Z .int (own_tv q1))])) (W := 0) (argsL := [(.ref p2), (.ref p1), (.int (4))]) (rest := []) rfl rfl rfl own_pd5 rfl (Nat.le_of_eq rfl) (by decide) (by decide) (by decide) (by decide) (fun v T M hQ X => ?_)
            obtain ⟨rfl, rfl⟩ := hQ
            refine k_if_eq C X at_171 rfl (tpc := 178) rfl (fun h171 => ?_) (fun h171 => ?_)
            · skip
              refine k_iconst C X at_178 rfl (v := 0) rfl ?_
              exact J127_179 _ _ (by rw [if_pos h127, if_pos h138, if_pos h149, if_pos h160, if_pos h171]) (X.more (by decide) (by decide))
            · skip
              refine k_iconst C X at_174 rfl (v := 1) rfl ?_
              refine k_goto C X at_175 (tpc := 179) rfl ?_
              exact J127_179 _ _ (by rw [if_pos h127, if_pos h138, if_pos h149, if_pos h160, if_neg h171]) (X.more (by decide) (by decide))
  intro T y179_0 e_y179_0 X
  refine k_istore C X at_179 rfl (l' := #[.val (.int x0), .val (.int x1), .val (.int x2), .val (.int x3), .val (.int x4), .val (.int z0), .val (.int z2), .val (.int z1), .val (.ref o36), .val (.ref p1), .val (.ref p2), .val (.ref o82), .val (.ref o100), .val (.int y179_0)]) rfl ?_
  refine k_aload C X at_181 rfl rfl rfl ?_
  refine k_aload C X at_183 rfl rfl rfl ?_
  replace X := X.bring (i := 1) rfl (M := [(p1, own_ar Z .int (q1.map Value.int)), (p2, own_ar Z .int (q2.map Value.int)), (o100, own_ob Z "com/example/fuzzsub/fuzzsub/service/SparseVector" [("dimensions", "[I", (.ref p2)), ("values", "[D", (.ref w2))]), (w2, own_ar Z .double vs2), (o82, own_ob Z "com/example/fuzzsub/fuzzsub/service/SparseVector" [("dimensions", "[I", (.ref p1)), ("values", "[D", (.ref w1))]), (w1, own_ar Z .double vs1), (t2, own_ar Z .int (own_tv q2)), (o36, own_ar Z .int [(.int (-2147483648)), (.int z0), (.int z1), (.int z2), (.int 2147483647)]), (t1, own_ar Z .int (own_tv q1))]) rfl
  replace X := X.bring (i := 2) rfl (M := [(o100, own_ob Z "com/example/fuzzsub/fuzzsub/service/SparseVector" [("dimensions", "[I", (.ref p2)), ("values", "[D", (.ref w2))]), (p1, own_ar Z .int (q1.map Value.int)), (p2, own_ar Z .int (q2.map Value.int)), (w2, own_ar Z .double vs2), (o82, own_ob Z "com/example/fuzzsub/fuzzsub/service/SparseVector" [("dimensions", "[I", (.ref p1)), ("values", "[D", (.ref w1))]), (w1, own_ar Z .double vs1), (t2, own_ar Z .int (own_tv q2)), (o36, own_ar Z .int [(.int (-2147483648)), (.int z0), (.int z1), (.int z2), (.int 2147483647)]), (t1, own_ar Z .int (own_tv q1))]) rfl
  replace X := X.bring (i := 4) rfl (M := [(o82, own_ob Z "com/example/fuzzsub/fuzzsub/service/SparseVector" [("dimensions", "[I", (.ref p1)), ("values", "[D", (.ref w1))]), (o100, own_ob Z "com/example/fuzzsub/fuzzsub/service/SparseVector" [("dimensions", "[I", (.ref p2)), ("values", "[D", (.ref w2))]), (p1, own_ar Z .int (q1.map Value.int)), (p2, own_ar Z .int (q2.map Value.int)), (w2, own_ar Z .double vs2), (w1, own_ar Z .double vs1), (t2, own_ar Z .int (own_tv q2)), (o36, own_ar Z .int [(.int (-2147483648)), (.int z0), (.int z1), (.int z2), (.int 2147483647)]), (t1, own_ar Z .int (own_tv q1))]) rfl
  refine k_virtual C X at_185 rfl (hw _ (List.mem_of_getElem? (i := 37) rfl)) (hw _ (List.mem_of_getElem? (i := 38) rfl)) (hw _ (List.mem_of_getElem? (i := 19) rfl)) (hw _ (List.mem_of_getElem? (i := 41) rfl)) (hw _ (List.mem_of_getElem? (i := 40) rfl)) (hw _ (List.mem_of_getElem? (i := 39) rfl)) (by decide) (own_nf C.2.2.2.1 (hw _ (List.mem_of_getElem? (i := 40) rfl))) (own_eL (ix := 0) rfl) (own_cmeet l Z a0 hw o82 p1 w1 o100 p2 w2 q1 q2 l1 l2 ([(w2, own_ar Z .double vs2), (w1, own_ar Z .double vs1), (t2, own_ar Z .int (own_tv q2)), (o36, own_ar Z .int [(.int (-2147483648)), (.int z0), (.int z1), (.int z2), (.int 2147483647)]), (t1, own_ar Z .int (own_tv q1))])) (W := 0) (argsL := [(.ref o100)]) (rest := []) rfl rfl rfl own_pd6 rfl (Nat.le_of_eq rfl) (by decide) (by decide) (by decide) (by decide) (fun v T M hQ X => ?_)
  obtain ⟨rfl, rfl⟩ := hQ
  refine k_iload C X at_188 rfl rfl ?_
  refine k_icmp_ne C X at_190 rfl (tpc := 197) rfl (fun hc => (hc (own_same l1 s1 s2 e_y179_0) : False).elim) (fun _ => ?_)
  refine k_iconst C X at_193 rfl (v := 1) rfl ?_
  refine k_goto C X at_194 (tpc := 198) rfl ?_
  exact k_ireturn C X at_198 (by simp) rfl rfl (by decide) (by decide)
set_option maxRecDepth 65536 in
set_option maxHeartbeats 40000000 in
theorem comes_1 {Post : Tables → Env → Array Value → State → Outcome → State → Prop} (hpost : ∀ tb e args s v u, (limb_1_1.after args s (.returned v) u = true ∧ limb_1_2.after args s (.returned v) u = true ∧ True) → FrameEnd s (.returned v) u (Jvm.fieldLocs frame_1_writes args s ++ Jvm.arrayLocs frame_1_arrays args s ++ Jvm.staticLocs frame_1_statics s) 32 192 → Post tb e args s (.returned v) u) :
    ArmFor flags0 classFile x code maxLocals ret World_1 tables_1 room_1 Calls_1 rest_1 Pre_1 Post := by
  intro l hfl _ _ p e ha hc hk s m args below hf hA hF happ hP
  obtain ⟨hcalls, hrest, hpre⟩ := hP
  obtain ⟨-, -, -, hnamed, -, -, -, hat⟩ := (Spec.applies_iff hf).mp happ
  obtain ⟨hg, hn⟩ := and_e (Cond.before_iff.mp (show (Jvm.Cond.and given_1 narrow_1).before args s = true from hpre))
  obtain ⟨hcount, hg⟩ := and_e hg
  obtain ⟨g0, hg⟩ := and_e hg
  obtain ⟨g1, hg⟩ := and_e hg
  obtain ⟨g2, hg⟩ := and_e hg
  obtain ⟨g3, hg⟩ := and_e hg
  have g4 := hg
  obtain ⟨w0, w1, w2, w3, w4, rfl⟩ : ∃ w0 w1 w2 w3 w4 : Value, args = #[w0, w1, w2, w3, w4] := by
    have hs : args.size = 5 := by simpa [Cond.value, given_1] using hcount
    obtain ⟨L⟩ := args
    match L, hs with
    | [w0, w1, w2, w3, w4], _ => exact ⟨w0, w1, w2, w3, w4, rfl⟩
  have hw := fun d (hd : d ∈ tables_1) => atoms_spec (ws := Jvm.Cond.code x code maxLocals ret :: tables_1) hat d (List.mem_cons_of_mem _ hd)
  have hfit : Fit s := fun {y c} hc i hi => by
    obtain ⟨ha, rfl⟩ := Array.getElem?_eq_some_iff.mp hc
    have q := List.all_eq_true.mp ((Array.all_eq_true_iff_forall_mem.mp hF) _ (Array.getElem_mem ha)) i (List.mem_range.mpr hi)
    simpa [Array.getElem?_eq_getElem hi] using q
  obtain ⟨i0, e0⟩ := is_v g0
  obtain rfl : w0 = (.int i0) := Option.some.inj e0
  obtain ⟨i1, e1⟩ := is_v g1
  obtain rfl : w1 = (.int i1) := Option.some.inj e1
  obtain ⟨i2, e2⟩ := is_v g2
  obtain rfl : w2 = (.int i2) := Option.some.inj e2
  obtain ⟨i3, e3⟩ := is_v g3
  obtain rfl : w3 = (.int i3) := Option.some.inj e3
  obtain ⟨i4, e4⟩ := is_v g4
  obtain rfl : w4 = (.int i4) := Option.some.inj e4
  have hH : own_H s.heap s.heap [] := ⟨⟨Nat.le_refl _, fun _ _ q => q⟩, fun _ q => (nomatch q), List.nodup_nil⟩
  obtain ⟨n, o, h1, h2, h3, v, M, L, rfl, rfl, -, N, hq⟩ := (own_law l s _ hw i0 i1 i2 i3 i4) tables_1 p e ha hc hk s m _ below hf ((Spec.applies_iff_loose hf).mp happ).1 ⟨rfl, State.Warmed39.refl s, hH⟩ trivial
  refine ⟨n, _, h1, h2, h3, hpost _ _ _ _ _ _ ⟨Cond.after_iff.mpr rfl, Cond.after_iff.mpr (eq_i res_at (Term.int_eval (1)) rfl), trivial⟩ ⟨hq.1, hq.2.1, (hq.2.2.sift fun y hy => Or.inr (N y hy)).mono (by decide) (by decide)⟩⟩
theorem main_1_1 : Claimed_1_1 := comes_1 fun _ _ _ _ _ _ h hF => ⟨h.1, hF⟩
theorem main_1_2 : Claimed_1_2 := comes_1 fun _ _ _ _ _ _ h hF => ⟨h.2.1, hF⟩
end Jvm.Pilot.@@N@@
namespace Jvm.Pilot.@@N@@
open Jvm Jvm.ClassFile Sem Op Lib Jvm.Free Jvm.Stand Jvm.Pilot.@@N@@.Jvm.D
/-! MADE BY PROGRAM (witnessworld.py) out of the Statement's table words and the real class files: 12 classes; the members and pool entries that the words name. The judged class is class 1, her method 1. -/
namespace start1
open Jvm.ClassFile
def u (s : String) : CpInfo := .utf8 (stringToUtf16 s)
/-- a pool by its gaps: so many unusable entries, then the entry; so many at the end -/
def gap : Nat → List CpInfo → List CpInfo
  | 0, r => r
  | n + 1, r => .unusable :: gap n r
def poolList (es : List (Nat × CpInfo)) (last : Nat) : List CpInfo := es.foldr (fun e r => gap e.1 (e.2 :: r)) (gap last [])
def pool (es : List (Nat × CpInfo)) (last : Nat) : Array CpInfo := ⟨poolList es last⟩
def fileOf (pool : Array CpInfo) (this : Nat) (attrs : Array Attribute := #[]) (ms : Array MethodInfo := #[]) (fl : Nat := 33) (sup : Nat := 0) (ifs : Array Nat := #[]) (fds : Array FieldInfo := #[]) : ClassFile where
  minorVersion := 0
  majorVersion := 65
  constantPool := pool
  accessFlags := fl
  thisClass := this
  superClass := sup
  interfaces := ifs
  fields := fds
  methods := ms
  attributes := attrs
def plain (name : String) (sup : Option ClassId) : Class where
  name := name
  kind := .ordinary
  loader := none
  accessFlags := 33
  super := sup
  interfaces := #[]
  cf := none
  fields := #[]
  methods := #[]
  instanceTypes := #[]
  staticTypes := #[]
  resolved := #[]
  callSites := []
  init := .initialized
  statics := none
  mirror := none

def pool0 : Array CpInfo := pool [(5, u "<init>"), (0, u "()V"), (1, .class_ 10), (1, u "java/lang/Object")] 113

def k0c0 : Code := { maxStack := 0, maxLocals := 1, code := object_method_1_code, exceptionTable := #[], attributes := #[] }
def k0m0 : Method := { name := "<init>", desc := "()V", sig := { parameters := [], returnType := none }, accessFlags := 1, code := some k0c0 }
/-- java/lang/Object -/
def k0 : Class := { plain "java/lang/Object" none with
  accessFlags := 33
  interfaces := #[]
  cf := some (fileOf pool0 8 #[] #[{ accessFlags := 1, nameIndex := 5, descriptorIndex := 6, attributes := #[] }] 33 0 #[] #[])
  fields := #[]
  methods := #[k0m0]
  instanceTypes := #[]
  staticTypes := #[]
  resolved := Array.replicate 124 none
  statics := none }

def pool1 : Array CpInfo := pool [(2, .class_ 4), (1, u "java/lang/Object"), (0, u "<init>"), (0, u "()V"), (0, .methodref 8 9), (0, .class_ 10), (0, .nameAndType 11 12), (0, u "java/lang/Math"), (0, u "min"), (0, u "(II)I"), (0, .methodref 8 14), (0, .nameAndType 15 12), (0, u "max"), (2, .integer 2147483648), (0, .integer 2147483647), (0, .methodref 21 22), (0, .class_ 23), (0, .nameAndType 24 25), (0, u "com/example/fuzzsub/fuzzsub/service/SparseVectorMeetsPinLaw"), (0, u "pick"), (0, u "([II)[I"), (0, .class_ 27), (0, u "com/example/fuzzsub/fuzzsub/service/SparseVector"), (0, .methodref 21 29), (0, .nameAndType 30 31), (0, u "values"), (0, u "(II)[D"), (0, .methodref 26 33), (0, .nameAndType 5 34), (0, u "([I[D)V"), (0, .methodref 21 36), (0, .nameAndType 37 38), (0, u "has"), (0, u "([I[II)Z"), (0, .methodref 26 40), (0, .nameAndType 41 42), (0, u "meets"), (0, u "(Lcom/example/fuzzsub/fuzzsub/service/SparseVector;)Z"), (0, .methodref 21 44), (0, .nameAndType 45 46), (0, u "add"), (0, u "([IIIZ)I"), (2, u "law"), (0, u "(IIIII)Z")] 7

def k1m0 : Method := { name := "<init>", desc := "()V", sig := { parameters := [], returnType := none }, accessFlags := 1, code := none }
def k1c1 : Code := { maxStack := 5, maxLocals := 14, code := code, exceptionTable := #[], attributes := #[] }
def k1m1 : Method := { name := "law", desc := "(IIIII)Z", sig := { parameters := [.int, .int, .int, .int, .int], returnType := some .boolean }, accessFlags := 9, code := some k1c1 }
def k1c2 : Code := { maxStack := 5, maxLocals := 5, code := method_3_code, exceptionTable := #[], attributes := #[] }
def k1m2 : Method := { name := "pick", desc := "([II)[I", sig := { parameters := [(.array .int), .int], returnType := some (.array .int) }, accessFlags := 10, code := some k1c2 }
def k1c3 : Code := { maxStack := 3, maxLocals := 4, code := method_4_code, exceptionTable := #[], attributes := #[] }
def k1m3 : Method := { name := "add", desc := "([IIIZ)I", sig := { parameters := [(.array .int), .int, .int, .boolean], returnType := some .int }, accessFlags := 10, code := some k1c3 }
def k1c4 : Code := { maxStack := 4, maxLocals := 3, code := method_5_code, exceptionTable := #[], attributes := #[] }
def k1m4 : Method := { name := "values", desc := "(II)[D", sig := { parameters := [.int, .int], returnType := some (.array .double) }, accessFlags := 10, code := some k1c4 }
def k1c5 : Code := { maxStack := 2, maxLocals := 4, code := method_6_code, exceptionTable := #[], attributes := #[] }
def k1m5 : Method := { name := "has", desc := "([I[II)Z", sig := { parameters := [(.array .int), (.array .int), .int], returnType := some .boolean }, accessFlags := 10, code := some k1c5 }
/-- com/example/fuzzsub/fuzzsub/service/SparseVectorMeetsPinLaw -/
def k1 : Class := { plain "com/example/fuzzsub/fuzzsub/service/SparseVectorMeetsPinLaw" (some 0) with
  accessFlags := 49
  interfaces := #[]
  cf := some (fileOf pool1 21 #[] #[{ accessFlags := 1, nameIndex := 5, descriptorIndex := 6, attributes := #[] }, { accessFlags := 9, nameIndex := 49, descriptorIndex := 50, attributes := #[] }, { accessFlags := 10, nameIndex := 24, descriptorIndex := 25, attributes := #[] }, { accessFlags := 10, nameIndex := 45, descriptorIndex := 46, attributes := #[] }, { accessFlags := 10, nameIndex := 30, descriptorIndex := 31, attributes := #[] }, { accessFlags := 10, nameIndex := 37, descriptorIndex := 38, attributes := #[] }] 49 2 #[] #[])
  fields := #[]
  methods := #[k1m0, k1m1, k1m2, k1m3, k1m4, k1m5]
  instanceTypes := #[]
  staticTypes := #[]
  resolved := Array.replicate 58 none
  statics := none }

def pool2 : Array CpInfo := pool [(1, .class_ 2), (0, u "java/lang/Math"), (1, .class_ 6), (1, u "java/lang/Object"), (0, u "<init>"), (0, u "()V"), (89, .class_ 100), (1, u "java/lang/Math$RandomNumberGeneratorHolder"), (71, u "negativeZeroFloatBits"), (0, u "J"), (2, u "negativeZeroDoubleBits"), (21, u "max"), (2, u "min"), (43, u "$assertionsDisabled"), (0, u "Z"), (88, u "(II)I"), (2, u "twoToTheDoubleScaleDown"), (0, u "D"), (4, u "twoToTheDoubleScaleUp"), (9, u "E"), (3, u "PI"), (2, u "TAU"), (2, u "DEGREES_TO_RADIANS"), (0, u "RADIANS_TO_DEGREES")] 94

def k2m0 : Method := { name := "<init>", desc := "()V", sig := { parameters := [], returnType := none }, accessFlags := 2, code := none }
def k2c1 : Code := { maxStack := 2, maxLocals := 2, code := jdk_29_method_65_code, exceptionTable := #[], attributes := #[] }
def k2m1 : Method := { name := "max", desc := "(II)I", sig := { parameters := [.int, .int], returnType := some .int }, accessFlags := 9, code := some k2c1 }
def k2c2 : Code := { maxStack := 2, maxLocals := 2, code := jdk_29_method_69_code, exceptionTable := #[], attributes := #[] }
def k2m2 : Method := { name := "min", desc := "(II)I", sig := { parameters := [.int, .int], returnType := some .int }, accessFlags := 9, code := some k2c2 }
/-- java/lang/Math -/
def k2 : Class := { plain "java/lang/Math" (some 0) with
  accessFlags := 49
  interfaces := #[]
  cf := some (fileOf pool2 1 #[.nestMembers #[98]] #[{ accessFlags := 2, nameIndex := 7, descriptorIndex := 8, attributes := #[] }, { accessFlags := 9, nameIndex := 198, descriptorIndex := 335, attributes := #[] }, { accessFlags := 9, nameIndex := 201, descriptorIndex := 335, attributes := #[] }] 49 4 #[] #[{ accessFlags := 25, nameIndex := 354, descriptorIndex := 339, attributes := #[] }, { accessFlags := 25, nameIndex := 358, descriptorIndex := 339, attributes := #[] }, { accessFlags := 25, nameIndex := 361, descriptorIndex := 339, attributes := #[] }, { accessFlags := 26, nameIndex := 364, descriptorIndex := 339, attributes := #[] }, { accessFlags := 26, nameIndex := 365, descriptorIndex := 339, attributes := #[] }, { accessFlags := 26, nameIndex := 172, descriptorIndex := 173, attributes := #[] }, { accessFlags := 26, nameIndex := 176, descriptorIndex := 173, attributes := #[] }, { accessFlags := 8, nameIndex := 344, descriptorIndex := 339, attributes := #[] }, { accessFlags := 8, nameIndex := 338, descriptorIndex := 339, attributes := #[] }, { accessFlags := 4120, nameIndex := 245, descriptorIndex := 246, attributes := #[] }])
  fields := #[{ name := "E", type := .double, accessFlags := 25, slot := 0, constantValue := 0 }, { name := "PI", type := .double, accessFlags := 25, slot := 1, constantValue := 0 }, { name := "TAU", type := .double, accessFlags := 25, slot := 2, constantValue := 0 }, { name := "DEGREES_TO_RADIANS", type := .double, accessFlags := 26, slot := 3, constantValue := 0 }, { name := "RADIANS_TO_DEGREES", type := .double, accessFlags := 26, slot := 4, constantValue := 0 }, { name := "negativeZeroFloatBits", type := .long, accessFlags := 26, slot := 5, constantValue := 0 }, { name := "negativeZeroDoubleBits", type := .long, accessFlags := 26, slot := 6, constantValue := 0 }, { name := "twoToTheDoubleScaleUp", type := .double, accessFlags := 8, slot := 7, constantValue := 0 }, { name := "twoToTheDoubleScaleDown", type := .double, accessFlags := 8, slot := 8, constantValue := 0 }, { name := "$assertionsDisabled", type := .boolean, accessFlags := 4120, slot := 9, constantValue := 0 }]
  methods := #[k2m0, k2m1, k2m2]
  instanceTypes := #[]
  staticTypes := #[.double, .double, .double, .double, .double, .long, .long, .double, .double, .boolean]
  resolved := Array.replicate 460 none
  statics := none }

def pool3 : Array CpInfo := pool [(1, .methodref 2 3), (0, .class_ 4), (0, .nameAndType 5 6), (0, u "java/lang/Object"), (0, u "<init>"), (0, u "()V"), (0, .fieldref 8 9), (0, .class_ 10), (0, .nameAndType 11 12), (0, u "com/example/fuzzsub/fuzzsub/service/SparseVector"), (0, u "dimensions"), (0, u "[I"), (0, .fieldref 8 14), (0, .nameAndType 15 16), (0, u "values"), (0, u "[D"), (20, u "([I[D)V"), (13, u "ZERO"), (0, u "Lcom/example/fuzzsub/fuzzsub/service/SparseVector;"), (19, u "meets"), (0, u "(Lcom/example/fuzzsub/fuzzsub/service/SparseVector;)Z")] 7

def k3c0 : Code := { maxStack := 2, maxLocals := 3, code := prog_137_method_1_code, exceptionTable := #[], attributes := #[] }
def k3m0 : Method := { name := "<init>", desc := "([I[D)V", sig := { parameters := [(.array .int), (.array .double)], returnType := none }, accessFlags := 0, code := some k3c0 }
def k3c1 : Code := { maxStack := 3, maxLocals := 4, code := prog_137_method_9_code, exceptionTable := #[], attributes := #[] }
def k3m1 : Method := { name := "meets", desc := "(Lcom/example/fuzzsub/fuzzsub/service/SparseVector;)Z", sig := { parameters := [(.object "com/example/fuzzsub/fuzzsub/service/SparseVector")], returnType := some .boolean }, accessFlags := 0, code := some k3c1 }
/-- com/example/fuzzsub/fuzzsub/service/SparseVector -/
def k3 : Class := { plain "com/example/fuzzsub/fuzzsub/service/SparseVector" (some 0) with
  accessFlags := 48
  interfaces := #[]
  cf := some (fileOf pool3 8 #[] #[{ accessFlags := 0, nameIndex := 5, descriptorIndex := 37, attributes := #[] }, { accessFlags := 0, nameIndex := 72, descriptorIndex := 73, attributes := #[] }] 48 2 #[] #[{ accessFlags := 24, nameIndex := 51, descriptorIndex := 52, attributes := #[] }, { accessFlags := 18, nameIndex := 11, descriptorIndex := 12, attributes := #[] }, { accessFlags := 18, nameIndex := 15, descriptorIndex := 16, attributes := #[] }])
  fields := #[{ name := "ZERO", type := (.object "com/example/fuzzsub/fuzzsub/service/SparseVector"), accessFlags := 24, slot := 0, constantValue := 0 }, { name := "dimensions", type := (.array .int), accessFlags := 18, slot := 0, constantValue := 0 }, { name := "values", type := (.array .double), accessFlags := 18, slot := 1, constantValue := 0 }]
  methods := #[k3m0, k3m1]
  instanceTypes := #[(.array .int), (.array .double)]
  staticTypes := #[(.object "com/example/fuzzsub/fuzzsub/service/SparseVector")]
  resolved := Array.replicate 81 none
  statics := none }

def pool4 : Array CpInfo := pool [(1, u "java/lang/Cloneable"), (0, .class_ 1), (0, u "java/lang/Object"), (0, .class_ 3)] 3

/-- java/lang/Cloneable -/
def k4 : Class := { plain "java/lang/Cloneable" (some 0) with
  accessFlags := 1537
  interfaces := #[]
  cf := some (fileOf pool4 2 #[] #[] 1537 4 #[] #[])
  fields := #[]
  methods := #[]
  instanceTypes := #[]
  staticTypes := #[]
  resolved := Array.replicate 8 none
  statics := none }

def pool5 : Array CpInfo := pool [(1, u "java/io/Serializable"), (0, .class_ 1), (0, u "java/lang/Object"), (0, .class_ 3)] 3

/-- java/io/Serializable -/
def k5 : Class := { plain "java/io/Serializable" (some 0) with
  accessFlags := 1537
  interfaces := #[]
  cf := some (fileOf pool5 2 #[] #[] 1537 4 #[] #[])
  fields := #[]
  methods := #[]
  instanceTypes := #[]
  staticTypes := #[]
  resolved := Array.replicate 8 none
  statics := none }

/-- the primitive byte -/
def k6 : Class := { plain "byte" none with kind := .primitive 'B', accessFlags := 0x411 }
/-- [B -/
def k7 : Class := { plain "[B" (some 0) with kind := .array 6 .byte, interfaces := #[4, 5], accessFlags := 1041 }

/-- the primitive double -/
def k8 : Class := { plain "double" none with kind := .primitive 'D', accessFlags := 0x411 }
/-- [D -/
def k9 : Class := { plain "[D" (some 0) with kind := .array 8 .double, interfaces := #[4, 5], accessFlags := 1041 }

/-- the primitive int -/
def k10 : Class := { plain "int" none with kind := .primitive 'I', accessFlags := 0x411 }
/-- [I -/
def k11 : Class := { plain "[I" (some 0) with kind := .array 10 .int, interfaces := #[4, 5], accessFlags := 1041 }

def heap : Heap := #[]
def classes : Array Class := #[k0, k1, k2, k3, k4, k5, k6, k7, k8, k9, k10, k11]
def interned : List (Array UInt16 × Addr) := []
def slotsUsed : Nat := 0
def theMethod : MethodId := ⟨1, 1⟩
def args0 : Array Value := #[.int 5, .int 2, .int 3, .int 4, .int 1]
def aboutOver (below : List Frame) : State where
  vm := { classes := classes, interned := interned.toArray }
  heap := heap
  slotsUsed := slotsUsed
  threads := #[{ frames := .invoking theMethod args0 :: below }]
def below0 : List Frame := [.native { method := ⟨0, 0⟩, args := #[] }]
def about1 : State := aboutOver below0
def p0 : Program := .bare "" "" ""
def e0 : Env := launch0.env 0 0 0
theorem w_frames : about1.frames = Frame.invoking theMethod args0 :: below0 := rfl
set_option maxRecDepth 65536 in
theorem w_args : argsFit about1.vm theMethod args0 = true := by decide +kernel
set_option maxRecDepth 65536 in
theorem w_heap : heapFits about1 = true := by decide +kernel
set_option maxRecDepth 65536 in
theorem w_runnable : about1.curStatus? = some .runnable := by decide +kernel
set_option maxRecDepth 65536 in
theorem w_alone : about1.alone = true := by decide +kernel
set_option maxRecDepth 65536 in
theorem w_named : about1.methodNamed? x = some theMethod := by decide +kernel
set_option maxRecDepth 65536 in
theorem w_hears : about1.hears theMethod below0 = true := by decide +kernel
set_option maxRecDepth 65536 in
theorem w_ripe : about1.ripe theMethod args0 below0 = true := by decide +kernel
theorem w_running : about1.status = .running := rfl
set_option maxRecDepth 65536 in
theorem w_room : about1.hasRoom e0.platform room_1 = true :=
  launch0.hasRoom_least _ room_1 (by decide +kernel) (by decide +kernel) (by decide +kernel) (by decide +kernel) (by decide +kernel) (by decide +kernel)
theorem allAtoms_all (ts : List Jvm.Cond) (a : Array Jvm.Value) (st : Jvm.State) : (allAtoms ts).before a st = ts.all (fun c => c.before a st) := by
  induction ts with
  | nil => rfl
  | cons c t ih =>
    show (Jvm.Cond.and c (allAtoms t)).before a st = _
    rw [Jvm.Cond.before_and, ih, List.all_cons]
def words1 : List Jvm.Cond := Jvm.Cond.code x code maxLocals ret :: tables_1
/-- a 'code' word, met by the world's own term for the bytes: nothing is compared byte by byte -/
theorem code_word {y : MethodName} {bytes : ByteArray} {mx : Nat} {rt : Option FieldType} {a : Array Value} {s : State} {m : MethodId} {meth : Method} {c : Code} (h1 : s.methodNamed? y = some m) (h2 : s.vm.method? m = some meth) (h3 : meth.code = some c) (h4 : c.code = bytes)
    (h5 : (c.maxLocals == mx && c.exceptionTable.isEmpty && decide (c.maxStack ≤ mostOperands) && decide (meth.sig.returnType = rt) && !meth.locks && decide (parseMethodDescriptor y.desc = some meth.sig)) = true) : (Jvm.Cond.code y bytes mx rt).before a s = true := by
  simp only [Bool.and_eq_true, beq_iff_eq, Bool.not_eq_true', decide_eq_true_eq] at h5
  obtain ⟨⟨⟨⟨⟨g1, g2⟩, g3⟩, g4⟩, g5⟩, g6⟩ := h5
  simp [Cond.before, Cond.holds, Cond.value, h1, h2, h3, h4, g1, g2, g3, g4, g5, g6]
def isCode : Jvm.Cond → Bool
  | .code _ _ _ _ => true
  | _ => false
theorem all_split {L : List Jvm.Cond} {P : Jvm.Cond → Bool} (h1 : L.all (fun c => isCode c || P c) = true) (h2 : ∀ c ∈ L.filter isCode, P c = true) : L.all P = true := by
  refine List.all_eq_true.mpr fun c hc => ?_
  have h := List.all_eq_true.mp h1 c hc
  rcases Bool.eq_false_or_eq_true (isCode c) with hi | hi
  · exact h2 c (List.mem_filter.mpr ⟨hc, hi⟩)
  · simpa [hi] using h
set_option maxRecDepth 65536 in
theorem w_c0 : (Jvm.Cond.code x code maxLocals ret).before args0 about1 = true := code_word (m := ⟨1, 1⟩) (meth := k1m1) (c := k1c1) (by decide +kernel) rfl rfl rfl (by decide +kernel)
set_option maxRecDepth 65536 in
theorem w_c1 : (Jvm.Cond.code ({ cls := "java/lang/Math", name := "min", desc := "(II)I" } : Jvm.MethodName) jdk_29_method_69_code (2 : Nat) (Option.some Jvm.ClassFile.FieldType.int)).before args0 about1 = true := code_word (m := ⟨2, 2⟩) (meth := k2m2) (c := k2c2) (by decide +kernel) rfl rfl rfl (by decide +kernel)
set_option maxRecDepth 65536 in
theorem w_c2 : (Jvm.Cond.code ({ cls := "java/lang/Math", name := "max", desc := "(II)I" } : Jvm.MethodName) jdk_29_method_65_code (2 : Nat) (Option.some Jvm.ClassFile.FieldType.int)).before args0 about1 = true := code_word (m := ⟨2, 1⟩) (meth := k2m1) (c := k2c1) (by decide +kernel) rfl rfl rfl (by decide +kernel)
set_option maxRecDepth 65536 in
theorem w_c3 : (Jvm.Cond.code ({ cls := "com/example/fuzzsub/fuzzsub/service/SparseVectorMeetsPinLaw", name := "pick", desc := "([II)[I" } : Jvm.MethodName) method_3_code (5 : Nat) (Option.some (Jvm.ClassFile.FieldType.array Jvm.ClassFile.FieldType.int))).before args0 about1 = true := code_word (m := ⟨1, 2⟩) (meth := k1m2) (c := k1c2) (by decide +kernel) rfl rfl rfl (by decide +kernel)
set_option maxRecDepth 65536 in
theorem w_c4 : (Jvm.Cond.code ({ cls := "com/example/fuzzsub/fuzzsub/service/SparseVectorMeetsPinLaw", name := "add", desc := "([IIIZ)I" } : Jvm.MethodName) method_4_code (4 : Nat) (Option.some Jvm.ClassFile.FieldType.int)).before args0 about1 = true := code_word (m := ⟨1, 3⟩) (meth := k1m3) (c := k1c3) (by decide +kernel) rfl rfl rfl (by decide +kernel)
set_option maxRecDepth 65536 in
theorem w_c5 : (Jvm.Cond.code ({ cls := "com/example/fuzzsub/fuzzsub/service/SparseVectorMeetsPinLaw", name := "values", desc := "(II)[D" } : Jvm.MethodName) method_5_code (3 : Nat) (Option.some (Jvm.ClassFile.FieldType.array Jvm.ClassFile.FieldType.double))).before args0 about1 = true := code_word (m := ⟨1, 4⟩) (meth := k1m4) (c := k1c4) (by decide +kernel) rfl rfl rfl (by decide +kernel)
set_option maxRecDepth 65536 in
theorem w_c6 : (Jvm.Cond.code ({ cls := "com/example/fuzzsub/fuzzsub/service/SparseVector", name := "<init>", desc := "([I[D)V" } : Jvm.MethodName) prog_137_method_1_code (3 : Nat) (Option.none : Option Jvm.ClassFile.FieldType)).before args0 about1 = true := code_word (m := ⟨3, 0⟩) (meth := k3m0) (c := k3c0) (by decide +kernel) rfl rfl rfl (by decide +kernel)
set_option maxRecDepth 65536 in
theorem w_c7 : (Jvm.Cond.code ({ cls := "java/lang/Object", name := "<init>", desc := "()V" } : Jvm.MethodName) object_method_1_code (1 : Nat) (Option.none : Option Jvm.ClassFile.FieldType)).before args0 about1 = true := code_word (m := ⟨0, 0⟩) (meth := k0m0) (c := k0c0) (by decide +kernel) rfl rfl rfl (by decide +kernel)
set_option maxRecDepth 65536 in
theorem w_c8 : (Jvm.Cond.code ({ cls := "com/example/fuzzsub/fuzzsub/service/SparseVectorMeetsPinLaw", name := "has", desc := "([I[II)Z" } : Jvm.MethodName) method_6_code (4 : Nat) (Option.some Jvm.ClassFile.FieldType.boolean)).before args0 about1 = true := code_word (m := ⟨1, 5⟩) (meth := k1m5) (c := k1c5) (by decide +kernel) rfl rfl rfl (by decide +kernel)
set_option maxRecDepth 65536 in
theorem w_c9 : (Jvm.Cond.code ({ cls := "com/example/fuzzsub/fuzzsub/service/SparseVector", name := "meets", desc := "(Lcom/example/fuzzsub/fuzzsub/service/SparseVector;)Z" } : Jvm.MethodName) prog_137_method_9_code (4 : Nat) (Option.some Jvm.ClassFile.FieldType.boolean)).before args0 about1 = true := code_word (m := ⟨3, 1⟩) (meth := k3m1) (c := k3c1) (by decide +kernel) rfl rfl rfl (by decide +kernel)
def codes1 : List Jvm.Cond := [Jvm.Cond.code x code maxLocals ret, Jvm.Cond.code ({ cls := "java/lang/Math", name := "min", desc := "(II)I" } : Jvm.MethodName) jdk_29_method_69_code (2 : Nat) (Option.some Jvm.ClassFile.FieldType.int), Jvm.Cond.code ({ cls := "java/lang/Math", name := "max", desc := "(II)I" } : Jvm.MethodName) jdk_29_method_65_code (2 : Nat) (Option.some Jvm.ClassFile.FieldType.int), Jvm.Cond.code ({ cls := "com/example/fuzzsub/fuzzsub/service/SparseVectorMeetsPinLaw", name := "pick", desc := "([II)[I" } : Jvm.MethodName) method_3_code (5 : Nat) (Option.some (Jvm.ClassFile.FieldType.array Jvm.ClassFile.FieldType.int)), Jvm.Cond.code ({ cls := "com/example/fuzzsub/fuzzsub/service/SparseVectorMeetsPinLaw", name := "add", desc := "([IIIZ)I" } : Jvm.MethodName) method_4_code (4 : Nat) (Option.some Jvm.ClassFile.FieldType.int), Jvm.Cond.code ({ cls := "com/example/fuzzsub/fuzzsub/service/SparseVectorMeetsPinLaw", name := "values", desc := "(II)[D" } : Jvm.MethodName) method_5_code (3 : Nat) (Option.some (Jvm.ClassFile.FieldType.array Jvm.ClassFile.FieldType.double)), Jvm.Cond.code ({ cls := "com/example/fuzzsub/fuzzsub/service/SparseVector", name := "<init>", desc := "([I[D)V" } : Jvm.MethodName) prog_137_method_1_code (3 : Nat) (Option.none : Option Jvm.ClassFile.FieldType), Jvm.Cond.code ({ cls := "java/lang/Object", name := "<init>", desc := "()V" } : Jvm.MethodName) object_method_1_code (1 : Nat) (Option.none : Option Jvm.ClassFile.FieldType), Jvm.Cond.code ({ cls := "com/example/fuzzsub/fuzzsub/service/SparseVectorMeetsPinLaw", name := "has", desc := "([I[II)Z" } : Jvm.MethodName) method_6_code (4 : Nat) (Option.some Jvm.ClassFile.FieldType.boolean), Jvm.Cond.code ({ cls := "com/example/fuzzsub/fuzzsub/service/SparseVector", name := "meets", desc := "(Lcom/example/fuzzsub/fuzzsub/service/SparseVector;)Z" } : Jvm.MethodName) prog_137_method_9_code (4 : Nat) (Option.some Jvm.ClassFile.FieldType.boolean)]
set_option maxRecDepth 65536 in
theorem codes_eq : words1.filter isCode = codes1 := rfl
theorem w_codes : ∀ c ∈ words1.filter isCode, c.before args0 about1 = true := by
  rw [codes_eq]
  intro c hc
  simp only [codes1, List.mem_cons, List.not_mem_nil, or_false] at hc
  rcases hc with rfl | rfl | rfl | rfl | rfl | rfl | rfl | rfl | rfl | rfl
  · exact w_c0
  · exact w_c1
  · exact w_c2
  · exact w_c3
  · exact w_c4
  · exact w_c5
  · exact w_c6
  · exact w_c7
  · exact w_c8
  · exact w_c9
set_option maxRecDepth 65536 in
theorem w_t1 : (words1.take 24).all (fun c => isCode c || c.before args0 about1) = true := by decide +kernel
set_option maxRecDepth 65536 in
theorem w_t2 : (words1.drop 24).all (fun c => isCode c || c.before args0 about1) = true := by decide +kernel
theorem w_tables : (allAtoms (Jvm.Cond.code x code maxLocals ret :: tables_1)).before args0 about1 = true := by
  rw [allAtoms_all]
  show words1.all (fun c => c.before args0 about1) = true
  refine all_split ?_ w_codes
  rw [← List.take_append_drop 24 words1, List.all_append, w_t1, w_t2]
  rfl
set_option maxRecDepth 65536 in
theorem w_case : (Jvm.Cond.and given_1 narrow_1).before args0 about1 = true := by decide +kernel
theorem w_applies : (headSpec (Jvm.Cond.code x code maxLocals ret :: tables_1) room_1).applies x e0.platform about1 = true :=
  (Spec.applies_iff w_frames).mpr ⟨w_running, w_runnable, w_alone, w_named, w_hears, w_ripe, w_room, w_tables⟩
theorem atStart : AtStart classFile x code maxLocals ret World_1 tables_1 room_1 Calls_1 rest_1 Pre_1 launch0 p0 e0 about1 theMethod args0 below0 :=
  ⟨lists_1, trivial, launch0.admits_env _ _ _, launch0.least_env, fairChoices_fair.cas, fairChoices_fair.clock, w_frames, w_args, w_heap, w_applies, trivial, trivial, w_case⟩
end start1
theorem witness_1 : WitnessClaimed_1 := ⟨start1.p0, start1.e0, start1.about1, start1.theMethod, start1.args0, start1.below0, start1.atStart⟩
end Jvm.Pilot.@@N@@
