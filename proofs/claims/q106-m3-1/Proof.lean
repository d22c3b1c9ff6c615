import JvmDerived
import JvmDerived.Pilot.@@N@@Statement
import JvmDerived.Pilot.@@N@@Code
set_option linter.unusedVariables false
set_option linter.unusedSimpArgs false
namespace Jvm.Pilot.@@N@@
open Jvm Jvm.ClassFile Sem Op Lib Jvm.Free Jvm.Stand Jvm.LawKit Jvm.RoadKit Bundle Jvm.Pilot.@@N@@.Jvm.D
section OwnKit
def own_Go (tb : Tables) (e : Env) (below : List Frame) (P : State → Outcome → Prop) (S : State) : Prop := ∃ s₂ o, Steps tb e below S s₂ ∧ s₂.status = .running ∧ Ended s₂ below o ∧ P s₂ o
theorem own_Go.st {tb : Tables} {e : Env} {below : List Frame} {P : State → Outcome → Prop} {S S' : State} (g : own_Go tb e below P S') (h : ∀ t, Steps tb e below S' t → Steps tb e below S t) : own_Go tb e below P S := by
  obtain ⟨s₂, o, h1, h2⟩ := g; exact ⟨s₂, o, h _ h1, h2⟩
/-- the heap: all that stood at the start stands; the listed new cells, all different, are as their predicates say -/
def own_H (h0 h : Heap) (L : List (Addr × (Cell → Prop))) : Prop := Ext h0 h ∧ (∀ q ∈ L, h0.size ≤ q.1 ∧ ∃ c, h[q.1]? = some c ∧ q.2 c) ∧ (L.map (·.1)).Nodup
def own_ex (Z : State) (C : String) (c : Cell) : Prop := ∃ k : Class, Z.vm.findClass C = some c.cls ∧ Z.vm.classes[c.cls]? = some k ∧ c.vm.isStatics = false ∧ (k.kind = .ordinary → c.slots.size = k.instanceTypes.size)
def own_fd (Z : State) (C n d : String) (v : Value) (c : Cell) : Prop := ∃ (cf : ClassId) (k : Class) (i : Nat) (f : Field), Z.fieldFound? C n d = some (cf, k, i, f) ∧ f.isStatic = false ∧ c.vm ≠ .unknown ∧ c.vm.isStatics = false ∧ Z.vm.assignable c.cls cf = true ∧ c.slots[f.slot]? = some v
def own_ob (Z : State) (C : String) (fs : List (String × String × Value)) (c : Cell) : Prop := own_ex Z C c ∧ ∀ q ∈ fs, own_fd Z C q.1 q.2.1 q.2.2 c
def own_ar (Z : State) (ty : FieldType) (vs : List Value) (c : Cell) : Prop := Z.isArrayOf c ty ∧ c.vm ≠ .unknown ∧ c.slots.toList = vs ∧ own_ex Z ("[" ++ ty.toString) c
def own_lay (Z : State) (a0 : Array Value) (C : String) : List (String × String × FieldType) → Prop
  | [] => True
  | q :: r => (Laid Z a0 C C q.1 q.2.1 ∧ parseFieldDescriptor q.2.1 = some q.2.2) ∧ own_lay Z a0 C r
theorem own_lay.mem {Z : State} {a0 : Array Value} {C : String} : ∀ {N : List (String × String × FieldType)}, own_lay Z a0 C N → ∀ q ∈ N, Laid Z a0 C C q.1 q.2.1 ∧ parseFieldDescriptor q.2.1 = some q.2.2
  | [], _, _, h => nomatch h
  | _ :: _, ⟨h1, h2⟩, q, h => (List.mem_cons.mp h).elim (fun e => e ▸ h1) (own_lay.mem h2 q)
def own_S (p : Program) (l : Launch) (e : Env) (R : Room) (s : State) (m : MethodId) (args : Array Value) (below : List Frame) (meth : Method) (c : Code) (Z T : State) (L : List (Addr × (Cell → Prop))) (k n : Nat) : Prop :=
  ∃ locs, Stand p l e R s m args below meth c T locs k n ∧ Fr Z.heap.size locs ∧ own_H Z.heap T.heap L
def own_C (p : Program) (s : State) (m : MethodId) (meth : Method) (c : Code) (Z : State) (own nm : String) (code : ByteArray) (ml : Nat) (rt : Option FieldType) : Prop :=
  p.tables.exec = Jvm.exec ∧ c.code = code ∧ c.maxLocals = ml ∧ Z.Warmed39 s.vm ∧ s.vm.findClass own = some m.cls ∧ meth.name = nm ∧ meth.sig.returnType = rt ∧ meth.locks = false
def own_E (Z s : State) (R : Room) (Q : Option Value → List (Addr × (Cell → Prop)) → Prop) (t : State) (o : Outcome) : Prop :=
  ∃ v L locs, o = .returned v ∧ Q v L ∧ own_H Z.heap t.heap L ∧ Fr Z.heap.size locs ∧ FrameEnd s o t locs R.cells R.slots
def own_Con (l : Launch) (Z : State) (y : MethodName) (bytes : ByteArray) (maxL : Nat) (ret : Option FieldType) (rm : Room) (as' : Array Value) (L : List (Addr × (Cell → Prop))) (Q : Option Value → List (Addr × (Cell → Prop)) → Prop) : Prop :=
  ∀ ws, MetFree l y (head1 (Jvm.Cond.code y bytes maxL ret :: ws) rm) (fun a U => a = as' ∧ Z.Warmed39 U.vm ∧ own_H Z.heap U.heap L) (fun _ _ _ _ _ => True) (fun _ U o U' => own_E Z U rm Q U' o)
/-! the heap's list -/
section Heaps
variable {h0 h h' : Heap} {L : List (Addr × (Cell → Prop))} {a : Addr} {Pq Pq' : Cell → Prop} {i : Nat}
theorem own_H.get (H : own_H h0 h L) (hi : L[i]? = some (a, Pq)) : h0.size ≤ a ∧ ∃ c, h[a]? = some c ∧ Pq c := H.2.1 _ (List.mem_of_getElem? hi)
theorem own_H.lt (H : own_H h0 h L) : ∀ q ∈ L, q.1 < h.size := fun q hq => by
  obtain ⟨-, c, h1, -⟩ := H.2.1 q hq; exact (Array.getElem?_eq_some_iff.mp h1).1
theorem own_H.push (H : own_H h0 h L) (E : Ext h h') {c : Cell} (hc : h'[h.size]? = some c) (hP : Pq c) : own_H h0 h' ((h.size, Pq) :: L) := by
  refine ⟨⟨Nat.le_trans H.1.1 E.1, fun a c q => E.2 a c (H.1.2 a c q)⟩, fun q hq => ?_, ?_⟩
  · rcases List.mem_cons.mp hq with rfl | hq
    · exact ⟨H.1.1, c, hc, hP⟩
    · obtain ⟨h1, c', h2, h3⟩ := H.2.1 q hq; exact ⟨h1, c', E.2 _ _ h2, h3⟩
  · rw [List.map_cons, List.nodup_cons]
    refine ⟨fun hm => ?_, H.2.2⟩
    obtain ⟨q, hq, e⟩ := List.mem_map.mp hm
    exact absurd (H.lt q hq) (by rw [show q.1 = h.size from e]; exact Nat.lt_irrefl _)
theorem own_setmem {α : Type} : ∀ {L : List α} {i : Nat} {x q : α}, q ∈ L.set i x → q = x ∨ ∃ j, j ≠ i ∧ L[j]? = some q
  | [], _, _, _, h => nomatch h
  | y :: L, 0, x, q, h => by
    rcases List.mem_cons.mp h with rfl | h
    · exact Or.inl rfl
    · obtain ⟨j, hj⟩ := List.mem_iff_getElem?.mp h
      exact Or.inr ⟨j + 1, by omega, hj⟩
  | y :: L, i + 1, x, q, h => by
    rcases List.mem_cons.mp h with rfl | h
    · exact Or.inr ⟨0, by omega, rfl⟩
    · rcases own_setmem h with e | ⟨j, hj, e⟩
      · exact Or.inl e
      · exact Or.inr ⟨j + 1, by omega, e⟩
theorem own_nodup_ne {α : Type} {L : List α} (h : L.Nodup) {i j : Nat} {x y : α} (hi : L[i]? = some x) (hj : L[j]? = some y) (hn : i ≠ j) : x ≠ y := fun e => by
  subst e
  obtain ⟨hi1, hi2⟩ := List.getElem?_eq_some_iff.mp hi
  obtain ⟨hj1, hj2⟩ := List.getElem?_eq_some_iff.mp hj
  have hp := List.pairwise_iff_getElem.mp h
  rcases Nat.lt_or_gt_of_ne hn with q | q
  · exact hp i j hi1 hj1 q (hi2.trans hj2.symm)
  · exact hp j i hj1 hi1 q (hj2.trans hi2.symm)
theorem own_setself {α : Type} {L : List α} {i : Nat} {x : α} (h : L[i]? = some x) : L.set i x = L := by
  obtain ⟨h1, h2⟩ := List.getElem?_eq_some_iff.mp h
  rw [← h2]; exact List.set_getElem_self h1
theorem own_erase {α : Type} : ∀ (L : List α) (i : Nat) (x : α), L[i]? = some x → L.Perm (x :: L.eraseIdx i)
  | [], i, x, h => by simp at h
  | y :: L, 0, x, h => by simp at h; subst h; exact List.Perm.refl _
  | y :: L, i + 1, x, h => by
    have q := own_erase L i x (by simpa using h)
    exact (q.cons y).trans (List.Perm.swap x y _)
theorem own_H.set (H : own_H h0 h L) (hi : L[i]? = some (a, Pq)) {sl : Nat} {v : Value} (W : Wr h h' a sl v) (hP : ∀ c : Cell, Pq c → sl < c.slots.size → Pq' (c.setSlot sl v)) : own_H h0 h' (L.set i (a, Pq')) := by
  have hE : Ext h0 h' := by
    refine ⟨by rw [W.size]; exact H.1.1, fun b cb hb => ?_⟩
    obtain ⟨cb', h1, -, -, -, h2, -⟩ := wr_at W (H.1.2 b cb hb)
    have : b ≠ a := by
      have q1 := (Array.getElem?_eq_some_iff.mp hb).1
      have q2 := (H.get hi).1
      intro e; rw [e] at q1; exact absurd q1 (Nat.not_lt.mpr q2)
    rw [h2 this] at h1; exact h1
  refine ⟨hE, fun q hq => ?_, ?_⟩
  · rcases own_setmem hq with rfl | ⟨j, hj, e⟩
    · obtain ⟨h1, c, h2, h3⟩ := H.get hi
      obtain ⟨cb', g1, -, -, -, -, -, g2⟩ := wr_at W h2
      obtain ⟨g3, -, -⟩ := g2 rfl
      subst g3
      refine ⟨h1, _, g1, hP c h3 ?_⟩
      obtain ⟨cc, w1, -, w3, -⟩ := W
      rw [h2] at w1; cases w1; exact w3
    · obtain ⟨h1, c, h2, h3⟩ := H.2.1 q (List.mem_of_getElem? e)
      obtain ⟨cb', g1, -, -, -, g2, -⟩ := wr_at W h2
      have hne : q.1 ≠ a := own_nodup_ne (L := L.map (·.1)) H.2.2 (i := j) (j := i) (by rw [List.getElem?_map, e]; rfl) (by rw [List.getElem?_map, hi]; rfl) hj
      rw [g2 hne] at g1
      exact ⟨h1, c, g1, h3⟩
  · have : (L.set i (a, Pq')).map (·.1) = L.map (·.1) := by
      rw [List.map_set]
      have : (L.map (·.1))[i]? = some a := by rw [List.getElem?_map, hi]; rfl
      exact own_setself this
    rw [this]; exact H.2.2
theorem own_H.sub {M : List (Addr × (Cell → Prop))} (H : own_H h0 h L) (hs : M.Sublist L) : own_H h0 h M :=
  ⟨H.1, fun q hq => H.2.1 q (hs.subset hq), H.2.2.sublist (hs.map _)⟩
theorem own_H.perm {M : List (Addr × (Cell → Prop))} (H : own_H h0 h L) (hs : L.Perm M) : own_H h0 h M :=
  ⟨H.1, fun q hq => H.2.1 q (hs.mem_iff.mpr hq), (hs.map _).nodup_iff.mp H.2.2⟩
theorem own_H.bring (H : own_H h0 h L) (hi : L[i]? = some (a, Pq)) : own_H h0 h ((a, Pq) :: L.eraseIdx i) := by
  exact H.perm (own_erase L i _ hi)
theorem own_H.imp (H : own_H h0 h L) (hi : L[i]? = some (a, Pq)) (hP : ∀ c, Pq c → Pq' c) : own_H h0 h (L.set i (a, Pq')) := by
  refine ⟨H.1, fun q hq => ?_, ?_⟩
  · rcases own_setmem hq with rfl | ⟨j, hj, e⟩
    · obtain ⟨h1, c, h2, h3⟩ := H.get hi; exact ⟨h1, c, h2, hP c h3⟩
    · exact H.2.1 q (List.mem_of_getElem? e)
  · have : (L.set i (a, Pq')).map (·.1) = L.map (·.1) := by
      rw [List.map_set]
      have : (L.map (·.1))[i]? = some a := by rw [List.getElem?_map, hi]; rfl
      exact own_setself this
    rw [this]; exact H.2.2
theorem own_H.ne (H : own_H h0 h L) {j : Nat} {b : Addr} {Pb : Cell → Prop} (hi : L[i]? = some (a, Pq)) (hj : L[j]? = some (b, Pb)) (hn : i ≠ j) : a ≠ b :=
  own_nodup_ne (L := L.map (·.1)) H.2.2 (i := i) (j := j) (by rw [List.getElem?_map, hi]; rfl) (by rw [List.getElem?_map, hj]; rfl) hn
theorem own_ex.exa {Z : State} {C : String} {c : Cell} (hc : h[a]? = some c) (E : own_ex Z C c) : Exa Z h a C := by obtain ⟨k, r⟩ := E; exact ⟨c, k, hc, r⟩
theorem own_ex.of {Z : State} {C : String} (E : Exa Z h a C) {c : Cell} (hc : h[a]? = some c) : own_ex Z C c := by obtain ⟨c', k, h1, r⟩ := E; cases h1.symm.trans hc; exact ⟨k, r⟩
theorem own_fd.fld {Z : State} {C n d : String} {v : Value} {c : Cell} (hc : h[a]? = some c) (E : own_fd Z C n d v c) : Fld Z h a C n d v := by obtain ⟨cf, k, i, f, r⟩ := E; exact ⟨c, cf, k, i, f, hc, r⟩
theorem own_fd.of {Z : State} {C n d : String} {v : Value} {c : Cell} (hc : h[a]? = some c) (E : Fld Z h a C n d v) : own_fd Z C n d v c := by obtain ⟨c', cf, k, i, f, h1, r⟩ := E; cases h1.symm.trans hc; exact ⟨cf, k, i, f, r⟩
theorem own_fL {Z : State} {ix j : Nat} {K f d : String} {v : Value} {fs : List (String × String × Value)} (hi : L[ix]? = some (a, own_ob Z K fs)) (hj : fs[j]? = some (f, d, v)) (H : own_H h0 h L) : Fld Z h a K f d v := by
  obtain ⟨-, cc, h1, h2⟩ := H.get hi
  exact (h2.2 _ (List.mem_of_getElem? hj)).fld h1
theorem own_fO {Z : State} {K f d : String} {v : Value} (F : Fld Z h0 a K f d v) (H : own_H h0 h L) : Fld Z h a K f d v := F.ext H.1
theorem own_eL {Z : State} {ix : Nat} {K : String} {fs : List (String × String × Value)} (hi : L[ix]? = some (a, own_ob Z K fs)) (H : own_H h0 h L) : Exa Z h a K := by
  obtain ⟨-, cc, h1, h2⟩ := H.get hi
  exact h2.1.exa h1
theorem own_eO {Z : State} {K : String} (F : Exa Z h0 a K) (H : own_H h0 h L) : Exa Z h a K := F.ext H.1
theorem own_ar.arr {Z : State} {ty : FieldType} {vs : List Value} {c : Cell} (hc : h[a]? = some c) (E : own_ar Z ty vs c) : Arr Z h a c ty := ⟨hc, E.1, E.2.1⟩
end Heaps

variable {p : Program} {l : Launch} {e : Env} {R : Room} {s : State} {m : MethodId} {args : Array Value} {below : List Frame} {meth : Method} {c : Code} {Z T : State} {L : List (Addr × (Cell → Prop))} {k n : Nat} {own nm : String} {code : ByteArray} {ml : Nat} {rt : Option FieldType} {P : State → Outcome → Prop} {pc npc tpc : Nat} {ls : Array Slot} {st : List Value} {a0 : Array Value}
theorem own_S.stand (X : own_S p l e R s m args below meth c Z T L k n) : ∃ locs, Stand p l e R s m args below meth c T locs k n := by obtain ⟨locs, X, -⟩ := X; exact ⟨locs, X⟩
theorem own_S.heap (X : own_S p l e R s m args below meth c Z T L k n) : own_H Z.heap T.heap L := by obtain ⟨_, _, _, h⟩ := X; exact h
theorem own_S.more (X : own_S p l e R s m args below meth c Z T L k n) {k' n' : Nat} (hk : k ≤ k') (hn : n ≤ n') : own_S p l e R s m args below meth c Z T L k' n' := by obtain ⟨locs, X, h⟩ := X; exact ⟨locs, X.more hk hn, h⟩
theorem own_S.re (X : own_S p l e R s m args below meth c Z T L k n) {M : List (Addr × (Cell → Prop))} (h : own_H Z.heap T.heap L → own_H Z.heap T.heap M) : own_S p l e R s m args below meth c Z T M k n := by obtain ⟨locs, X, h1, h2⟩ := X; exact ⟨locs, X, h1, h h2⟩
theorem own_S.bring (X : own_S p l e R s m args below meth c Z T L k n) {i : Nat} {a : Addr} {Pq : Cell → Prop} (hi : L[i]? = some (a, Pq)) {M : List (Addr × (Cell → Prop))} (hM : (a, Pq) :: L.eraseIdx i = M) : own_S p l e R s m args below meth c Z T M k n := by subst hM; exact X.re fun H => H.bring hi

theorem own_swap3 {a1 a2 a3 b1 b2 b3 : Addr × (Cell → Prop)} (X : own_S p l e R s m args below meth c Z T (a1 :: a2 :: a3 :: b1 :: b2 :: b3 :: L) k n) : own_S p l e R s m args below meth c Z T (b1 :: b2 :: b3 :: a1 :: a2 :: a3 :: L) k n :=
  X.re fun H => H.perm ((List.perm_append_comm (l₁ := [a1, a2, a3]) (l₂ := [b1, b2, b3])).append_right L)

def own_locs : List Value → List Slot
  | [] => []
  | v :: r => if v.category = 2 then .val v :: .second :: own_locs r else .val v :: own_locs r
theorem own_locs_fold : ∀ (l : List Value) (acc : Array Slot), (l.foldl (fun acc v => if v.category = 2 then (acc.push (.val v)).push .second else acc.push (.val v)) acc).toList = acc.toList ++ own_locs l
  | [], acc => (List.append_nil _).symm
  | v :: r, acc => by
    rw [List.foldl_cons, own_locs_fold r]
    by_cases h : v.category = 2
    · rw [if_pos h]; show _ = acc.toList ++ (if v.category = 2 then _ else _); rw [if_pos h, Array.toList_push, Array.toList_push, List.append_assoc, List.append_assoc]; rfl
    · rw [if_neg h]; show _ = acc.toList ++ (if v.category = 2 then _ else _); rw [if_neg h, Array.toList_push, List.append_assoc]; rfl
theorem own_ent (m : MethodId) {as : List Value} {n : Nat} {ls : List Slot} (h : own_locs as ++ List.replicate (n - (own_locs as).length) .unset = ls) : entryFrame m as.toArray n = mkF m 0 ls.toArray [] := by
  have e : argsToLocals as.toArray n = ls.toArray := by
    apply Array.toList_inj.mp
    have q := own_locs_fold as #[]
    rw [show (#[] : Array Slot).toList = [] from rfl, List.nil_append] at q
    show ((as.toArray.foldl (fun (acc : Array Slot) (v : Value) => if v.category = 2 then (acc.push (.val v)).push .second else acc.push (.val v)) #[]) ++ Array.replicate (n - (as.toArray.foldl (fun (acc : Array Slot) (v : Value) => if v.category = 2 then (acc.push (.val v)).push .second else acc.push (.val v)) #[]).size) Slot.unset).toList = ls
    rw [List.foldl_toArray']
    · show (_ ++ _ : Array Slot).toList = ls
      rw [Array.toList_append, q, Array.toList_replicate, ← Array.length_toList, q]; exact h
    all_goals first | rfl | simp
  show ({ method := m, pc := 0, locals := argsToLocals as.toArray n, stack := [], locked := none } : JFrame) = _
  rw [e]

theorem own_con {y : MethodName} {bytes : ByteArray} {maxL : Nat} {ret : Option FieldType} {rm : Room} {as' : Array Value} {Q : Option Value → List (Addr × (Cell → Prop)) → Prop} (hx : plainFor y = true) (hent : ∀ m, entryFrame m as' maxL = mkF m 0 ls [])
    (body : ∀ p e s m below meth c T, own_C p s m meth c Z y.cls y.name bytes maxL ret → own_S p l e rm s m as' below meth c Z T L 0 0 → own_Go p.tables e below (own_E Z s rm Q) (T.setTop (mkF m 0 ls []))) : own_Con l Z y bytes maxL ret rm as' L Q := by
  intro ws
  refine MetFree.of_bodySF hx hisR ?_
  intro p e s m args below meth c s₁ Bd hml hP hK
  obtain ⟨rfl, hZ, hH⟩ := hP
  have hnm := (name_of_methodNamed Bd.named Bd.method).1
  have X0 : Stand p l e rm s m args below meth c s₁ [] 0 0 := Stand.of_body Bd
  have q := body p e s m below meth c s₁ ⟨Bd.exec, Bd.bytes, hml, hZ, findClass_of_methodNamed Bd.named, hnm, Bd.returns, Bd.notSynchronized⟩ ⟨[], X0, Fr.nil _, by rw [Bd.state]; exact hH⟩
  rw [← hent] at q
  exact q

theorem k_iadd (C : own_C p s m meth c Z own nm code ml rt) (X : own_S p l e R s m args below meth c Z T L k n) {x y : Int32} (hd : decode code pc = .ok (.iadd, 1)) (hp : pc + 1 = npc) (g : own_Go p.tables e below P (T.setTop (mkF m npc ls (.int (x + y) :: st)))) : own_Go p.tables e below P (T.setTop (mkF m pc ls (.int y :: .int x :: st))) := by
  subst hp; obtain ⟨_, X, -, -⟩ := X
  exact g.st fun t k => Jvm.Free.XS.iadd X.here C.1 rfl (hb C.2.1 hd) rfl k
theorem k_isub (C : own_C p s m meth c Z own nm code ml rt) (X : own_S p l e R s m args below meth c Z T L k n) {x y : Int32} (hd : decode code pc = .ok (.isub, 1)) (hp : pc + 1 = npc) (g : own_Go p.tables e below P (T.setTop (mkF m npc ls (.int (x - y) :: st)))) : own_Go p.tables e below P (T.setTop (mkF m pc ls (.int y :: .int x :: st))) := by
  subst hp; obtain ⟨_, X, -, -⟩ := X
  exact g.st fun t k => Jvm.Free.XS.isub X.here C.1 rfl (hb C.2.1 hd) rfl k
theorem k_imul (C : own_C p s m meth c Z own nm code ml rt) (X : own_S p l e R s m args below meth c Z T L k n) {x y : Int32} (hd : decode code pc = .ok (.imul, 1)) (hp : pc + 1 = npc) (g : own_Go p.tables e below P (T.setTop (mkF m npc ls (.int (x * y) :: st)))) : own_Go p.tables e below P (T.setTop (mkF m pc ls (.int y :: .int x :: st))) := by
  subst hp; obtain ⟨_, X, -, -⟩ := X
  exact g.st fun t k => Jvm.Free.XS.imul X.here C.1 rfl (hb C.2.1 hd) rfl k
theorem k_iand (C : own_C p s m meth c Z own nm code ml rt) (X : own_S p l e R s m args below meth c Z T L k n) {x y : Int32} (hd : decode code pc = .ok (.iand, 1)) (hp : pc + 1 = npc) (g : own_Go p.tables e below P (T.setTop (mkF m npc ls (.int (x &&& y) :: st)))) : own_Go p.tables e below P (T.setTop (mkF m pc ls (.int y :: .int x :: st))) := by
  subst hp; obtain ⟨_, X, -, -⟩ := X
  exact g.st fun t k => Jvm.Free.XS.iand X.here C.1 rfl (hb C.2.1 hd) rfl k
theorem k_ior (C : own_C p s m meth c Z own nm code ml rt) (X : own_S p l e R s m args below meth c Z T L k n) {x y : Int32} (hd : decode code pc = .ok (.ior, 1)) (hp : pc + 1 = npc) (g : own_Go p.tables e below P (T.setTop (mkF m npc ls (.int (x ||| y) :: st)))) : own_Go p.tables e below P (T.setTop (mkF m pc ls (.int y :: .int x :: st))) := by
  subst hp; obtain ⟨_, X, -, -⟩ := X
  exact g.st fun t k => Jvm.Free.XT.ior X.here C.1 rfl (hb C.2.1 hd) rfl k
theorem k_ixor (C : own_C p s m meth c Z own nm code ml rt) (X : own_S p l e R s m args below meth c Z T L k n) {x y : Int32} (hd : decode code pc = .ok (.ixor, 1)) (hp : pc + 1 = npc) (g : own_Go p.tables e below P (T.setTop (mkF m npc ls (.int (x ^^^ y) :: st)))) : own_Go p.tables e below P (T.setTop (mkF m pc ls (.int y :: .int x :: st))) := by
  subst hp; obtain ⟨_, X, -, -⟩ := X
  exact g.st fun t k => Jvm.Free.XT.ixor X.here C.1 rfl (hb C.2.1 hd) rfl k
theorem k_ishl (C : own_C p s m meth c Z own nm code ml rt) (X : own_S p l e R s m args below meth c Z T L k n) {x y : Int32} (hd : decode code pc = .ok (.ishl, 1)) (hp : pc + 1 = npc) (g : own_Go p.tables e below P (T.setTop (mkF m npc ls (.int (x <<< (y &&& 31)) :: st)))) : own_Go p.tables e below P (T.setTop (mkF m pc ls (.int y :: .int x :: st))) := by
  subst hp; obtain ⟨_, X, -, -⟩ := X
  exact g.st fun t k => Jvm.Free.XT.ishl X.here C.1 rfl (hb C.2.1 hd) rfl k
theorem k_ishr (C : own_C p s m meth c Z own nm code ml rt) (X : own_S p l e R s m args below meth c Z T L k n) {x y : Int32} (hd : decode code pc = .ok (.ishr, 1)) (hp : pc + 1 = npc) (g : own_Go p.tables e below P (T.setTop (mkF m npc ls (.int (x >>> (y &&& 31)) :: st)))) : own_Go p.tables e below P (T.setTop (mkF m pc ls (.int y :: .int x :: st))) := by
  subst hp; obtain ⟨_, X, -, -⟩ := X
  exact g.st fun t k => Jvm.Free.XT.ishr X.here C.1 rfl (hb C.2.1 hd) rfl k
theorem k_iushr (C : own_C p s m meth c Z own nm code ml rt) (X : own_S p l e R s m args below meth c Z T L k n) {x y : Int32} (hd : decode code pc = .ok (.iushr, 1)) (hp : pc + 1 = npc) (g : own_Go p.tables e below P (T.setTop (mkF m npc ls (.int (Jvm.Free.XT.ushr x y) :: st)))) : own_Go p.tables e below P (T.setTop (mkF m pc ls (.int y :: .int x :: st))) := by
  subst hp; obtain ⟨_, X, -, -⟩ := X
  exact g.st fun t k => Jvm.Free.XT.iushr X.here C.1 rfl (hb C.2.1 hd) rfl k
theorem k_ladd (C : own_C p s m meth c Z own nm code ml rt) (X : own_S p l e R s m args below meth c Z T L k n) {x y : Int64} (hd : decode code pc = .ok (.ladd, 1)) (hp : pc + 1 = npc) (g : own_Go p.tables e below P (T.setTop (mkF m npc ls (.long (x + y) :: st)))) : own_Go p.tables e below P (T.setTop (mkF m pc ls (.long y :: .long x :: st))) := by
  subst hp; obtain ⟨_, X, -, -⟩ := X
  exact g.st fun t k => Jvm.Free.XT.ladd X.here C.1 rfl (hb C.2.1 hd) rfl k
theorem k_lsub (C : own_C p s m meth c Z own nm code ml rt) (X : own_S p l e R s m args below meth c Z T L k n) {x y : Int64} (hd : decode code pc = .ok (.lsub, 1)) (hp : pc + 1 = npc) (g : own_Go p.tables e below P (T.setTop (mkF m npc ls (.long (x - y) :: st)))) : own_Go p.tables e below P (T.setTop (mkF m pc ls (.long y :: .long x :: st))) := by
  subst hp; obtain ⟨_, X, -, -⟩ := X
  exact g.st fun t k => Jvm.Free.XT.lsub X.here C.1 rfl (hb C.2.1 hd) rfl k
theorem k_lmul (C : own_C p s m meth c Z own nm code ml rt) (X : own_S p l e R s m args below meth c Z T L k n) {x y : Int64} (hd : decode code pc = .ok (.lmul, 1)) (hp : pc + 1 = npc) (g : own_Go p.tables e below P (T.setTop (mkF m npc ls (.long (x * y) :: st)))) : own_Go p.tables e below P (T.setTop (mkF m pc ls (.long y :: .long x :: st))) := by
  subst hp; obtain ⟨_, X, -, -⟩ := X
  exact g.st fun t k => Jvm.Free.XT.lmul X.here C.1 rfl (hb C.2.1 hd) rfl k
theorem k_land (C : own_C p s m meth c Z own nm code ml rt) (X : own_S p l e R s m args below meth c Z T L k n) {x y : Int64} (hd : decode code pc = .ok (.land, 1)) (hp : pc + 1 = npc) (g : own_Go p.tables e below P (T.setTop (mkF m npc ls (.long (x &&& y) :: st)))) : own_Go p.tables e below P (T.setTop (mkF m pc ls (.long y :: .long x :: st))) := by
  subst hp; obtain ⟨_, X, -, -⟩ := X
  exact g.st fun t k => Jvm.Free.XT.land X.here C.1 rfl (hb C.2.1 hd) rfl k
theorem k_lor (C : own_C p s m meth c Z own nm code ml rt) (X : own_S p l e R s m args below meth c Z T L k n) {x y : Int64} (hd : decode code pc = .ok (.lor, 1)) (hp : pc + 1 = npc) (g : own_Go p.tables e below P (T.setTop (mkF m npc ls (.long (x ||| y) :: st)))) : own_Go p.tables e below P (T.setTop (mkF m pc ls (.long y :: .long x :: st))) := by
  subst hp; obtain ⟨_, X, -, -⟩ := X
  exact g.st fun t k => Jvm.Free.XT.lor X.here C.1 rfl (hb C.2.1 hd) rfl k
theorem k_lxor (C : own_C p s m meth c Z own nm code ml rt) (X : own_S p l e R s m args below meth c Z T L k n) {x y : Int64} (hd : decode code pc = .ok (.lxor, 1)) (hp : pc + 1 = npc) (g : own_Go p.tables e below P (T.setTop (mkF m npc ls (.long (x ^^^ y) :: st)))) : own_Go p.tables e below P (T.setTop (mkF m pc ls (.long y :: .long x :: st))) := by
  subst hp; obtain ⟨_, X, -, -⟩ := X
  exact g.st fun t k => Jvm.Free.XT.lxor X.here C.1 rfl (hb C.2.1 hd) rfl k
theorem k_lshl (C : own_C p s m meth c Z own nm code ml rt) (X : own_S p l e R s m args below meth c Z T L k n) {x : Int64} {y : Int32} (hd : decode code pc = .ok (.lshl, 1)) (hp : pc + 1 = npc) (g : own_Go p.tables e below P (T.setTop (mkF m npc ls (.long (x <<< (y.toInt64 &&& 63)) :: st)))) : own_Go p.tables e below P (T.setTop (mkF m pc ls (.int y :: .long x :: st))) := by
  subst hp; obtain ⟨_, X, -, -⟩ := X
  exact g.st fun t k => Jvm.Free.XT.lshl X.here C.1 rfl (hb C.2.1 hd) rfl k
theorem k_lshr (C : own_C p s m meth c Z own nm code ml rt) (X : own_S p l e R s m args below meth c Z T L k n) {x : Int64} {y : Int32} (hd : decode code pc = .ok (.lshr, 1)) (hp : pc + 1 = npc) (g : own_Go p.tables e below P (T.setTop (mkF m npc ls (.long (x >>> (y.toInt64 &&& 63)) :: st)))) : own_Go p.tables e below P (T.setTop (mkF m pc ls (.int y :: .long x :: st))) := by
  subst hp; obtain ⟨_, X, -, -⟩ := X
  exact g.st fun t k => Jvm.Free.XT.lshr X.here C.1 rfl (hb C.2.1 hd) rfl k
theorem k_lushr (C : own_C p s m meth c Z own nm code ml rt) (X : own_S p l e R s m args below meth c Z T L k n) {x : Int64} {y : Int32} (hd : decode code pc = .ok (.lushr, 1)) (hp : pc + 1 = npc) (g : own_Go p.tables e below P (T.setTop (mkF m npc ls (.long (Jvm.Free.XT.ushrL x y) :: st)))) : own_Go p.tables e below P (T.setTop (mkF m pc ls (.int y :: .long x :: st))) := by
  subst hp; obtain ⟨_, X, -, -⟩ := X
  exact g.st fun t k => Jvm.Free.XT.lushr X.here C.1 rfl (hb C.2.1 hd) rfl k
theorem k_idiv (C : own_C p s m meth c Z own nm code ml rt) (X : own_S p l e R s m args below meth c Z T L k n) {x y : Int32} (hd : decode code pc = .ok (.idiv, 1)) (hp : pc + 1 = npc) (hy : y ≠ 0) (g : own_Go p.tables e below P (T.setTop (mkF m npc ls (.int (x / y) :: st)))) : own_Go p.tables e below P (T.setTop (mkF m pc ls (.int y :: .int x :: st))) := by
  subst hp; obtain ⟨_, X, -, -⟩ := X
  exact g.st fun t k => Jvm.Free.XS.idiv X.here C.1 rfl (hb C.2.1 hd) rfl hy k
theorem k_irem (C : own_C p s m meth c Z own nm code ml rt) (X : own_S p l e R s m args below meth c Z T L k n) {x y : Int32} (hd : decode code pc = .ok (.irem, 1)) (hp : pc + 1 = npc) (hy : y ≠ 0) (g : own_Go p.tables e below P (T.setTop (mkF m npc ls (.int (x % y) :: st)))) : own_Go p.tables e below P (T.setTop (mkF m pc ls (.int y :: .int x :: st))) := by
  subst hp; obtain ⟨_, X, -, -⟩ := X
  exact g.st fun t k => iremM X C.1 rfl (hb C.2.1 hd) rfl hy k
theorem k_ldiv (C : own_C p s m meth c Z own nm code ml rt) (X : own_S p l e R s m args below meth c Z T L k n) {x y : Int64} (hd : decode code pc = .ok (.ldiv, 1)) (hp : pc + 1 = npc) (hy : y ≠ 0) (g : own_Go p.tables e below P (T.setTop (mkF m npc ls (.long (x / y) :: st)))) : own_Go p.tables e below P (T.setTop (mkF m pc ls (.long y :: .long x :: st))) := by
  subst hp; obtain ⟨_, X, -, -⟩ := X
  exact g.st fun t k => Jvm.Free.XT.ldiv X.here C.1 rfl (hb C.2.1 hd) rfl hy k
theorem k_lrem (C : own_C p s m meth c Z own nm code ml rt) (X : own_S p l e R s m args below meth c Z T L k n) {x y : Int64} (hd : decode code pc = .ok (.lrem, 1)) (hp : pc + 1 = npc) (hy : y ≠ 0) (g : own_Go p.tables e below P (T.setTop (mkF m npc ls (.long (x - (x / y) * y) :: st)))) : own_Go p.tables e below P (T.setTop (mkF m pc ls (.long y :: .long x :: st))) := by
  subst hp; obtain ⟨_, X, -, -⟩ := X
  exact g.st fun t k => Jvm.Free.XT.lrem X.here C.1 rfl (hb C.2.1 hd) rfl hy k
theorem k_ineg (C : own_C p s m meth c Z own nm code ml rt) (X : own_S p l e R s m args below meth c Z T L k n) {x : Int32} (hd : decode code pc = .ok (.ineg, 1)) (hp : pc + 1 = npc) (g : own_Go p.tables e below P (T.setTop (mkF m npc ls (.int (-x) :: st)))) : own_Go p.tables e below P (T.setTop (mkF m pc ls (.int x :: st))) := by
  subst hp; obtain ⟨_, X, -, -⟩ := X
  exact g.st fun t k => Jvm.Free.XS.ineg X.here C.1 rfl (hb C.2.1 hd) rfl k
theorem k_lneg (C : own_C p s m meth c Z own nm code ml rt) (X : own_S p l e R s m args below meth c Z T L k n) {x : Int64} (hd : decode code pc = .ok (.lneg, 1)) (hp : pc + 1 = npc) (g : own_Go p.tables e below P (T.setTop (mkF m npc ls (.long (-x) :: st)))) : own_Go p.tables e below P (T.setTop (mkF m pc ls (.long x :: st))) := by
  subst hp; obtain ⟨_, X, -, -⟩ := X
  exact g.st fun t k => Jvm.Free.XT.lneg X.here C.1 rfl (hb C.2.1 hd) rfl k
theorem k_i2l (C : own_C p s m meth c Z own nm code ml rt) (X : own_S p l e R s m args below meth c Z T L k n) {x : Int32} (hd : decode code pc = .ok (.i2l, 1)) (hp : pc + 1 = npc) (g : own_Go p.tables e below P (T.setTop (mkF m npc ls (.long x.toInt64 :: st)))) : own_Go p.tables e below P (T.setTop (mkF m pc ls (.int x :: st))) := by
  subst hp; obtain ⟨_, X, -, -⟩ := X
  exact g.st fun t k => Jvm.Free.XT.i2l X.here C.1 rfl (hb C.2.1 hd) rfl k
theorem k_l2i (C : own_C p s m meth c Z own nm code ml rt) (X : own_S p l e R s m args below meth c Z T L k n) {x : Int64} (hd : decode code pc = .ok (.l2i, 1)) (hp : pc + 1 = npc) (g : own_Go p.tables e below P (T.setTop (mkF m npc ls (.int x.toInt32 :: st)))) : own_Go p.tables e below P (T.setTop (mkF m pc ls (.long x :: st))) := by
  subst hp; obtain ⟨_, X, -, -⟩ := X
  exact g.st fun t k => Jvm.Free.XT.l2i X.here C.1 rfl (hb C.2.1 hd) rfl k
theorem k_i2b (C : own_C p s m meth c Z own nm code ml rt) (X : own_S p l e R s m args below meth c Z T L k n) {x : Int32} (hd : decode code pc = .ok (.i2b, 1)) (hp : pc + 1 = npc) (g : own_Go p.tables e below P (T.setTop (mkF m npc ls (.int x.toInt8.toInt32 :: st)))) : own_Go p.tables e below P (T.setTop (mkF m pc ls (.int x :: st))) := by
  subst hp; obtain ⟨_, X, -, -⟩ := X
  exact g.st fun t k => Jvm.Free.XT.i2b X.here C.1 rfl (hb C.2.1 hd) rfl k
theorem k_i2c (C : own_C p s m meth c Z own nm code ml rt) (X : own_S p l e R s m args below meth c Z T L k n) {x : Int32} (hd : decode code pc = .ok (.i2c, 1)) (hp : pc + 1 = npc) (g : own_Go p.tables e below P (T.setTop (mkF m npc ls (.int x.toUInt32.toUInt16.toUInt32.toInt32 :: st)))) : own_Go p.tables e below P (T.setTop (mkF m pc ls (.int x :: st))) := by
  subst hp; obtain ⟨_, X, -, -⟩ := X
  exact g.st fun t k => Jvm.Free.XT.i2c X.here C.1 rfl (hb C.2.1 hd) rfl k
theorem k_i2s (C : own_C p s m meth c Z own nm code ml rt) (X : own_S p l e R s m args below meth c Z T L k n) {x : Int32} (hd : decode code pc = .ok (.i2s, 1)) (hp : pc + 1 = npc) (g : own_Go p.tables e below P (T.setTop (mkF m npc ls (.int x.toInt16.toInt32 :: st)))) : own_Go p.tables e below P (T.setTop (mkF m pc ls (.int x :: st))) := by
  subst hp; obtain ⟨_, X, -, -⟩ := X
  exact g.st fun t k => Jvm.Free.XT.i2s X.here C.1 rfl (hb C.2.1 hd) rfl k
theorem k_i2d (C : own_C p s m meth c Z own nm code ml rt) (X : own_S p l e R s m args below meth c Z T L k n) {x : Int32} (hd : decode code pc = .ok (.i2d, 1)) (hp : pc + 1 = npc) (g : own_Go p.tables e below P (T.setTop (mkF m npc ls (.double (FP.i2d x) :: st)))) : own_Go p.tables e below P (T.setTop (mkF m pc ls (.int x :: st))) := by
  subst hp; obtain ⟨_, X, -, -⟩ := X
  exact g.st fun t k => Jvm.Free.XS.i2dS X.here C.1 rfl (hb C.2.1 hd) rfl rfl k
theorem k_l2d (C : own_C p s m meth c Z own nm code ml rt) (X : own_S p l e R s m args below meth c Z T L k n) {x : Int64} (hd : decode code pc = .ok (.l2d, 1)) (hp : pc + 1 = npc) (g : own_Go p.tables e below P (T.setTop (mkF m npc ls (.double (FP.l2d x) :: st)))) : own_Go p.tables e below P (T.setTop (mkF m pc ls (.long x :: st))) := by
  subst hp; obtain ⟨_, X, -, -⟩ := X
  exact g.st fun t k => Jvm.Free.XS.l2dS X.here C.1 rfl (hb C.2.1 hd) rfl rfl k
theorem k_d2i (C : own_C p s m meth c Z own nm code ml rt) (X : own_S p l e R s m args below meth c Z T L k n) {x : UInt64} (hd : decode code pc = .ok (.d2i, 1)) (hp : pc + 1 = npc) (g : own_Go p.tables e below P (T.setTop (mkF m npc ls (.int (FP.d2i x) :: st)))) : own_Go p.tables e below P (T.setTop (mkF m pc ls (.double x :: st))) := by
  subst hp; obtain ⟨_, X, -, -⟩ := X
  exact g.st fun t k => Jvm.Free.XS.d2iS X.here C.1 rfl (hb C.2.1 hd) rfl rfl k
theorem k_d2l (C : own_C p s m meth c Z own nm code ml rt) (X : own_S p l e R s m args below meth c Z T L k n) {x : UInt64} (hd : decode code pc = .ok (.d2l, 1)) (hp : pc + 1 = npc) (g : own_Go p.tables e below P (T.setTop (mkF m npc ls (.long (FP.d2l x) :: st)))) : own_Go p.tables e below P (T.setTop (mkF m pc ls (.double x :: st))) := by
  subst hp; obtain ⟨_, X, -, -⟩ := X
  exact g.st fun t k => Jvm.Free.XS.d2lS X.here C.1 rfl (hb C.2.1 hd) rfl rfl k
theorem k_dneg (C : own_C p s m meth c Z own nm code ml rt) (X : own_S p l e R s m args below meth c Z T L k n) {x : UInt64} (hd : decode code pc = .ok (.dneg, 1)) (hp : pc + 1 = npc) (g : own_Go p.tables e below P (T.setTop (mkF m npc ls (.double (FP.dneg x) :: st)))) : own_Go p.tables e below P (T.setTop (mkF m pc ls (.double x :: st))) := by
  subst hp; obtain ⟨_, X, -, -⟩ := X
  exact g.st fun t k => Jvm.Free.XS.dnegS X.here C.1 rfl (hb C.2.1 hd) rfl rfl k
theorem k_lcmp (C : own_C p s m meth c Z own nm code ml rt) (X : own_S p l e R s m args below meth c Z T L k n) {x y : Int64} (hd : decode code pc = .ok (.lcmp, 1)) (hp : pc + 1 = npc) (g : own_Go p.tables e below P (T.setTop (mkF m npc ls (.int (Jvm.Free.XT.cmpL x y) :: st)))) : own_Go p.tables e below P (T.setTop (mkF m pc ls (.long y :: .long x :: st))) := by
  subst hp; obtain ⟨_, X, -, -⟩ := X
  exact g.st fun t k => Jvm.Free.XT.lcmp X.here C.1 rfl (hb C.2.1 hd) rfl k
theorem k_dcmpl (C : own_C p s m meth c Z own nm code ml rt) (X : own_S p l e R s m args below meth c Z T L k n) {x y : UInt64} (hd : decode code pc = .ok (.dcmp .l, 1)) (hp : pc + 1 = npc) (g : own_Go p.tables e below P (T.setTop (mkF m npc ls (.int (FP.cmpInt (-1) (FP.dcmp x y)) :: st)))) : own_Go p.tables e below P (T.setTop (mkF m pc ls (.double y :: .double x :: st))) := by
  subst hp; obtain ⟨_, X, -, -⟩ := X
  exact g.st fun t k => Jvm.Free.XS.dcmpS X.here C.1 rfl (hb C.2.1 hd) rfl (cmpV_l _) k
theorem k_dcmpg (C : own_C p s m meth c Z own nm code ml rt) (X : own_S p l e R s m args below meth c Z T L k n) {x y : UInt64} (hd : decode code pc = .ok (.dcmp .g, 1)) (hp : pc + 1 = npc) (g : own_Go p.tables e below P (T.setTop (mkF m npc ls (.int (FP.cmpInt 1 (FP.dcmp x y)) :: st)))) : own_Go p.tables e below P (T.setTop (mkF m pc ls (.double y :: .double x :: st))) := by
  subst hp; obtain ⟨_, X, -, -⟩ := X
  exact g.st fun t k => Jvm.Free.XS.dcmpS X.here C.1 rfl (hb C.2.1 hd) rfl (cmpV_g _) k
theorem k_dadd (C : own_C p s m meth c Z own nm code ml rt) (X : own_S p l e R s m args below meth c Z T L k n) {x y : UInt64} (hd : decode code pc = .ok (.dadd, 1)) (hp : pc + 1 = npc) (hn : Jvm.Free.Fl.NoNaN64 (FP.dadd x y)) (g : ∀ v, v = FP.dadd x y → own_Go p.tables e below P (T.setTop (mkF m npc ls (.double v :: st)))) : own_Go p.tables e below P (T.setTop (mkF m pc ls (.double y :: .double x :: st))) := by
  subst hp; obtain ⟨_, X, -, -⟩ := X
  exact (g _ rfl).st fun t k => Jvm.Free.XS.daddS X.here C.1 rfl (hb C.2.1 hd) rfl hn rfl k
theorem k_dsub (C : own_C p s m meth c Z own nm code ml rt) (X : own_S p l e R s m args below meth c Z T L k n) {x y : UInt64} (hd : decode code pc = .ok (.dsub, 1)) (hp : pc + 1 = npc) (hn : Jvm.Free.Fl.NoNaN64 (FP.dsub x y)) (g : ∀ v, v = FP.dsub x y → own_Go p.tables e below P (T.setTop (mkF m npc ls (.double v :: st)))) : own_Go p.tables e below P (T.setTop (mkF m pc ls (.double y :: .double x :: st))) := by
  subst hp; obtain ⟨_, X, -, -⟩ := X
  exact (g _ rfl).st fun t k => Jvm.Free.XS.dsubS X.here C.1 rfl (hb C.2.1 hd) rfl hn rfl k
theorem k_dmul (C : own_C p s m meth c Z own nm code ml rt) (X : own_S p l e R s m args below meth c Z T L k n) {x y : UInt64} (hd : decode code pc = .ok (.dmul, 1)) (hp : pc + 1 = npc) (hn : Jvm.Free.Fl.NoNaN64 (FP.dmul x y)) (g : ∀ v, v = FP.dmul x y → own_Go p.tables e below P (T.setTop (mkF m npc ls (.double v :: st)))) : own_Go p.tables e below P (T.setTop (mkF m pc ls (.double y :: .double x :: st))) := by
  subst hp; obtain ⟨_, X, -, -⟩ := X
  exact (g _ rfl).st fun t k => Jvm.Free.XS.dmulS X.here C.1 rfl (hb C.2.1 hd) rfl hn rfl k
theorem k_ddiv (C : own_C p s m meth c Z own nm code ml rt) (X : own_S p l e R s m args below meth c Z T L k n) {x y : UInt64} (hd : decode code pc = .ok (.ddiv, 1)) (hp : pc + 1 = npc) (hn : Jvm.Free.Fl.NoNaN64 (FP.ddiv x y)) (g : ∀ v, v = FP.ddiv x y → own_Go p.tables e below P (T.setTop (mkF m npc ls (.double v :: st)))) : own_Go p.tables e below P (T.setTop (mkF m pc ls (.double y :: .double x :: st))) := by
  subst hp; obtain ⟨_, X, -, -⟩ := X
  exact (g _ rfl).st fun t k => Jvm.Free.XS.ddivS X.here C.1 rfl (hb C.2.1 hd) rfl hn rfl k
theorem k_daddE (C : own_C p s m meth c Z own nm code ml rt) (X : own_S p l e R s m args below meth c Z T L k n) {x y : UInt64} (hd : decode code pc = .ok (.dadd, 1)) (hp : pc + 1 = npc) (hn : Jvm.Free.Fl.NoNaN64 (FP.dadd x y)) (g : own_Go p.tables e below P (T.setTop (mkF m npc ls (.double (FP.dadd x y) :: st)))) : own_Go p.tables e below P (T.setTop (mkF m pc ls (.double y :: .double x :: st))) := by
  subst hp; obtain ⟨_, X, -, -⟩ := X
  exact g.st fun t k => Jvm.Free.XS.daddS X.here C.1 rfl (hb C.2.1 hd) rfl hn rfl k
theorem k_dsubE (C : own_C p s m meth c Z own nm code ml rt) (X : own_S p l e R s m args below meth c Z T L k n) {x y : UInt64} (hd : decode code pc = .ok (.dsub, 1)) (hp : pc + 1 = npc) (hn : Jvm.Free.Fl.NoNaN64 (FP.dsub x y)) (g : own_Go p.tables e below P (T.setTop (mkF m npc ls (.double (FP.dsub x y) :: st)))) : own_Go p.tables e below P (T.setTop (mkF m pc ls (.double y :: .double x :: st))) := by
  subst hp; obtain ⟨_, X, -, -⟩ := X
  exact g.st fun t k => Jvm.Free.XS.dsubS X.here C.1 rfl (hb C.2.1 hd) rfl hn rfl k
theorem k_dmulE (C : own_C p s m meth c Z own nm code ml rt) (X : own_S p l e R s m args below meth c Z T L k n) {x y : UInt64} (hd : decode code pc = .ok (.dmul, 1)) (hp : pc + 1 = npc) (hn : Jvm.Free.Fl.NoNaN64 (FP.dmul x y)) (g : own_Go p.tables e below P (T.setTop (mkF m npc ls (.double (FP.dmul x y) :: st)))) : own_Go p.tables e below P (T.setTop (mkF m pc ls (.double y :: .double x :: st))) := by
  subst hp; obtain ⟨_, X, -, -⟩ := X
  exact g.st fun t k => Jvm.Free.XS.dmulS X.here C.1 rfl (hb C.2.1 hd) rfl hn rfl k
theorem k_ddivE (C : own_C p s m meth c Z own nm code ml rt) (X : own_S p l e R s m args below meth c Z T L k n) {x y : UInt64} (hd : decode code pc = .ok (.ddiv, 1)) (hp : pc + 1 = npc) (hn : Jvm.Free.Fl.NoNaN64 (FP.ddiv x y)) (g : own_Go p.tables e below P (T.setTop (mkF m npc ls (.double (FP.ddiv x y) :: st)))) : own_Go p.tables e below P (T.setTop (mkF m pc ls (.double y :: .double x :: st))) := by
  subst hp; obtain ⟨_, X, -, -⟩ := X
  exact g.st fun t k => Jvm.Free.XS.ddivS X.here C.1 rfl (hb C.2.1 hd) rfl hn rfl k
theorem k_iconst (C : own_C p s m meth c Z own nm code ml rt) (X : own_S p l e R s m args below meth c Z T L k n) {i : Int} {v : Int32} (hd : decode code pc = .ok (.iconst i, 1)) (hp : pc + 1 = npc) (hv : Int32.ofInt i = v) (g : own_Go p.tables e below P (T.setTop (mkF m npc ls (.int v :: st)))) : own_Go p.tables e below P (T.setTop (mkF m pc ls (st))) := by
  subst hp; obtain ⟨_, X, -, -⟩ := X
  exact g.st fun t k => Jvm.Free.XT.iconstV X.here C.1 rfl v (hb C.2.1 hd) hv k
theorem k_bipush (C : own_C p s m meth c Z own nm code ml rt) (X : own_S p l e R s m args below meth c Z T L k n) {i : Int} {v : Int32} (hd : decode code pc = .ok (.bipush i, 2)) (hp : pc + 2 = npc) (hv : (Int8.ofInt i).toInt32 = v) (g : own_Go p.tables e below P (T.setTop (mkF m npc ls (.int v :: st)))) : own_Go p.tables e below P (T.setTop (mkF m pc ls (st))) := by
  subst hp; obtain ⟨_, X, -, -⟩ := X
  exact g.st fun t k => Jvm.Free.XT.bipushV X.here C.1 rfl v (hb C.2.1 hd) hv k
theorem k_sipush (C : own_C p s m meth c Z own nm code ml rt) (X : own_S p l e R s m args below meth c Z T L k n) {i : Int} {v : Int32} (hd : decode code pc = .ok (.sipush i, 3)) (hp : pc + 3 = npc) (hv : (Int16.ofInt i).toInt32 = v) (g : own_Go p.tables e below P (T.setTop (mkF m npc ls (.int v :: st)))) : own_Go p.tables e below P (T.setTop (mkF m pc ls (st))) := by
  subst hp; obtain ⟨_, X, -, -⟩ := X
  exact g.st fun t k => Jvm.Free.XT.sipushV X.here C.1 rfl v (hb C.2.1 hd) hv k
theorem k_lconst (C : own_C p s m meth c Z own nm code ml rt) (X : own_S p l e R s m args below meth c Z T L k n) {i : Fin 2} {v : Int64} (hd : decode code pc = .ok (.lconst i, 1)) (hp : pc + 1 = npc) (hv : Int64.ofNat i = v) (g : own_Go p.tables e below P (T.setTop (mkF m npc ls (.long v :: st)))) : own_Go p.tables e below P (T.setTop (mkF m pc ls (st))) := by
  subst hp; obtain ⟨_, X, -, -⟩ := X
  exact g.st fun t k => Jvm.Free.XT.lconstV X.here C.1 rfl v (hb C.2.1 hd) hv k
theorem k_dconst0 (C : own_C p s m meth c Z own nm code ml rt) (X : own_S p l e R s m args below meth c Z T L k n) (hd : decode code pc = .ok (.dconst 0, 1)) (hp : pc + 1 = npc) (g : own_Go p.tables e below P (T.setTop (mkF m npc ls (.double 0 :: st)))) : own_Go p.tables e below P (T.setTop (mkF m pc ls (st))) := by
  subst hp; obtain ⟨_, X, -, -⟩ := X
  exact g.st fun t k => Jvm.Free.XS.dconst0 X.here C.1 rfl (hb C.2.1 hd) rfl k
theorem k_dconst1 (C : own_C p s m meth c Z own nm code ml rt) (X : own_S p l e R s m args below meth c Z T L k n) (hd : decode code pc = .ok (.dconst 1, 1)) (hp : pc + 1 = npc) (g : own_Go p.tables e below P (T.setTop (mkF m npc ls (.double 4607182418800017408 :: st)))) : own_Go p.tables e below P (T.setTop (mkF m pc ls (st))) := by
  subst hp; obtain ⟨_, X, -, -⟩ := X
  exact g.st fun t k => Jvm.Free.XS.dconst1 X.here C.1 rfl (hb C.2.1 hd) rfl k
theorem k_aconst_null (C : own_C p s m meth c Z own nm code ml rt) (X : own_S p l e R s m args below meth c Z T L k n) (hd : decode code pc = .ok (.aconst_null, 1)) (hp : pc + 1 = npc) (g : own_Go p.tables e below P (T.setTop (mkF m npc ls (.null :: st)))) : own_Go p.tables e below P (T.setTop (mkF m pc ls (st))) := by
  subst hp; obtain ⟨_, X, -, -⟩ := X
  exact g.st fun t k => Jvm.Free.XS.aconstNull X.here C.1 rfl (hb C.2.1 hd)  k
theorem k_pop (C : own_C p s m meth c Z own nm code ml rt) (X : own_S p l e R s m args below meth c Z T L k n) {x : Value} (hd : decode code pc = .ok (.pop, 1)) (hp : pc + 1 = npc) (hc : x.category = 1) (g : own_Go p.tables e below P (T.setTop (mkF m npc ls (st)))) : own_Go p.tables e below P (T.setTop (mkF m pc ls (x :: st))) := by
  subst hp; obtain ⟨_, X, -, -⟩ := X
  exact g.st fun t k => Jvm.Free.XT.pop X.here C.1 rfl (hb C.2.1 hd) rfl hc k
theorem k_dup (C : own_C p s m meth c Z own nm code ml rt) (X : own_S p l e R s m args below meth c Z T L k n) {x : Value} (hd : decode code pc = .ok (.dup, 1)) (hp : pc + 1 = npc) (hc : x.category = 1) (g : own_Go p.tables e below P (T.setTop (mkF m npc ls (x :: x :: st)))) : own_Go p.tables e below P (T.setTop (mkF m pc ls (x :: st))) := by
  subst hp; obtain ⟨_, X, -, -⟩ := X
  exact g.st fun t k => Jvm.Free.XS.dup X.here C.1 rfl (hb C.2.1 hd) rfl hc k
theorem k_dup_x1 (C : own_C p s m meth c Z own nm code ml rt) (X : own_S p l e R s m args below meth c Z T L k n) {x y : Value} (hd : decode code pc = .ok (.dup_x1, 1)) (hp : pc + 1 = npc) (hc : x.category = 1) (hc' : y.category = 1) (g : own_Go p.tables e below P (T.setTop (mkF m npc ls (x :: y :: x :: st)))) : own_Go p.tables e below P (T.setTop (mkF m pc ls (x :: y :: st))) := by
  subst hp; obtain ⟨_, X, -, -⟩ := X
  exact g.st fun t k => Jvm.Free.XT.dupX1 X.here C.1 rfl (hb C.2.1 hd) rfl hc hc' k
theorem k_dup2 (C : own_C p s m meth c Z own nm code ml rt) (X : own_S p l e R s m args below meth c Z T L k n) {x y : Value} (hd : decode code pc = .ok (.dup2, 1)) (hp : pc + 1 = npc) (hc : x.category = 1) (hc' : y.category = 1) (g : own_Go p.tables e below P (T.setTop (mkF m npc ls (x :: y :: x :: y :: st)))) : own_Go p.tables e below P (T.setTop (mkF m pc ls (x :: y :: st))) := by
  subst hp; obtain ⟨_, X, -, -⟩ := X
  exact g.st fun t k => Jvm.Free.XT.dup2 X.here C.1 rfl (hb C.2.1 hd) rfl hc hc' k
theorem k_iload (C : own_C p s m meth c Z own nm code ml rt) (X : own_S p l e R s m args below meth c Z T L k n) {i : Nat} {v : Int32} (hd : decode code pc = .ok (.iload i, 2)) (hp : pc + 2 = npc) (hl : ls[i]? = some (.val (.int v))) (g : own_Go p.tables e below P (T.setTop (mkF m npc ls (.int v :: st)))) : own_Go p.tables e below P (T.setTop (mkF m pc ls (st))) := by
  subst hp; obtain ⟨_, X, -, -⟩ := X
  exact g.st fun t k => Jvm.Free.XS.iload X.here C.1 rfl (hb C.2.1 hd) hl k
theorem k_istore (C : own_C p s m meth c Z own nm code ml rt) (X : own_S p l e R s m args below meth c Z T L k n) {i : Nat} {v : Int32} {l' : Array Slot} (hd : decode code pc = .ok (.istore i, 2)) (hp : pc + 2 = npc) (hl : storeLocals ls i (.int v) = some l') (g : own_Go p.tables e below P (T.setTop (mkF m npc l' st))) : own_Go p.tables e below P (T.setTop (mkF m pc ls (.int v :: st))) := by
  subst hp; obtain ⟨_, X, -, -⟩ := X
  exact g.st fun t k => Jvm.Free.XS.istore X.here C.1 rfl (hb C.2.1 hd) rfl hl k
theorem k_iloadN (C : own_C p s m meth c Z own nm code ml rt) (X : own_S p l e R s m args below meth c Z T L k n) {i : Fin 4} {v : Int32} (hd : decode code pc = .ok (.iload_n i, 1)) (hp : pc + 1 = npc) (hl : ls[i.val]? = some (.val (.int v))) (g : own_Go p.tables e below P (T.setTop (mkF m npc ls (.int v :: st)))) : own_Go p.tables e below P (T.setTop (mkF m pc ls (st))) := by
  subst hp; obtain ⟨_, X, -, -⟩ := X
  exact g.st fun t k => Jvm.Free.XS.iloadN X.here C.1 rfl (hb C.2.1 hd) hl k
theorem k_istoreN (C : own_C p s m meth c Z own nm code ml rt) (X : own_S p l e R s m args below meth c Z T L k n) {i : Fin 4} {v : Int32} {l' : Array Slot} (hd : decode code pc = .ok (.istore_n i, 1)) (hp : pc + 1 = npc) (hl : storeLocals ls i.val (.int v) = some l') (g : own_Go p.tables e below P (T.setTop (mkF m npc l' st))) : own_Go p.tables e below P (T.setTop (mkF m pc ls (.int v :: st))) := by
  subst hp; obtain ⟨_, X, -, -⟩ := X
  exact g.st fun t k => Jvm.Free.XS.istoreN X.here C.1 rfl (hb C.2.1 hd) rfl hl k
theorem k_lload (C : own_C p s m meth c Z own nm code ml rt) (X : own_S p l e R s m args below meth c Z T L k n) {i : Nat} {v : Int64} (hd : decode code pc = .ok (.lload i, 2)) (hp : pc + 2 = npc) (hl : ls[i]? = some (.val (.long v))) (g : own_Go p.tables e below P (T.setTop (mkF m npc ls (.long v :: st)))) : own_Go p.tables e below P (T.setTop (mkF m pc ls (st))) := by
  subst hp; obtain ⟨_, X, -, -⟩ := X
  exact g.st fun t k => Jvm.Free.XT.lload X.here C.1 rfl (hb C.2.1 hd) hl k
theorem k_lstore (C : own_C p s m meth c Z own nm code ml rt) (X : own_S p l e R s m args below meth c Z T L k n) {i : Nat} {v : Int64} {l' : Array Slot} (hd : decode code pc = .ok (.lstore i, 2)) (hp : pc + 2 = npc) (hl : storeLocals ls i (.long v) = some l') (g : own_Go p.tables e below P (T.setTop (mkF m npc l' st))) : own_Go p.tables e below P (T.setTop (mkF m pc ls (.long v :: st))) := by
  subst hp; obtain ⟨_, X, -, -⟩ := X
  exact g.st fun t k => Jvm.Free.XT.lstore X.here C.1 rfl (hb C.2.1 hd) rfl hl k
theorem k_lloadN (C : own_C p s m meth c Z own nm code ml rt) (X : own_S p l e R s m args below meth c Z T L k n) {i : Fin 4} {v : Int64} (hd : decode code pc = .ok (.lload_n i, 1)) (hp : pc + 1 = npc) (hl : ls[i.val]? = some (.val (.long v))) (g : own_Go p.tables e below P (T.setTop (mkF m npc ls (.long v :: st)))) : own_Go p.tables e below P (T.setTop (mkF m pc ls (st))) := by
  subst hp; obtain ⟨_, X, -, -⟩ := X
  exact g.st fun t k => Jvm.Free.XT.lloadN X.here C.1 rfl (hb C.2.1 hd) hl k
theorem k_lstoreN (C : own_C p s m meth c Z own nm code ml rt) (X : own_S p l e R s m args below meth c Z T L k n) {i : Fin 4} {v : Int64} {l' : Array Slot} (hd : decode code pc = .ok (.lstore_n i, 1)) (hp : pc + 1 = npc) (hl : storeLocals ls i.val (.long v) = some l') (g : own_Go p.tables e below P (T.setTop (mkF m npc l' st))) : own_Go p.tables e below P (T.setTop (mkF m pc ls (.long v :: st))) := by
  subst hp; obtain ⟨_, X, -, -⟩ := X
  exact g.st fun t k => Jvm.Free.XT.lstoreN X.here C.1 rfl (hb C.2.1 hd) rfl hl k
theorem k_dload (C : own_C p s m meth c Z own nm code ml rt) (X : own_S p l e R s m args below meth c Z T L k n) {i : Nat} {v : UInt64} (hd : decode code pc = .ok (.dload i, 2)) (hp : pc + 2 = npc) (hl : ls[i]? = some (.val (.double v))) (g : own_Go p.tables e below P (T.setTop (mkF m npc ls (.double v :: st)))) : own_Go p.tables e below P (T.setTop (mkF m pc ls (st))) := by
  subst hp; obtain ⟨_, X, -, -⟩ := X
  exact g.st fun t k => Jvm.Free.XS.dload X.here C.1 rfl (hb C.2.1 hd) hl k
theorem k_dstore (C : own_C p s m meth c Z own nm code ml rt) (X : own_S p l e R s m args below meth c Z T L k n) {i : Nat} {v : UInt64} {l' : Array Slot} (hd : decode code pc = .ok (.dstore i, 2)) (hp : pc + 2 = npc) (hl : storeLocals ls i (.double v) = some l') (g : own_Go p.tables e below P (T.setTop (mkF m npc l' st))) : own_Go p.tables e below P (T.setTop (mkF m pc ls (.double v :: st))) := by
  subst hp; obtain ⟨_, X, -, -⟩ := X
  exact g.st fun t k => Jvm.Free.XS.dstore X.here C.1 rfl (hb C.2.1 hd) rfl hl k
theorem k_dloadN (C : own_C p s m meth c Z own nm code ml rt) (X : own_S p l e R s m args below meth c Z T L k n) {i : Fin 4} {v : UInt64} (hd : decode code pc = .ok (.dload_n i, 1)) (hp : pc + 1 = npc) (hl : ls[i.val]? = some (.val (.double v))) (g : own_Go p.tables e below P (T.setTop (mkF m npc ls (.double v :: st)))) : own_Go p.tables e below P (T.setTop (mkF m pc ls (st))) := by
  subst hp; obtain ⟨_, X, -, -⟩ := X
  exact g.st fun t k => Jvm.Free.XS.dloadN X.here C.1 rfl (hb C.2.1 hd) hl k
theorem k_dstoreN (C : own_C p s m meth c Z own nm code ml rt) (X : own_S p l e R s m args below meth c Z T L k n) {i : Fin 4} {v : UInt64} {l' : Array Slot} (hd : decode code pc = .ok (.dstore_n i, 1)) (hp : pc + 1 = npc) (hl : storeLocals ls i.val (.double v) = some l') (g : own_Go p.tables e below P (T.setTop (mkF m npc l' st))) : own_Go p.tables e below P (T.setTop (mkF m pc ls (.double v :: st))) := by
  subst hp; obtain ⟨_, X, -, -⟩ := X
  exact g.st fun t k => Jvm.Free.XS.dstoreN X.here C.1 rfl (hb C.2.1 hd) rfl hl k
theorem k_aload (C : own_C p s m meth c Z own nm code ml rt) (X : own_S p l e R s m args below meth c Z T L k n) {i : Nat} {v : Value} (hd : decode code pc = .ok (.aload i, 2)) (hp : pc + 2 = npc) (hl : ls[i]? = some (.val (v))) (hv : v.isRef = true) (g : own_Go p.tables e below P (T.setTop (mkF m npc ls (v :: st)))) : own_Go p.tables e below P (T.setTop (mkF m pc ls (st))) := by
  subst hp; obtain ⟨_, X, -, -⟩ := X
  exact g.st fun t k => Jvm.Free.XS.aload X.here C.1 rfl (hb C.2.1 hd) hl hv k
theorem k_astore (C : own_C p s m meth c Z own nm code ml rt) (X : own_S p l e R s m args below meth c Z T L k n) {i : Nat} {v : Value} {l' : Array Slot} (hd : decode code pc = .ok (.astore i, 2)) (hp : pc + 2 = npc) (hv : v.isRef = true) (hl : storeLocals ls i (v) = some l') (g : own_Go p.tables e below P (T.setTop (mkF m npc l' st))) : own_Go p.tables e below P (T.setTop (mkF m pc ls (v :: st))) := by
  subst hp; obtain ⟨_, X, -, -⟩ := X
  exact g.st fun t k => Jvm.Free.XS.astore X.here C.1 rfl (hb C.2.1 hd) rfl hv hl k
theorem k_aloadN (C : own_C p s m meth c Z own nm code ml rt) (X : own_S p l e R s m args below meth c Z T L k n) {i : Fin 4} {v : Value} (hd : decode code pc = .ok (.aload_n i, 1)) (hp : pc + 1 = npc) (hl : ls[i.val]? = some (.val (v))) (hv : v.isRef = true) (g : own_Go p.tables e below P (T.setTop (mkF m npc ls (v :: st)))) : own_Go p.tables e below P (T.setTop (mkF m pc ls (st))) := by
  subst hp; obtain ⟨_, X, -, -⟩ := X
  exact g.st fun t k => Jvm.Free.XS.aloadN X.here C.1 rfl (hb C.2.1 hd) hl hv k
theorem k_astoreN (C : own_C p s m meth c Z own nm code ml rt) (X : own_S p l e R s m args below meth c Z T L k n) {i : Fin 4} {v : Value} {l' : Array Slot} (hd : decode code pc = .ok (.astore_n i, 1)) (hp : pc + 1 = npc) (hv : v.isRef = true) (hl : storeLocals ls i.val (v) = some l') (g : own_Go p.tables e below P (T.setTop (mkF m npc l' st))) : own_Go p.tables e below P (T.setTop (mkF m pc ls (v :: st))) := by
  subst hp; obtain ⟨_, X, -, -⟩ := X
  exact g.st fun t k => Jvm.Free.XS.astoreN X.here C.1 rfl (hb C.2.1 hd) rfl hv hl k
theorem k_iinc (C : own_C p s m meth c Z own nm code ml rt) (X : own_S p l e R s m args below meth c Z T L k n) {i : Nat} {cst : Int} {x v : Int32} {l' : Array Slot} (hd : decode code pc = .ok (.iinc i cst, 3)) (hp : pc + 3 = npc) (hv : Int32.ofInt cst = v) (hl : ls[i]? = some (.val (.int x))) (hl' : storeLocals ls i (.int (x + v)) = some l') (g : own_Go p.tables e below P (T.setTop (mkF m npc l' st))) : own_Go p.tables e below P (T.setTop (mkF m pc ls st)) := by
  subst hp; obtain ⟨_, X, -, -⟩ := X
  exact g.st fun t k => Jvm.Free.XT.iincV X.here C.1 rfl v (hb C.2.1 hd) hv hl hl' k
theorem k_goto (C : own_C p s m meth c Z own nm code ml rt) (X : own_S p l e R s m args below meth c Z T L k n) {o : Int} (hd : decode code pc = .ok (.goto o, 3)) (ht : (pc : Int) + o = (tpc : Int)) (g : own_Go p.tables e below P (T.setTop (mkF m tpc ls st))) : own_Go p.tables e below P (T.setTop (mkF m pc ls st)) := by
  obtain ⟨_, X, -, -⟩ := X
  exact g.st fun t k => Jvm.Free.XS.goto X.here C.1 rfl (pc0 := pc) (pc' := tpc) rfl (hb C.2.1 hd) (by omega) (by omega) k
theorem k_if_eq (C : own_C p s m meth c Z own nm code ml rt) (X : own_S p l e R s m args below meth c Z T L k n) {x : Int32} {o : Int} (hd : decode code pc = .ok (.ifCond .eq o, 3)) (hp : pc + 3 = npc) (ht : (pc : Int) + o = (tpc : Int)) (yes : x = 0 → own_Go p.tables e below P (T.setTop (mkF m tpc ls st))) (no : ¬ x = 0 → own_Go p.tables e below P (T.setTop (mkF m npc ls st))) : own_Go p.tables e below P (T.setTop (mkF m pc ls (.int x :: st))) := by
  subst hp; obtain ⟨_, X, -, -⟩ := X
  by_cases q : x = 0
  · exact (yes q).st fun t k => Jvm.Free.XS.ifYes X.here C.1 rfl (pc0 := pc) (pc' := tpc) rfl (hb C.2.1 hd) rfl (Jvm.Free.XT.i0_eq_t q) (by omega) (by omega) k
  · exact (no q).st fun t k => Jvm.Free.XS.ifNo X.here C.1 rfl (hb C.2.1 hd) rfl (Jvm.Free.XT.i0_eq_f q) k
theorem k_if_ne (C : own_C p s m meth c Z own nm code ml rt) (X : own_S p l e R s m args below meth c Z T L k n) {x : Int32} {o : Int} (hd : decode code pc = .ok (.ifCond .ne o, 3)) (hp : pc + 3 = npc) (ht : (pc : Int) + o = (tpc : Int)) (yes : ¬ x = 0 → own_Go p.tables e below P (T.setTop (mkF m tpc ls st))) (no : x = 0 → own_Go p.tables e below P (T.setTop (mkF m npc ls st))) : own_Go p.tables e below P (T.setTop (mkF m pc ls (.int x :: st))) := by
  subst hp; obtain ⟨_, X, -, -⟩ := X
  by_cases q : ¬ x = 0
  · exact (yes q).st fun t k => Jvm.Free.XS.ifYes X.here C.1 rfl (pc0 := pc) (pc' := tpc) rfl (hb C.2.1 hd) rfl (Jvm.Free.XT.i0_ne_t q) (by omega) (by omega) k
  · have q := Decidable.not_not.mp q
    exact (no q).st fun t k => Jvm.Free.XS.ifNo X.here C.1 rfl (hb C.2.1 hd) rfl (Jvm.Free.XT.i0_ne_f q) k
theorem k_if_lt (C : own_C p s m meth c Z own nm code ml rt) (X : own_S p l e R s m args below meth c Z T L k n) {x : Int32} {o : Int} (hd : decode code pc = .ok (.ifCond .lt o, 3)) (hp : pc + 3 = npc) (ht : (pc : Int) + o = (tpc : Int)) (yes : x < 0 → own_Go p.tables e below P (T.setTop (mkF m tpc ls st))) (no : ¬ x < 0 → own_Go p.tables e below P (T.setTop (mkF m npc ls st))) : own_Go p.tables e below P (T.setTop (mkF m pc ls (.int x :: st))) := by
  subst hp; obtain ⟨_, X, -, -⟩ := X
  by_cases q : x < 0
  · exact (yes q).st fun t k => Jvm.Free.XS.ifYes X.here C.1 rfl (pc0 := pc) (pc' := tpc) rfl (hb C.2.1 hd) rfl (Jvm.Free.XT.i0_lt_t q) (by omega) (by omega) k
  · exact (no q).st fun t k => Jvm.Free.XS.ifNo X.here C.1 rfl (hb C.2.1 hd) rfl (Jvm.Free.XT.i0_lt_f q) k
theorem k_if_ge (C : own_C p s m meth c Z own nm code ml rt) (X : own_S p l e R s m args below meth c Z T L k n) {x : Int32} {o : Int} (hd : decode code pc = .ok (.ifCond .ge o, 3)) (hp : pc + 3 = npc) (ht : (pc : Int) + o = (tpc : Int)) (yes : ¬ x < 0 → own_Go p.tables e below P (T.setTop (mkF m tpc ls st))) (no : x < 0 → own_Go p.tables e below P (T.setTop (mkF m npc ls st))) : own_Go p.tables e below P (T.setTop (mkF m pc ls (.int x :: st))) := by
  subst hp; obtain ⟨_, X, -, -⟩ := X
  by_cases q : ¬ x < 0
  · exact (yes q).st fun t k => Jvm.Free.XS.ifYes X.here C.1 rfl (pc0 := pc) (pc' := tpc) rfl (hb C.2.1 hd) rfl (Jvm.Free.XT.i0_ge_t q) (by omega) (by omega) k
  · have q := Decidable.not_not.mp q
    exact (no q).st fun t k => Jvm.Free.XS.ifNo X.here C.1 rfl (hb C.2.1 hd) rfl (Jvm.Free.XT.i0_ge_f q) k
theorem k_if_gt (C : own_C p s m meth c Z own nm code ml rt) (X : own_S p l e R s m args below meth c Z T L k n) {x : Int32} {o : Int} (hd : decode code pc = .ok (.ifCond .gt o, 3)) (hp : pc + 3 = npc) (ht : (pc : Int) + o = (tpc : Int)) (yes : 0 < x → own_Go p.tables e below P (T.setTop (mkF m tpc ls st))) (no : ¬ 0 < x → own_Go p.tables e below P (T.setTop (mkF m npc ls st))) : own_Go p.tables e below P (T.setTop (mkF m pc ls (.int x :: st))) := by
  subst hp; obtain ⟨_, X, -, -⟩ := X
  by_cases q : 0 < x
  · exact (yes q).st fun t k => Jvm.Free.XS.ifYes X.here C.1 rfl (pc0 := pc) (pc' := tpc) rfl (hb C.2.1 hd) rfl (Jvm.Free.XT.i0_gt_t q) (by omega) (by omega) k
  · exact (no q).st fun t k => Jvm.Free.XS.ifNo X.here C.1 rfl (hb C.2.1 hd) rfl (Jvm.Free.XT.i0_gt_f q) k
theorem k_if_le (C : own_C p s m meth c Z own nm code ml rt) (X : own_S p l e R s m args below meth c Z T L k n) {x : Int32} {o : Int} (hd : decode code pc = .ok (.ifCond .le o, 3)) (hp : pc + 3 = npc) (ht : (pc : Int) + o = (tpc : Int)) (yes : ¬ 0 < x → own_Go p.tables e below P (T.setTop (mkF m tpc ls st))) (no : 0 < x → own_Go p.tables e below P (T.setTop (mkF m npc ls st))) : own_Go p.tables e below P (T.setTop (mkF m pc ls (.int x :: st))) := by
  subst hp; obtain ⟨_, X, -, -⟩ := X
  by_cases q : ¬ 0 < x
  · exact (yes q).st fun t k => Jvm.Free.XS.ifYes X.here C.1 rfl (pc0 := pc) (pc' := tpc) rfl (hb C.2.1 hd) rfl (Jvm.Free.XT.i0_le_t q) (by omega) (by omega) k
  · have q := Decidable.not_not.mp q
    exact (no q).st fun t k => Jvm.Free.XS.ifNo X.here C.1 rfl (hb C.2.1 hd) rfl (Jvm.Free.XT.i0_le_f q) k
theorem k_icmp_eq (C : own_C p s m meth c Z own nm code ml rt) (X : own_S p l e R s m args below meth c Z T L k n) {x y : Int32} {o : Int} (hd : decode code pc = .ok (.if_icmp .eq o, 3)) (hp : pc + 3 = npc) (ht : (pc : Int) + o = (tpc : Int)) (yes : x = y → own_Go p.tables e below P (T.setTop (mkF m tpc ls st))) (no : ¬ x = y → own_Go p.tables e below P (T.setTop (mkF m npc ls st))) : own_Go p.tables e below P (T.setTop (mkF m pc ls (.int y :: .int x :: st))) := by
  subst hp; obtain ⟨_, X, -, -⟩ := X
  by_cases q : x = y
  · exact (yes q).st fun t k => Jvm.Free.XS.icmpYes X.here C.1 rfl (pc0 := pc) (pc' := tpc) rfl (hb C.2.1 hd) rfl (Jvm.Free.XT.ii_eq_t q) (by omega) (by omega) k
  · exact (no q).st fun t k => Jvm.Free.XS.icmpNo X.here C.1 rfl (hb C.2.1 hd) rfl (Jvm.Free.XT.ii_eq_f q) k
theorem k_icmp_ne (C : own_C p s m meth c Z own nm code ml rt) (X : own_S p l e R s m args below meth c Z T L k n) {x y : Int32} {o : Int} (hd : decode code pc = .ok (.if_icmp .ne o, 3)) (hp : pc + 3 = npc) (ht : (pc : Int) + o = (tpc : Int)) (yes : ¬ x = y → own_Go p.tables e below P (T.setTop (mkF m tpc ls st))) (no : x = y → own_Go p.tables e below P (T.setTop (mkF m npc ls st))) : own_Go p.tables e below P (T.setTop (mkF m pc ls (.int y :: .int x :: st))) := by
  subst hp; obtain ⟨_, X, -, -⟩ := X
  by_cases q : ¬ x = y
  · exact (yes q).st fun t k => Jvm.Free.XS.icmpYes X.here C.1 rfl (pc0 := pc) (pc' := tpc) rfl (hb C.2.1 hd) rfl (Jvm.Free.XT.ii_ne_t q) (by omega) (by omega) k
  · have q := Decidable.not_not.mp q
    exact (no q).st fun t k => Jvm.Free.XS.icmpNo X.here C.1 rfl (hb C.2.1 hd) rfl (Jvm.Free.XT.ii_ne_f q) k
theorem k_icmp_lt (C : own_C p s m meth c Z own nm code ml rt) (X : own_S p l e R s m args below meth c Z T L k n) {x y : Int32} {o : Int} (hd : decode code pc = .ok (.if_icmp .lt o, 3)) (hp : pc + 3 = npc) (ht : (pc : Int) + o = (tpc : Int)) (yes : x < y → own_Go p.tables e below P (T.setTop (mkF m tpc ls st))) (no : ¬ x < y → own_Go p.tables e below P (T.setTop (mkF m npc ls st))) : own_Go p.tables e below P (T.setTop (mkF m pc ls (.int y :: .int x :: st))) := by
  subst hp; obtain ⟨_, X, -, -⟩ := X
  by_cases q : x < y
  · exact (yes q).st fun t k => Jvm.Free.XS.icmpYes X.here C.1 rfl (pc0 := pc) (pc' := tpc) rfl (hb C.2.1 hd) rfl (Jvm.Free.XT.ii_lt_t q) (by omega) (by omega) k
  · exact (no q).st fun t k => Jvm.Free.XS.icmpNo X.here C.1 rfl (hb C.2.1 hd) rfl (Jvm.Free.XT.ii_lt_f q) k
theorem k_icmp_ge (C : own_C p s m meth c Z own nm code ml rt) (X : own_S p l e R s m args below meth c Z T L k n) {x y : Int32} {o : Int} (hd : decode code pc = .ok (.if_icmp .ge o, 3)) (hp : pc + 3 = npc) (ht : (pc : Int) + o = (tpc : Int)) (yes : ¬ x < y → own_Go p.tables e below P (T.setTop (mkF m tpc ls st))) (no : x < y → own_Go p.tables e below P (T.setTop (mkF m npc ls st))) : own_Go p.tables e below P (T.setTop (mkF m pc ls (.int y :: .int x :: st))) := by
  subst hp; obtain ⟨_, X, -, -⟩ := X
  by_cases q : ¬ x < y
  · exact (yes q).st fun t k => Jvm.Free.XS.icmpYes X.here C.1 rfl (pc0 := pc) (pc' := tpc) rfl (hb C.2.1 hd) rfl (Jvm.Free.XT.ii_ge_t q) (by omega) (by omega) k
  · have q := Decidable.not_not.mp q
    exact (no q).st fun t k => Jvm.Free.XS.icmpNo X.here C.1 rfl (hb C.2.1 hd) rfl (Jvm.Free.XT.ii_ge_f q) k
theorem k_icmp_gt (C : own_C p s m meth c Z own nm code ml rt) (X : own_S p l e R s m args below meth c Z T L k n) {x y : Int32} {o : Int} (hd : decode code pc = .ok (.if_icmp .gt o, 3)) (hp : pc + 3 = npc) (ht : (pc : Int) + o = (tpc : Int)) (yes : y < x → own_Go p.tables e below P (T.setTop (mkF m tpc ls st))) (no : ¬ y < x → own_Go p.tables e below P (T.setTop (mkF m npc ls st))) : own_Go p.tables e below P (T.setTop (mkF m pc ls (.int y :: .int x :: st))) := by
  subst hp; obtain ⟨_, X, -, -⟩ := X
  by_cases q : y < x
  · exact (yes q).st fun t k => Jvm.Free.XS.icmpYes X.here C.1 rfl (pc0 := pc) (pc' := tpc) rfl (hb C.2.1 hd) rfl (Jvm.Free.XT.ii_gt_t q) (by omega) (by omega) k
  · exact (no q).st fun t k => Jvm.Free.XS.icmpNo X.here C.1 rfl (hb C.2.1 hd) rfl (Jvm.Free.XT.ii_gt_f q) k
theorem k_icmp_le (C : own_C p s m meth c Z own nm code ml rt) (X : own_S p l e R s m args below meth c Z T L k n) {x y : Int32} {o : Int} (hd : decode code pc = .ok (.if_icmp .le o, 3)) (hp : pc + 3 = npc) (ht : (pc : Int) + o = (tpc : Int)) (yes : ¬ y < x → own_Go p.tables e below P (T.setTop (mkF m tpc ls st))) (no : y < x → own_Go p.tables e below P (T.setTop (mkF m npc ls st))) : own_Go p.tables e below P (T.setTop (mkF m pc ls (.int y :: .int x :: st))) := by
  subst hp; obtain ⟨_, X, -, -⟩ := X
  by_cases q : ¬ y < x
  · exact (yes q).st fun t k => Jvm.Free.XS.icmpYes X.here C.1 rfl (pc0 := pc) (pc' := tpc) rfl (hb C.2.1 hd) rfl (Jvm.Free.XT.ii_le_t q) (by omega) (by omega) k
  · have q := Decidable.not_not.mp q
    exact (no q).st fun t k => Jvm.Free.XS.icmpNo X.here C.1 rfl (hb C.2.1 hd) rfl (Jvm.Free.XT.ii_le_f q) k
theorem k_ifl_eq (C : own_C p s m meth c Z own nm code ml rt) (X : own_S p l e R s m args below meth c Z T L k n) {x y : Int64} {o : Int} (hd : decode code pc = .ok (.ifCond .eq o, 3)) (hp : pc + 3 = npc) (ht : (pc : Int) + o = (tpc : Int)) (yes : x = y → own_Go p.tables e below P (T.setTop (mkF m tpc ls st))) (no : ¬ x = y → own_Go p.tables e below P (T.setTop (mkF m npc ls st))) : own_Go p.tables e below P (T.setTop (mkF m pc ls (.int (Jvm.Free.XT.cmpL x y) :: st))) := by
  subst hp; obtain ⟨_, X, -, -⟩ := X
  by_cases q : x = y
  · exact (yes q).st fun t k => Jvm.Free.XS.ifYes X.here C.1 rfl (pc0 := pc) (pc' := tpc) rfl (hb C.2.1 hd) rfl (Jvm.Free.XT.ll_eq_t q) (by omega) (by omega) k
  · exact (no q).st fun t k => Jvm.Free.XS.ifNo X.here C.1 rfl (hb C.2.1 hd) rfl (Jvm.Free.XT.ll_eq_f q) k
theorem k_ifl_ne (C : own_C p s m meth c Z own nm code ml rt) (X : own_S p l e R s m args below meth c Z T L k n) {x y : Int64} {o : Int} (hd : decode code pc = .ok (.ifCond .ne o, 3)) (hp : pc + 3 = npc) (ht : (pc : Int) + o = (tpc : Int)) (yes : ¬ x = y → own_Go p.tables e below P (T.setTop (mkF m tpc ls st))) (no : x = y → own_Go p.tables e below P (T.setTop (mkF m npc ls st))) : own_Go p.tables e below P (T.setTop (mkF m pc ls (.int (Jvm.Free.XT.cmpL x y) :: st))) := by
  subst hp; obtain ⟨_, X, -, -⟩ := X
  by_cases q : ¬ x = y
  · exact (yes q).st fun t k => Jvm.Free.XS.ifYes X.here C.1 rfl (pc0 := pc) (pc' := tpc) rfl (hb C.2.1 hd) rfl (Jvm.Free.XT.ll_ne_t q) (by omega) (by omega) k
  · have q := Decidable.not_not.mp q
    exact (no q).st fun t k => Jvm.Free.XS.ifNo X.here C.1 rfl (hb C.2.1 hd) rfl (Jvm.Free.XT.ll_ne_f q) k
theorem k_ifl_lt (C : own_C p s m meth c Z own nm code ml rt) (X : own_S p l e R s m args below meth c Z T L k n) {x y : Int64} {o : Int} (hd : decode code pc = .ok (.ifCond .lt o, 3)) (hp : pc + 3 = npc) (ht : (pc : Int) + o = (tpc : Int)) (yes : x < y → own_Go p.tables e below P (T.setTop (mkF m tpc ls st))) (no : ¬ x < y → own_Go p.tables e below P (T.setTop (mkF m npc ls st))) : own_Go p.tables e below P (T.setTop (mkF m pc ls (.int (Jvm.Free.XT.cmpL x y) :: st))) := by
  subst hp; obtain ⟨_, X, -, -⟩ := X
  by_cases q : x < y
  · exact (yes q).st fun t k => Jvm.Free.XS.ifYes X.here C.1 rfl (pc0 := pc) (pc' := tpc) rfl (hb C.2.1 hd) rfl (Jvm.Free.XT.ll_lt_t q) (by omega) (by omega) k
  · exact (no q).st fun t k => Jvm.Free.XS.ifNo X.here C.1 rfl (hb C.2.1 hd) rfl (Jvm.Free.XT.ll_lt_f q) k
theorem k_ifl_ge (C : own_C p s m meth c Z own nm code ml rt) (X : own_S p l e R s m args below meth c Z T L k n) {x y : Int64} {o : Int} (hd : decode code pc = .ok (.ifCond .ge o, 3)) (hp : pc + 3 = npc) (ht : (pc : Int) + o = (tpc : Int)) (yes : ¬ x < y → own_Go p.tables e below P (T.setTop (mkF m tpc ls st))) (no : x < y → own_Go p.tables e below P (T.setTop (mkF m npc ls st))) : own_Go p.tables e below P (T.setTop (mkF m pc ls (.int (Jvm.Free.XT.cmpL x y) :: st))) := by
  subst hp; obtain ⟨_, X, -, -⟩ := X
  by_cases q : ¬ x < y
  · exact (yes q).st fun t k => Jvm.Free.XS.ifYes X.here C.1 rfl (pc0 := pc) (pc' := tpc) rfl (hb C.2.1 hd) rfl (Jvm.Free.XT.ll_ge_t q) (by omega) (by omega) k
  · have q := Decidable.not_not.mp q
    exact (no q).st fun t k => Jvm.Free.XS.ifNo X.here C.1 rfl (hb C.2.1 hd) rfl (Jvm.Free.XT.ll_ge_f q) k
theorem k_ifl_gt (C : own_C p s m meth c Z own nm code ml rt) (X : own_S p l e R s m args below meth c Z T L k n) {x y : Int64} {o : Int} (hd : decode code pc = .ok (.ifCond .gt o, 3)) (hp : pc + 3 = npc) (ht : (pc : Int) + o = (tpc : Int)) (yes : y < x → own_Go p.tables e below P (T.setTop (mkF m tpc ls st))) (no : ¬ y < x → own_Go p.tables e below P (T.setTop (mkF m npc ls st))) : own_Go p.tables e below P (T.setTop (mkF m pc ls (.int (Jvm.Free.XT.cmpL x y) :: st))) := by
  subst hp; obtain ⟨_, X, -, -⟩ := X
  by_cases q : y < x
  · exact (yes q).st fun t k => Jvm.Free.XS.ifYes X.here C.1 rfl (pc0 := pc) (pc' := tpc) rfl (hb C.2.1 hd) rfl (Jvm.Free.XT.ll_gt_t q) (by omega) (by omega) k
  · exact (no q).st fun t k => Jvm.Free.XS.ifNo X.here C.1 rfl (hb C.2.1 hd) rfl (Jvm.Free.XT.ll_gt_f q) k
theorem k_ifl_le (C : own_C p s m meth c Z own nm code ml rt) (X : own_S p l e R s m args below meth c Z T L k n) {x y : Int64} {o : Int} (hd : decode code pc = .ok (.ifCond .le o, 3)) (hp : pc + 3 = npc) (ht : (pc : Int) + o = (tpc : Int)) (yes : ¬ y < x → own_Go p.tables e below P (T.setTop (mkF m tpc ls st))) (no : y < x → own_Go p.tables e below P (T.setTop (mkF m npc ls st))) : own_Go p.tables e below P (T.setTop (mkF m pc ls (.int (Jvm.Free.XT.cmpL x y) :: st))) := by
  subst hp; obtain ⟨_, X, -, -⟩ := X
  by_cases q : ¬ y < x
  · exact (yes q).st fun t k => Jvm.Free.XS.ifYes X.here C.1 rfl (pc0 := pc) (pc' := tpc) rfl (hb C.2.1 hd) rfl (Jvm.Free.XT.ll_le_t q) (by omega) (by omega) k
  · have q := Decidable.not_not.mp q
    exact (no q).st fun t k => Jvm.Free.XS.ifNo X.here C.1 rfl (hb C.2.1 hd) rfl (Jvm.Free.XT.ll_le_f q) k
theorem k_ifdl_eq (C : own_C p s m meth c Z own nm code ml rt) (X : own_S p l e R s m args below meth c Z T L k n) {x y : UInt64} {o : Int} (hd : decode code pc = .ok (.ifCond .eq o, 3)) (hp : pc + 3 = npc) (ht : (pc : Int) + o = (tpc : Int)) (yes : (FP.dcmp x y = some .eq) → own_Go p.tables e below P (T.setTop (mkF m tpc ls st))) (no : ¬ (FP.dcmp x y = some .eq) → own_Go p.tables e below P (T.setTop (mkF m npc ls st))) : own_Go p.tables e below P (T.setTop (mkF m pc ls (.int (FP.cmpInt (-1) (FP.dcmp x y)) :: st))) := by
  subst hp; obtain ⟨_, X, -, -⟩ := X
  rcases hq : FP.dcmp x y with _ | (_ | _ | _) <;> simp only [hq] at yes no
  all_goals first
    | exact (yes (by simp)).st fun t k => Jvm.Free.XS.ifYes X.here C.1 rfl (pc0 := pc) (pc' := tpc) rfl (hb C.2.1 hd) rfl (by decide) (by omega) (by omega) k
    | exact (no (by simp)).st fun t k => Jvm.Free.XS.ifNo X.here C.1 rfl (hb C.2.1 hd) rfl (by decide) k
theorem k_ifdl_ne (C : own_C p s m meth c Z own nm code ml rt) (X : own_S p l e R s m args below meth c Z T L k n) {x y : UInt64} {o : Int} (hd : decode code pc = .ok (.ifCond .ne o, 3)) (hp : pc + 3 = npc) (ht : (pc : Int) + o = (tpc : Int)) (yes : ¬ (FP.dcmp x y = some .eq) → own_Go p.tables e below P (T.setTop (mkF m tpc ls st))) (no : (FP.dcmp x y = some .eq) → own_Go p.tables e below P (T.setTop (mkF m npc ls st))) : own_Go p.tables e below P (T.setTop (mkF m pc ls (.int (FP.cmpInt (-1) (FP.dcmp x y)) :: st))) := by
  subst hp; obtain ⟨_, X, -, -⟩ := X
  rcases hq : FP.dcmp x y with _ | (_ | _ | _) <;> simp only [hq] at yes no
  all_goals first
    | exact (yes (by simp)).st fun t k => Jvm.Free.XS.ifYes X.here C.1 rfl (pc0 := pc) (pc' := tpc) rfl (hb C.2.1 hd) rfl (by decide) (by omega) (by omega) k
    | exact (no (by simp)).st fun t k => Jvm.Free.XS.ifNo X.here C.1 rfl (hb C.2.1 hd) rfl (by decide) k
theorem k_ifdl_lt (C : own_C p s m meth c Z own nm code ml rt) (X : own_S p l e R s m args below meth c Z T L k n) {x y : UInt64} {o : Int} (hd : decode code pc = .ok (.ifCond .lt o, 3)) (hp : pc + 3 = npc) (ht : (pc : Int) + o = (tpc : Int)) (yes : (FP.dcmp x y = some .lt ∨ FP.dcmp x y = none) → own_Go p.tables e below P (T.setTop (mkF m tpc ls st))) (no : ¬ (FP.dcmp x y = some .lt ∨ FP.dcmp x y = none) → own_Go p.tables e below P (T.setTop (mkF m npc ls st))) : own_Go p.tables e below P (T.setTop (mkF m pc ls (.int (FP.cmpInt (-1) (FP.dcmp x y)) :: st))) := by
  subst hp; obtain ⟨_, X, -, -⟩ := X
  rcases hq : FP.dcmp x y with _ | (_ | _ | _) <;> simp only [hq] at yes no
  all_goals first
    | exact (yes (by simp)).st fun t k => Jvm.Free.XS.ifYes X.here C.1 rfl (pc0 := pc) (pc' := tpc) rfl (hb C.2.1 hd) rfl (by decide) (by omega) (by omega) k
    | exact (no (by simp)).st fun t k => Jvm.Free.XS.ifNo X.here C.1 rfl (hb C.2.1 hd) rfl (by decide) k
theorem k_ifdl_ge (C : own_C p s m meth c Z own nm code ml rt) (X : own_S p l e R s m args below meth c Z T L k n) {x y : UInt64} {o : Int} (hd : decode code pc = .ok (.ifCond .ge o, 3)) (hp : pc + 3 = npc) (ht : (pc : Int) + o = (tpc : Int)) (yes : ¬ (FP.dcmp x y = some .lt ∨ FP.dcmp x y = none) → own_Go p.tables e below P (T.setTop (mkF m tpc ls st))) (no : (FP.dcmp x y = some .lt ∨ FP.dcmp x y = none) → own_Go p.tables e below P (T.setTop (mkF m npc ls st))) : own_Go p.tables e below P (T.setTop (mkF m pc ls (.int (FP.cmpInt (-1) (FP.dcmp x y)) :: st))) := by
  subst hp; obtain ⟨_, X, -, -⟩ := X
  rcases hq : FP.dcmp x y with _ | (_ | _ | _) <;> simp only [hq] at yes no
  all_goals first
    | exact (yes (by simp)).st fun t k => Jvm.Free.XS.ifYes X.here C.1 rfl (pc0 := pc) (pc' := tpc) rfl (hb C.2.1 hd) rfl (by decide) (by omega) (by omega) k
    | exact (no (by simp)).st fun t k => Jvm.Free.XS.ifNo X.here C.1 rfl (hb C.2.1 hd) rfl (by decide) k
theorem k_ifdl_gt (C : own_C p s m meth c Z own nm code ml rt) (X : own_S p l e R s m args below meth c Z T L k n) {x y : UInt64} {o : Int} (hd : decode code pc = .ok (.ifCond .gt o, 3)) (hp : pc + 3 = npc) (ht : (pc : Int) + o = (tpc : Int)) (yes : (FP.dcmp x y = some .gt) → own_Go p.tables e below P (T.setTop (mkF m tpc ls st))) (no : ¬ (FP.dcmp x y = some .gt) → own_Go p.tables e below P (T.setTop (mkF m npc ls st))) : own_Go p.tables e below P (T.setTop (mkF m pc ls (.int (FP.cmpInt (-1) (FP.dcmp x y)) :: st))) := by
  subst hp; obtain ⟨_, X, -, -⟩ := X
  rcases hq : FP.dcmp x y with _ | (_ | _ | _) <;> simp only [hq] at yes no
  all_goals first
    | exact (yes (by simp)).st fun t k => Jvm.Free.XS.ifYes X.here C.1 rfl (pc0 := pc) (pc' := tpc) rfl (hb C.2.1 hd) rfl (by decide) (by omega) (by omega) k
    | exact (no (by simp)).st fun t k => Jvm.Free.XS.ifNo X.here C.1 rfl (hb C.2.1 hd) rfl (by decide) k
theorem k_ifdl_le (C : own_C p s m meth c Z own nm code ml rt) (X : own_S p l e R s m args below meth c Z T L k n) {x y : UInt64} {o : Int} (hd : decode code pc = .ok (.ifCond .le o, 3)) (hp : pc + 3 = npc) (ht : (pc : Int) + o = (tpc : Int)) (yes : ¬ (FP.dcmp x y = some .gt) → own_Go p.tables e below P (T.setTop (mkF m tpc ls st))) (no : (FP.dcmp x y = some .gt) → own_Go p.tables e below P (T.setTop (mkF m npc ls st))) : own_Go p.tables e below P (T.setTop (mkF m pc ls (.int (FP.cmpInt (-1) (FP.dcmp x y)) :: st))) := by
  subst hp; obtain ⟨_, X, -, -⟩ := X
  rcases hq : FP.dcmp x y with _ | (_ | _ | _) <;> simp only [hq] at yes no
  all_goals first
    | exact (yes (by simp)).st fun t k => Jvm.Free.XS.ifYes X.here C.1 rfl (pc0 := pc) (pc' := tpc) rfl (hb C.2.1 hd) rfl (by decide) (by omega) (by omega) k
    | exact (no (by simp)).st fun t k => Jvm.Free.XS.ifNo X.here C.1 rfl (hb C.2.1 hd) rfl (by decide) k
theorem k_ifdg_eq (C : own_C p s m meth c Z own nm code ml rt) (X : own_S p l e R s m args below meth c Z T L k n) {x y : UInt64} {o : Int} (hd : decode code pc = .ok (.ifCond .eq o, 3)) (hp : pc + 3 = npc) (ht : (pc : Int) + o = (tpc : Int)) (yes : (FP.dcmp x y = some .eq) → own_Go p.tables e below P (T.setTop (mkF m tpc ls st))) (no : ¬ (FP.dcmp x y = some .eq) → own_Go p.tables e below P (T.setTop (mkF m npc ls st))) : own_Go p.tables e below P (T.setTop (mkF m pc ls (.int (FP.cmpInt 1 (FP.dcmp x y)) :: st))) := by
  subst hp; obtain ⟨_, X, -, -⟩ := X
  rcases hq : FP.dcmp x y with _ | (_ | _ | _) <;> simp only [hq] at yes no
  all_goals first
    | exact (yes (by simp)).st fun t k => Jvm.Free.XS.ifYes X.here C.1 rfl (pc0 := pc) (pc' := tpc) rfl (hb C.2.1 hd) rfl (by decide) (by omega) (by omega) k
    | exact (no (by simp)).st fun t k => Jvm.Free.XS.ifNo X.here C.1 rfl (hb C.2.1 hd) rfl (by decide) k
theorem k_ifdg_ne (C : own_C p s m meth c Z own nm code ml rt) (X : own_S p l e R s m args below meth c Z T L k n) {x y : UInt64} {o : Int} (hd : decode code pc = .ok (.ifCond .ne o, 3)) (hp : pc + 3 = npc) (ht : (pc : Int) + o = (tpc : Int)) (yes : ¬ (FP.dcmp x y = some .eq) → own_Go p.tables e below P (T.setTop (mkF m tpc ls st))) (no : (FP.dcmp x y = some .eq) → own_Go p.tables e below P (T.setTop (mkF m npc ls st))) : own_Go p.tables e below P (T.setTop (mkF m pc ls (.int (FP.cmpInt 1 (FP.dcmp x y)) :: st))) := by
  subst hp; obtain ⟨_, X, -, -⟩ := X
  rcases hq : FP.dcmp x y with _ | (_ | _ | _) <;> simp only [hq] at yes no
  all_goals first
    | exact (yes (by simp)).st fun t k => Jvm.Free.XS.ifYes X.here C.1 rfl (pc0 := pc) (pc' := tpc) rfl (hb C.2.1 hd) rfl (by decide) (by omega) (by omega) k
    | exact (no (by simp)).st fun t k => Jvm.Free.XS.ifNo X.here C.1 rfl (hb C.2.1 hd) rfl (by decide) k
theorem k_ifdg_lt (C : own_C p s m meth c Z own nm code ml rt) (X : own_S p l e R s m args below meth c Z T L k n) {x y : UInt64} {o : Int} (hd : decode code pc = .ok (.ifCond .lt o, 3)) (hp : pc + 3 = npc) (ht : (pc : Int) + o = (tpc : Int)) (yes : (FP.dcmp x y = some .lt) → own_Go p.tables e below P (T.setTop (mkF m tpc ls st))) (no : ¬ (FP.dcmp x y = some .lt) → own_Go p.tables e below P (T.setTop (mkF m npc ls st))) : own_Go p.tables e below P (T.setTop (mkF m pc ls (.int (FP.cmpInt 1 (FP.dcmp x y)) :: st))) := by
  subst hp; obtain ⟨_, X, -, -⟩ := X
  rcases hq : FP.dcmp x y with _ | (_ | _ | _) <;> simp only [hq] at yes no
  all_goals first
    | exact (yes (by simp)).st fun t k => Jvm.Free.XS.ifYes X.here C.1 rfl (pc0 := pc) (pc' := tpc) rfl (hb C.2.1 hd) rfl (by decide) (by omega) (by omega) k
    | exact (no (by simp)).st fun t k => Jvm.Free.XS.ifNo X.here C.1 rfl (hb C.2.1 hd) rfl (by decide) k
theorem k_ifdg_ge (C : own_C p s m meth c Z own nm code ml rt) (X : own_S p l e R s m args below meth c Z T L k n) {x y : UInt64} {o : Int} (hd : decode code pc = .ok (.ifCond .ge o, 3)) (hp : pc + 3 = npc) (ht : (pc : Int) + o = (tpc : Int)) (yes : ¬ (FP.dcmp x y = some .lt) → own_Go p.tables e below P (T.setTop (mkF m tpc ls st))) (no : (FP.dcmp x y = some .lt) → own_Go p.tables e below P (T.setTop (mkF m npc ls st))) : own_Go p.tables e below P (T.setTop (mkF m pc ls (.int (FP.cmpInt 1 (FP.dcmp x y)) :: st))) := by
  subst hp; obtain ⟨_, X, -, -⟩ := X
  rcases hq : FP.dcmp x y with _ | (_ | _ | _) <;> simp only [hq] at yes no
  all_goals first
    | exact (yes (by simp)).st fun t k => Jvm.Free.XS.ifYes X.here C.1 rfl (pc0 := pc) (pc' := tpc) rfl (hb C.2.1 hd) rfl (by decide) (by omega) (by omega) k
    | exact (no (by simp)).st fun t k => Jvm.Free.XS.ifNo X.here C.1 rfl (hb C.2.1 hd) rfl (by decide) k
theorem k_ifdg_gt (C : own_C p s m meth c Z own nm code ml rt) (X : own_S p l e R s m args below meth c Z T L k n) {x y : UInt64} {o : Int} (hd : decode code pc = .ok (.ifCond .gt o, 3)) (hp : pc + 3 = npc) (ht : (pc : Int) + o = (tpc : Int)) (yes : (FP.dcmp x y = some .gt ∨ FP.dcmp x y = none) → own_Go p.tables e below P (T.setTop (mkF m tpc ls st))) (no : ¬ (FP.dcmp x y = some .gt ∨ FP.dcmp x y = none) → own_Go p.tables e below P (T.setTop (mkF m npc ls st))) : own_Go p.tables e below P (T.setTop (mkF m pc ls (.int (FP.cmpInt 1 (FP.dcmp x y)) :: st))) := by
  subst hp; obtain ⟨_, X, -, -⟩ := X
  rcases hq : FP.dcmp x y with _ | (_ | _ | _) <;> simp only [hq] at yes no
  all_goals first
    | exact (yes (by simp)).st fun t k => Jvm.Free.XS.ifYes X.here C.1 rfl (pc0 := pc) (pc' := tpc) rfl (hb C.2.1 hd) rfl (by decide) (by omega) (by omega) k
    | exact (no (by simp)).st fun t k => Jvm.Free.XS.ifNo X.here C.1 rfl (hb C.2.1 hd) rfl (by decide) k
theorem k_ifdg_le (C : own_C p s m meth c Z own nm code ml rt) (X : own_S p l e R s m args below meth c Z T L k n) {x y : UInt64} {o : Int} (hd : decode code pc = .ok (.ifCond .le o, 3)) (hp : pc + 3 = npc) (ht : (pc : Int) + o = (tpc : Int)) (yes : ¬ (FP.dcmp x y = some .gt ∨ FP.dcmp x y = none) → own_Go p.tables e below P (T.setTop (mkF m tpc ls st))) (no : (FP.dcmp x y = some .gt ∨ FP.dcmp x y = none) → own_Go p.tables e below P (T.setTop (mkF m npc ls st))) : own_Go p.tables e below P (T.setTop (mkF m pc ls (.int (FP.cmpInt 1 (FP.dcmp x y)) :: st))) := by
  subst hp; obtain ⟨_, X, -, -⟩ := X
  rcases hq : FP.dcmp x y with _ | (_ | _ | _) <;> simp only [hq] at yes no
  all_goals first
    | exact (yes (by simp)).st fun t k => Jvm.Free.XS.ifYes X.here C.1 rfl (pc0 := pc) (pc' := tpc) rfl (hb C.2.1 hd) rfl (by decide) (by omega) (by omega) k
    | exact (no (by simp)).st fun t k => Jvm.Free.XS.ifNo X.here C.1 rfl (hb C.2.1 hd) rfl (by decide) k
theorem k_ifnull_y (C : own_C p s m meth c Z own nm code ml rt) (X : own_S p l e R s m args below meth c Z T L k n)  {o : Int} (hd : decode code pc = .ok (.ifnull o, 3)) (ht : (pc : Int) + o = (tpc : Int)) (g : own_Go p.tables e below P (T.setTop (mkF m tpc ls st))) : own_Go p.tables e below P (T.setTop (mkF m pc ls (.null :: st))) := by
  obtain ⟨_, X, -, -⟩ := X
  exact g.st fun t k => Jvm.Free.XS.ifnullYes X.here C.1 rfl (pc0 := pc) (pc' := tpc) rfl (hb C.2.1 hd) rfl (by omega) (by omega) k
theorem k_ifnull_n (C : own_C p s m meth c Z own nm code ml rt) (X : own_S p l e R s m args below meth c Z T L k n) {b : Addr} {o : Int} (hd : decode code pc = .ok (.ifnull o, 3)) (hp : pc + 3 = npc) (g : own_Go p.tables e below P (T.setTop (mkF m npc ls st))) : own_Go p.tables e below P (T.setTop (mkF m pc ls (.ref b :: st))) := by
  subst hp; obtain ⟨_, X, -, -⟩ := X
  exact g.st fun t k => Jvm.Free.XS.ifnullNo X.here C.1 rfl (hb C.2.1 hd) rfl k
theorem k_ifnonnull_y (C : own_C p s m meth c Z own nm code ml rt) (X : own_S p l e R s m args below meth c Z T L k n) {b : Addr} {o : Int} (hd : decode code pc = .ok (.ifnonnull o, 3)) (ht : (pc : Int) + o = (tpc : Int)) (g : own_Go p.tables e below P (T.setTop (mkF m tpc ls st))) : own_Go p.tables e below P (T.setTop (mkF m pc ls (.ref b :: st))) := by
  obtain ⟨_, X, -, -⟩ := X
  exact g.st fun t k => Jvm.Free.XT.ifnonnullYes X.here C.1 rfl (pc0 := pc) (pc' := tpc) rfl (hb C.2.1 hd) rfl (by omega) (by omega) k
theorem k_ifnonnull_n (C : own_C p s m meth c Z own nm code ml rt) (X : own_S p l e R s m args below meth c Z T L k n)  {o : Int} (hd : decode code pc = .ok (.ifnonnull o, 3)) (hp : pc + 3 = npc) (g : own_Go p.tables e below P (T.setTop (mkF m npc ls st))) : own_Go p.tables e below P (T.setTop (mkF m pc ls (.null :: st))) := by
  subst hp; obtain ⟨_, X, -, -⟩ := X
  exact g.st fun t k => Jvm.Free.XT.ifnonnullNo X.here C.1 rfl (hb C.2.1 hd) rfl k
theorem k_acmp_eq (C : own_C p s m meth c Z own nm code ml rt) (X : own_S p l e R s m args below meth c Z T L k n) {x y : Value} {o : Int} (hd : decode code pc = .ok (.if_acmp .eq o, 3)) (hp : pc + 3 = npc) (ht : (pc : Int) + o = (tpc : Int)) (hx : x.isRef = true) (hy : y.isRef = true) (yes : x = y → own_Go p.tables e below P (T.setTop (mkF m tpc ls st))) (no : ¬ x = y → own_Go p.tables e below P (T.setTop (mkF m npc ls st))) : own_Go p.tables e below P (T.setTop (mkF m pc ls (y :: x :: st))) := by
  subst hp; obtain ⟨_, X, -, -⟩ := X
  by_cases q : x = y
  · exact (yes q).st fun t k => Jvm.Free.XT.acmpYes X.here C.1 rfl (pc0 := pc) (pc' := tpc) rfl (hb C.2.1 hd) rfl hx hy (Jvm.Free.XT.aa_eq_t q) (by omega) (by omega) k
  · exact (no q).st fun t k => Jvm.Free.XT.acmpNo X.here C.1 rfl (hb C.2.1 hd) rfl hx hy (Jvm.Free.XT.aa_eq_f q) k
theorem k_acmp_ne (C : own_C p s m meth c Z own nm code ml rt) (X : own_S p l e R s m args below meth c Z T L k n) {x y : Value} {o : Int} (hd : decode code pc = .ok (.if_acmp .ne o, 3)) (hp : pc + 3 = npc) (ht : (pc : Int) + o = (tpc : Int)) (hx : x.isRef = true) (hy : y.isRef = true) (yes : ¬ x = y → own_Go p.tables e below P (T.setTop (mkF m tpc ls st))) (no : x = y → own_Go p.tables e below P (T.setTop (mkF m npc ls st))) : own_Go p.tables e below P (T.setTop (mkF m pc ls (y :: x :: st))) := by
  subst hp; obtain ⟨_, X, -, -⟩ := X
  by_cases q : ¬ x = y
  · exact (yes q).st fun t k => Jvm.Free.XT.acmpYes X.here C.1 rfl (pc0 := pc) (pc' := tpc) rfl (hb C.2.1 hd) rfl hx hy (Jvm.Free.XT.aa_ne_t q) (by omega) (by omega) k
  · have q := Decidable.not_not.mp q
    exact (no q).st fun t k => Jvm.Free.XT.acmpNo X.here C.1 rfl (hb C.2.1 hd) rfl hx hy (Jvm.Free.XT.aa_ne_f q) k
theorem k_ldc (C : own_C p s m meth c Z own nm code ml rt) (X : own_S p l e R s m args below meth c Z T L k n) {i : Nat} {v : Int32} (hd : decode code pc = .ok (.ldc i, 2)) (hp : pc + 2 = npc) (hw : (Jvm.Cond.constant own i v).before a0 Z = true) (g : own_Go p.tables e below P (T.setTop (mkF m npc ls (.int v :: st)))) : own_Go p.tables e below P (T.setTop (mkF m pc ls st)) := by
  subst hp; obtain ⟨_, X, -, -⟩ := X
  exact g.st fun t k => X.ldcI C.1 C.2.2.2.2.1 (mv C.2.2.2.1 hw) rfl (hb C.2.1 hd) k
theorem k_ldc2l (C : own_C p s m meth c Z own nm code ml rt) (X : own_S p l e R s m args below meth c Z T L k n) {i : Nat} {v : Int64} (hd : decode code pc = .ok (.ldc2_w i, 3)) (hp : pc + 3 = npc) (hw : (Jvm.Cond.constantLong own i v).before a0 Z = true) (g : own_Go p.tables e below P (T.setTop (mkF m npc ls (.long v :: st)))) : own_Go p.tables e below P (T.setTop (mkF m pc ls st)) := by
  subst hp; obtain ⟨_, X, -, -⟩ := X
  exact g.st fun t k => X.ldc2J C.1 C.2.2.2.2.1 (mv C.2.2.2.1 hw) rfl (hb C.2.1 hd) k
theorem k_ldc2d (C : own_C p s m meth c Z own nm code ml rt) (X : own_S p l e R s m args below meth c Z T L k n) {i : Nat} {v : UInt64} (hd : decode code pc = .ok (.ldc2_w i, 3)) (hp : pc + 3 = npc) (hw : (Jvm.Cond.constantDouble own i v).before a0 Z = true) (g : own_Go p.tables e below P (T.setTop (mkF m npc ls (.double v :: st)))) : own_Go p.tables e below P (T.setTop (mkF m pc ls st)) := by
  subst hp; obtain ⟨_, X, -, -⟩ := X
  exact g.st fun t k => X.ldc2DoubleC C.1 C.2.2.2.2.1 (mv C.2.2.2.1 hw) (g := mkF m pc ls st) rfl (hb C.2.1 hd) _ k
theorem k_new (C : own_C p s m meth c Z own nm code ml rt) (X : own_S p l e R s m args below meth c Z T L k n) {i sl : Nat} {K : String} {N : List (String × String × FieldType)} {fs : List (String × String × Value)} (hd : decode code pc = .ok (.new i, 3)) (hp : pc + 3 = npc) (w1 : (Jvm.Cond.classLink own i K).before a0 Z = true) (w2 : (Jvm.Cond.instantiable K sl).before a0 Z = true) (w3 : (Jvm.Cond.initialized K).before a0 Z = true) (hN : own_lay Z a0 K N) (hfs : N.map (fun q => (q.1, q.2.1, defaultValue q.2.2)) = fs) (hk : k + 1 ≤ R.cells) (hn : n + sl ≤ R.slots)
    (g : ∀ T' a, own_S p l e R s m args below meth c Z T' ((a, own_ob Z K fs) :: L) (k + 1) (n + sl) → own_Go p.tables e below P (T'.setTop (mkF m npc ls (.ref a :: st)))) : own_Go p.tables e below P (T.setTop (mkF m pc ls st)) := by
  subst hp hfs; obtain ⟨locs, X, hF, hH⟩ := X
  obtain ⟨T', h', X', e', E', A', D', -, st'⟩ := newO X C.1 C.2.2.2.1 C.2.2.2.2.1 w1 w2 w3 rfl (g := mkF m pc ls st) rfl (hb C.2.1 hd) hk hn
  subst e'
  refine (g T' _ ⟨locs, X', hF, ?_⟩).st st'
  obtain ⟨c', q1, q2⟩ : ∃ c', T'.heap[T.heap.size]? = some c' ∧ own_ex Z K c' := by obtain ⟨c', kk, h1, r⟩ := A'; exact ⟨c', h1, kk, r⟩
  refine hH.push E' q1 ⟨q2, fun q hq => ?_⟩
  obtain ⟨r, hr, rfl⟩ := List.mem_map.mp hq
  obtain ⟨r1, r2⟩ := hN.mem r hr
  exact own_fd.of q1 (D' r1 r2)

theorem k_getfield (C : own_C p s m meth c Z own nm code ml rt) (X : own_S p l e R s m args below meth c Z T L k n) {i : Nat} {K f d host : String} {a : Addr} {v : Value} (hd : decode code pc = .ok (.getfield i, 3)) (hp : pc + 3 = npc) (hw : (Jvm.Cond.fieldLink own i K f d).before a0 Z = true ∨ (Jvm.Cond.fieldLinkNest own i K f d host).before a0 Z = true) (hF' : own_H Z.heap T.heap L → Fld Z T.heap a K f d v)
    (g : ∀ T', own_S p l e R s m args below meth c Z T' L k n → own_Go p.tables e below P (T'.setTop (mkF m npc ls (v :: st)))) : own_Go p.tables e below P (T.setTop (mkF m pc ls (.ref a :: st))) := by
  subst hp; obtain ⟨locs, X, hF, hH⟩ := X
  obtain ⟨T', X', e', st'⟩ := getF X C.1 C.2.2.2.1 C.2.2.2.2.1 hw Via.refl rfl (hF' hH) (g := mkF m pc ls (.ref a :: st)) rfl rfl (hb C.2.1 hd)
  exact (g T' ⟨locs, X', hF, by rw [e']; exact hH⟩).st st'

theorem k_putfield (C : own_C p s m meth c Z own nm code ml rt) (X : own_S p l e R s m args below meth c Z T L k n) {i ix j sl : Nat} {K f d host : String} {a : Addr} {v old : Value} {fs fs' : List (String × String × Value)} {N : List (String × String × FieldType)} {ty : FieldType} {L' : List (Addr × (Cell → Prop))} (hd : decode code pc = .ok (.putfield i, 3)) (hp : pc + 3 = npc) (hw : (Jvm.Cond.fieldLink own i K f d).before a0 Z = true ∨ (Jvm.Cond.fieldLinkNest own i K f d host).before a0 Z = true) (w2 : (Jvm.Cond.instantiable K sl).before a0 Z = true) (hlay : (Jvm.Cond.lays K K f d).before a0 Z = true ∨ ((Jvm.Cond.laysFinal K K f d).before a0 Z = true ∧ own = K ∧ nm = "<init>"))
    (hN : own_lay Z a0 K N) (hND : (N.map (·.1)).Nodup) (hi : L[ix]? = some (a, own_ob Z K fs)) (hfN : fs.map (fun q => (q.1, q.2.1)) = N.map (fun q => (q.1, q.2.1))) (hj : fs[j]? = some (f, d, old)) (hfs : fs.set j (f, d, v) = fs') (hty : parseFieldDescriptor d = some ty) (hnar : narrow ty v = v) (hfit : fits ty v = true) (hL : L.set ix (a, own_ob Z K fs') = L')
    (g : ∀ T', own_S p l e R s m args below meth c Z T' L' k n → own_Go p.tables e below P (T'.setTop (mkF m npc ls st))) : own_Go p.tables e below P (T.setTop (mkF m pc ls (v :: .ref a :: st))) := by
  subst hp hfs hL; obtain ⟨locs, X, hF, hH⟩ := X
  obtain ⟨ha, cc, h1, h2⟩ := hH.get hi
  have F := (h2.2 _ (List.mem_of_getElem? hj)).fld h1
  obtain ⟨T', h', X', e', W', st'⟩ := putF X C.1 C.2.2.2.1 C.2.2.2.2.1 hw Via.refl rfl F (h2.1.exa h1) (hlay.imp id fun q => ⟨q.1, q.2.1, C.2.2.2.2.2.1.trans q.2.2⟩) w2 hty hnar hfit (g := mkF m pc ls (v :: .ref a :: st)) rfl rfl (hb C.2.1 hd)
  subst e'
  refine (g T' ⟨_, X', Fr.snoc X' hF ha, ?_⟩).st st'
  have hname : ∀ q ∈ fs, ∃ t, Laid Z a0 K K q.1 q.2.1 ∧ parseFieldDescriptor q.2.1 = some t := fun q hq => by
    have : (q.1, q.2.1) ∈ N.map (fun q => (q.1, q.2.1)) := by rw [← hfN]; exact List.mem_map.mpr ⟨q, hq, rfl⟩
    obtain ⟨r, hr, e⟩ := List.mem_map.mp this
    obtain ⟨r1, r2⟩ := hN.mem r hr
    have e1 : r.1 = q.1 := congrArg Prod.fst e
    have e2 : r.2.1 = q.2.1 := congrArg Prod.snd e
    exact ⟨_, by rw [← e1, ← e2]; exact r1, by rw [← e2]; exact r2⟩
  have hnd : (fs.map (·.1)).Nodup := by
    have : fs.map (·.1) = N.map (·.1) := by
      have := congrArg (List.map Prod.fst) hfN
      simpa [List.map_map, Function.comp_def] using this
    rw [this]; exact hND
  obtain ⟨t1, hl1, hp1⟩ := hname _ (List.mem_of_getElem? hj)
  refine hH.set hi W' fun c hc hsl => ⟨?_, fun q hq => ?_⟩
  · obtain ⟨k1, r1, r2, r3, r4⟩ := hc.1
    exact ⟨k1, r1, r2, r3, fun q => by rw [← r4 q]; simp [Cell.setSlot]⟩
  · rcases own_setmem hq with rfl | ⟨j', hj', e⟩
    · obtain ⟨cf, k1, i1, f1, r1, r2, r3, r4, r5, r6⟩ := hc.2 _ (List.mem_of_getElem? hj)
      refine ⟨cf, k1, i1, f1, r1, r2, r3, r4, r5, ?_⟩
      have es : Jvm.RoadKit.slotOf Z K f d = f1.slot := by simp [Jvm.RoadKit.slotOf, r1]
      rw [es] at hsl ⊢
      simp [Cell.setSlot, hsl]
    · obtain ⟨cf, k1, i1, f1, r1, r2, r3, r4, r5, r6⟩ := hc.2 q (List.mem_of_getElem? e)
      refine ⟨cf, k1, i1, f1, r1, r2, r3, r4, r5, ?_⟩
      obtain ⟨t2, hl2, hp2⟩ := hname q (List.mem_of_getElem? e)
      have hne : q.1 ≠ f := own_nodup_ne (L := fs.map (·.1)) hnd (i := j') (j := j) (by rw [List.getElem?_map, e]; rfl) (by rw [List.getElem?_map, hj]; rfl) hj'
      have hs := slot_ne hl2 hl1 hne hp2 hp1
      have es : Jvm.RoadKit.slotOf Z K q.1 q.2.1 = f1.slot := by simp [Jvm.RoadKit.slotOf, r1]
      rw [es] at hs
      rw [← r6]
      simp only [Cell.setSlot]
      exact Array.getElem?_setIfInBounds_ne (fun z => hs z.symm)

theorem k_getstatic (C : own_C p s m meth c Z own nm code ml rt) (X : own_S p l e R s m args below meth c Z T L k n) {i : Nat} {K f d : String} {v : Value} (hd : decode code pc = .ok (.getstatic i, 3)) (hp : pc + 3 = npc) (hw : (Jvm.Cond.fieldLink own i K f d).before a0 Z = true) (F : Sta Z Z.heap K f d v)
    (g : ∀ T', own_S p l e R s m args below meth c Z T' L k n → own_Go p.tables e below P (T'.setTop (mkF m npc ls (v :: st)))) : own_Go p.tables e below P (T.setTop (mkF m pc ls st)) := by
  subst hp; obtain ⟨locs, X, hF, hH⟩ := X
  obtain ⟨T', X', e', st'⟩ := getS X C.1 C.2.2.2.1 (host := "") C.2.2.2.2.1 hw Via.refl rfl (F.ext hH.1) (g := mkF m pc ls st) rfl (hb C.2.1 hd)
  exact (g T' ⟨locs, X', hF, by rw [e']; exact hH⟩).st st'

theorem k_newarray (C : own_C p s m meth c Z own nm code ml rt) (X : own_S p l e R s m args below meth c Z T L k n) {aty : ArrayType} {ty : FieldType} {z : Int32} {cap : Nat} {vs : List Value} (hd : decode code pc = .ok (.newarray aty, 2)) (hp : pc + 2 = npc) (hty : newarray.typeOf aty = ty) (w1 : (Jvm.Cond.arrayClass ty).before a0 Z = true) (hz : ¬ z < 0) (hcap : z.toNatClampNeg ≤ cap) (hb' : cap * 8 ≤ 536870912) (hk : k + 1 ≤ R.cells) (hn : n + cap ≤ R.slots) (hvs : List.replicate z.toNatClampNeg (defaultValue ty) = vs)
    (g : ∀ T' a, own_S p l e R s m args below meth c Z T' ((a, own_ar Z ty vs) :: L) (k + 1) (n + cap) → own_Go p.tables e below P (T'.setTop (mkF m npc ls (.ref a :: st)))) : own_Go p.tables e below P (T.setTop (mkF m pc ls (.int z :: st))) := by
  subst hp hvs hty; obtain ⟨locs, X, hF, hH⟩ := X
  obtain ⟨T', h', cA, X', e', E', A', B', st'⟩ := newPE X C.1 C.2.2.2.1 w1 rfl (g := mkF m pc ls (.int z :: st)) rfl (hb C.2.1 hd) rfl hz hcap hb' hk hn (ad := "[" ++ (newarray.typeOf aty).toString) rfl
  subst e'
  refine (g T' _ ⟨locs, X', hF, ?_⟩).st st'
  exact hH.push E' A'.1 ⟨A'.2.1, A'.2.2, by simp [newA], own_ex.of B' A'.1⟩

theorem k_arraylength (C : own_C p s m meth c Z own nm code ml rt) (X : own_S p l e R s m args below meth c Z T L k n) {ix : Nat} {a : Addr} {ty : FieldType} {vs : List Value} {z : Int32} (hd : decode code pc = .ok (.arraylength, 1)) (hp : pc + 1 = npc) (hi : L[ix]? = some (a, own_ar Z ty vs)) (hz : vs.length.toInt32 = z) (g : own_Go p.tables e below P (T.setTop (mkF m npc ls (.int z :: st)))) : own_Go p.tables e below P (T.setTop (mkF m pc ls (.ref a :: st))) := by
  subst hp hz; obtain ⟨locs, X, hF, hH⟩ := X
  obtain ⟨-, cc, h1, h2⟩ := hH.get hi
  have e : cc.slots.size = vs.length := by rw [← h2.2.2.1]; simp
  rw [← e] at g
  exact g.st fun t k => X.arraylength C.1 h1 (State.isArrayOf_alike C.2.2.2.1.alike h2.1) (g := mkF m pc ls (.ref a :: st)) rfl rfl (hb C.2.1 hd) _ k
theorem own_in {j : Int32} {i : Nat} {c : Cell} {vs : List Value} {v : Value} (hn : ¬ j < 0) (hj : j.toNatClampNeg = i) (e : c.slots.toList = vs) (hv : vs[i]? = some v) : ¬ (j < 0 ∨ c.slots.size ≤ j.toNatClampNeg) ∧ c.slots[j.toNatClampNeg]? = some v := by
  subst hj e
  rw [Array.getElem?_toList] at hv
  have := (Array.getElem?_eq_some_iff.mp hv).1
  exact ⟨fun q => q.elim hn (by omega), hv⟩
theorem own_len32 (L : Nat) (h : L < 2147483648) : (L.toInt32).toNatClampNeg = L ∧ ¬ L.toInt32 < 0 := by
  have q : L.toInt32.toInt = L := len_toInt (by omega)
  simp only [Int32.lt_iff_toInt_lt, Int32.toNatClampNeg, q, Int32.reduceToInt]; omega

theorem k_iaload (C : own_C p s m meth c Z own nm code ml rt) (X : own_S p l e R s m args below meth c Z T L k n) {ix i : Nat} {a : Addr} {j : Int32} {vs : List Value} {v : Value} (hd : decode code pc = .ok (.iaload, 1)) (hp : pc + 1 = npc) (hi : L[ix]? = some (a, own_ar Z .int vs)) (hn : ¬ j < 0) (hj : j.toNatClampNeg = i) (hv : vs[i]? = some v) (g : own_Go p.tables e below P (T.setTop (mkF m npc ls (v :: st)))) : own_Go p.tables e below P (T.setTop (mkF m pc ls (.int j :: .ref a :: st))) := by
  subst hp; obtain ⟨locs, X, hF, hH⟩ := X
  obtain ⟨-, cc, h1, h2⟩ := hH.get hi
  obtain ⟨q1, q2⟩ := own_in hn hj h2.2.2.1 hv
  exact g.st fun t k => X.iaload C.1 h1 (State.isArrayOf_alike C.2.2.2.1.alike h2.1) h2.2.1 q1 q2 (g := mkF m pc ls (.int j :: .ref a :: st)) rfl rfl (hb C.2.1 hd) _ k

theorem k_daload (C : own_C p s m meth c Z own nm code ml rt) (X : own_S p l e R s m args below meth c Z T L k n) {ix i : Nat} {a : Addr} {j : Int32} {vs : List Value} {v : Value} (hd : decode code pc = .ok (.daload, 1)) (hp : pc + 1 = npc) (hi : L[ix]? = some (a, own_ar Z .double vs)) (hn : ¬ j < 0) (hj : j.toNatClampNeg = i) (hv : vs[i]? = some v) (g : own_Go p.tables e below P (T.setTop (mkF m npc ls (v :: st)))) : own_Go p.tables e below P (T.setTop (mkF m pc ls (.int j :: .ref a :: st))) := by
  subst hp; obtain ⟨locs, X, hF, hH⟩ := X
  obtain ⟨-, cc, h1, h2⟩ := hH.get hi
  obtain ⟨q1, q2⟩ := own_in hn hj h2.2.2.1 hv
  exact g.st fun t k => X.daload C.1 h1 (State.isArrayOf_alike C.2.2.2.1.alike h2.1) h2.2.1 q1 q2 (g := mkF m pc ls (.int j :: .ref a :: st)) rfl rfl (hb C.2.1 hd) _ k

theorem k_laload (C : own_C p s m meth c Z own nm code ml rt) (X : own_S p l e R s m args below meth c Z T L k n) {ix i : Nat} {a : Addr} {j : Int32} {vs : List Value} {v : Value} (hd : decode code pc = .ok (.laload, 1)) (hp : pc + 1 = npc) (hi : L[ix]? = some (a, own_ar Z .long vs)) (hn : ¬ j < 0) (hj : j.toNatClampNeg = i) (hv : vs[i]? = some v) (g : own_Go p.tables e below P (T.setTop (mkF m npc ls (v :: st)))) : own_Go p.tables e below P (T.setTop (mkF m pc ls (.int j :: .ref a :: st))) := by
  subst hp; obtain ⟨locs, X, hF, hH⟩ := X
  obtain ⟨-, cc, h1, h2⟩ := hH.get hi
  obtain ⟨q1, q2⟩ := own_in hn hj h2.2.2.1 hv
  exact g.st fun t k => X.laload C.1 h1 (State.isArrayOf_alike C.2.2.2.1.alike h2.1) h2.2.1 q1 q2 (g := mkF m pc ls (.int j :: .ref a :: st)) rfl rfl (hb C.2.1 hd) _ k

theorem k_caload (C : own_C p s m meth c Z own nm code ml rt) (X : own_S p l e R s m args below meth c Z T L k n) {ix i : Nat} {a : Addr} {j : Int32} {vs : List Value} {v : Value} (hd : decode code pc = .ok (.caload, 1)) (hp : pc + 1 = npc) (hi : L[ix]? = some (a, own_ar Z .char vs)) (hn : ¬ j < 0) (hj : j.toNatClampNeg = i) (hv : vs[i]? = some v) (g : own_Go p.tables e below P (T.setTop (mkF m npc ls (v :: st)))) : own_Go p.tables e below P (T.setTop (mkF m pc ls (.int j :: .ref a :: st))) := by
  subst hp; obtain ⟨locs, X, hF, hH⟩ := X
  obtain ⟨-, cc, h1, h2⟩ := hH.get hi
  obtain ⟨q1, q2⟩ := own_in hn hj h2.2.2.1 hv
  exact g.st fun t k => X.caload C.1 h1 (State.isArrayOf_alike C.2.2.2.1.alike h2.1) h2.2.1 q1 q2 (g := mkF m pc ls (.int j :: .ref a :: st)) rfl rfl (hb C.2.1 hd) _ k

theorem k_iastore (C : own_C p s m meth c Z own nm code ml rt) (X : own_S p l e R s m args below meth c Z T L k n) {ix i : Nat} {a : Addr} {j : Int32} {x : Int32} {vs vs' : List Value} {L' : List (Addr × (Cell → Prop))} (hd : decode code pc = .ok (.iastore, 1)) (hp : pc + 1 = npc) (hi : L[ix]? = some (a, own_ar Z .int vs)) (hn : ¬ j < 0) (hj : j.toNatClampNeg = i) (hl : i < vs.length) (hvs : vs.set i (.int x) = vs') (hL : L.set ix (a, own_ar Z .int vs') = L')
    (g : ∀ T', own_S p l e R s m args below meth c Z T' L' k n → own_Go p.tables e below P (T'.setTop (mkF m npc ls st))) : own_Go p.tables e below P (T.setTop (mkF m pc ls (.int x :: .int j :: .ref a :: st))) := by
  subst hp hvs hL; obtain ⟨locs, X, hF, hH⟩ := X
  obtain ⟨ha, cc, h1, h2⟩ := hH.get hi
  obtain ⟨q1, -⟩ := own_in hn hj h2.2.2.1 (List.getElem?_eq_getElem hl)
  obtain ⟨T', h', X', e', W', st'⟩ := stI X C.1 C.2.2.2.1 rfl (h2.arr h1) (j := j) (x := x) q1 (g := mkF m pc ls (.int x :: .int j :: .ref a :: st)) rfl rfl (hb C.2.1 hd)
  subst e'
  refine (g T' ⟨_, X', Fr.snoc X' hF ha, ?_⟩).st st'
  refine hH.set hi W' fun c hc hsl => ⟨hc.1, hc.2.1, ?_, ?_⟩
  · rw [← hc.2.2.1, hj]; simp [Cell.setSlot]
  · obtain ⟨k1, r1, r2, r3, r4⟩ := hc.2.2.2
    exact ⟨k1, r1, r2, r3, fun q => by rw [← r4 q]; simp [Cell.setSlot]⟩

theorem k_dastore (C : own_C p s m meth c Z own nm code ml rt) (X : own_S p l e R s m args below meth c Z T L k n) {ix i : Nat} {a : Addr} {j : Int32} {x : UInt64} {vs vs' : List Value} {L' : List (Addr × (Cell → Prop))} (hd : decode code pc = .ok (.dastore, 1)) (hp : pc + 1 = npc) (hi : L[ix]? = some (a, own_ar Z .double vs)) (hn : ¬ j < 0) (hj : j.toNatClampNeg = i) (hl : i < vs.length) (hvs : vs.set i (.double x) = vs') (hL : L.set ix (a, own_ar Z .double vs') = L')
    (g : ∀ T', own_S p l e R s m args below meth c Z T' L' k n → own_Go p.tables e below P (T'.setTop (mkF m npc ls st))) : own_Go p.tables e below P (T.setTop (mkF m pc ls (.double x :: .int j :: .ref a :: st))) := by
  subst hp hvs hL; obtain ⟨locs, X, hF, hH⟩ := X
  obtain ⟨ha, cc, h1, h2⟩ := hH.get hi
  obtain ⟨q1, -⟩ := own_in hn hj h2.2.2.1 (List.getElem?_eq_getElem hl)
  obtain ⟨T', h', X', e', W', st'⟩ := stD X C.1 C.2.2.2.1 rfl (h2.arr h1) (j := j) (x := x) q1 (g := mkF m pc ls (.double x :: .int j :: .ref a :: st)) rfl rfl (hb C.2.1 hd)
  subst e'
  refine (g T' ⟨_, X', Fr.snoc X' hF ha, ?_⟩).st st'
  refine hH.set hi W' fun c hc hsl => ⟨hc.1, hc.2.1, ?_, ?_⟩
  · rw [← hc.2.2.1, hj]; simp [Cell.setSlot]
  · obtain ⟨k1, r1, r2, r3, r4⟩ := hc.2.2.2
    exact ⟨k1, r1, r2, r3, fun q => by rw [← r4 q]; simp [Cell.setSlot]⟩

theorem k_lastore (C : own_C p s m meth c Z own nm code ml rt) (X : own_S p l e R s m args below meth c Z T L k n) {ix i : Nat} {a : Addr} {j : Int32} {x : Int64} {vs vs' : List Value} {L' : List (Addr × (Cell → Prop))} (hd : decode code pc = .ok (.lastore, 1)) (hp : pc + 1 = npc) (hi : L[ix]? = some (a, own_ar Z .long vs)) (hn : ¬ j < 0) (hj : j.toNatClampNeg = i) (hl : i < vs.length) (hvs : vs.set i (.long x) = vs') (hL : L.set ix (a, own_ar Z .long vs') = L')
    (g : ∀ T', own_S p l e R s m args below meth c Z T' L' k n → own_Go p.tables e below P (T'.setTop (mkF m npc ls st))) : own_Go p.tables e below P (T.setTop (mkF m pc ls (.long x :: .int j :: .ref a :: st))) := by
  subst hp hvs hL; obtain ⟨locs, X, hF, hH⟩ := X
  obtain ⟨ha, cc, h1, h2⟩ := hH.get hi
  obtain ⟨q1, -⟩ := own_in hn hj h2.2.2.1 (List.getElem?_eq_getElem hl)
  obtain ⟨T', h', X', e', W', st'⟩ := stJ X C.1 C.2.2.2.1 rfl (h2.arr h1) (j := j) (x := x) q1 (g := mkF m pc ls (.long x :: .int j :: .ref a :: st)) rfl rfl (hb C.2.1 hd)
  subst e'
  refine (g T' ⟨_, X', Fr.snoc X' hF ha, ?_⟩).st st'
  refine hH.set hi W' fun c hc hsl => ⟨hc.1, hc.2.1, ?_, ?_⟩
  · rw [← hc.2.2.1, hj]; simp [Cell.setSlot]
  · obtain ⟨k1, r1, r2, r3, r4⟩ := hc.2.2.2
    exact ⟨k1, r1, r2, r3, fun q => by rw [← r4 q]; simp [Cell.setSlot]⟩

theorem own_fitsD (xs : List UInt64) : ∀ v ∈ xs.map Value.double, fits .double v = true := fun v hv => by obtain ⟨x, -, rfl⟩ := List.mem_map.mp hv; rfl
theorem k_clone (C : own_C p s m meth c Z own nm code ml rt) (X : own_S p l e R s m args below meth c Z T L k n) {i ix cap W : Nat} {a : Addr} {ty : FieldType} {ad : String} {vs : List Value} (hd : decode code pc = .ok (.invokevirtual i, 3)) (hp : pc + 3 = npc) (w1 : (Jvm.Cond.methodLink own i ⟨ad, "clone", "()Ljava/lang/Object;"⟩).before a0 Z = true) (w2 : (Jvm.Cond.sameMethod ad "java/lang/Object" "clone" "()Ljava/lang/Object;").before a0 Z = true) (w3 : (Jvm.Cond.native ⟨"java/lang/Object", "clone", "()Ljava/lang/Object;"⟩).before a0 Z = true) (w4 : (Jvm.Cond.instanceMethod ⟨"java/lang/Object", "clone", "()Ljava/lang/Object;"⟩).before a0 Z = true) (w5 : (Jvm.Cond.selects ad ⟨ad, "clone", "()Ljava/lang/Object;"⟩ ⟨"java/lang/Object", "clone", "()Ljava/lang/Object;"⟩).before a0 Z = true) (w6 : (Jvm.Cond.castable ad "java/lang/Cloneable").before a0 Z = true)
    (hi : L[ix]? = some (a, own_ar Z ty vs)) (had : "[" ++ ty.toString = ad) (hfit : ∀ v ∈ vs, fits ty v = true) (hsz : ls.size = ml) (hW : (st.map fun v => v.category).sum ≤ W) (hf : 1 ≤ R.frames) (hlo : W + 14 ≤ R.locals) (hcap : vs.length ≤ cap) (hk : k + 1 ≤ R.cells) (hn : n + cap ≤ R.slots)
    (g : ∀ T' b, own_S p l e R s m args below meth c Z T' ((b, own_ar Z ty vs) :: L) (k + 1) (n + cap) → own_Go p.tables e below P (T'.setTop (mkF m npc ls (.ref b :: st)))) : own_Go p.tables e below P (T.setTop (mkF m pc ls (.ref a :: st))) := by
  subst hp had; obtain ⟨locs, X, hF, hH⟩ := X
  obtain ⟨-, cc, h1, h2⟩ := hH.get hi
  have A := h2.arr h1
  have FC : FitC Z cc := fitC_of A fun j hj v hv => hfit v (by rw [← h2.2.2.1]; exact Array.mem_toList_iff.mpr (Array.mem_of_getElem? hv))
  have hl : cc.slots.size = vs.length := by rw [← h2.2.2.1]; simp
  obtain ⟨T', h', X', e', E', A', B', st'⟩ := cloneA X C.1 C.2.2.2.1 C.2.2.2.2.1 w1 w2 w3 w4 w5 w6 rfl A (h2.2.2.2.exa h1) FC (g := mkF m pc ls (.ref a :: st)) rfl (hsz.trans C.2.2.1.symm) rfl (hb C.2.1 hd) hf (W := W) (cap := cap) (by show 2 * 0 + _ ≤ _; omega) hlo (by omega) hk hn
  subst e'
  refine (g T' _ ⟨locs, X', hF, ?_⟩).st st'
  exact hH.push E' A'.1 ⟨A'.2.1, A'.2.2, h2.2.2.1, own_ex.of B' A'.1⟩
theorem k_checkcast (C : own_C p s m meth c Z own nm code ml rt) (X : own_S p l e R s m args below meth c Z T L k n) {i : Nat} {a : Addr} {K : String} (hd : decode code pc = .ok (.checkcast i, 3)) (hp : pc + 3 = npc) (hw : (Jvm.Cond.classLink own i K).before a0 Z = true) (hI : own_H Z.heap T.heap L → Ins Z T.heap a K true)
    (g : ∀ T', own_S p l e R s m args below meth c Z T' L k n → own_Go p.tables e below P (T'.setTop (mkF m npc ls (.ref a :: st)))) : own_Go p.tables e below P (T.setTop (mkF m pc ls (.ref a :: st))) := by
  subst hp; obtain ⟨locs, X, hF, hH⟩ := X
  obtain ⟨T', X', e', st'⟩ := castY X C.1 C.2.2.2.1 C.2.2.2.2.1 hw rfl (hI hH) (g := mkF m pc ls (.ref a :: st)) rfl rfl (hb C.2.1 hd)
  exact (g T' ⟨locs, X', hF, by rw [e']; exact hH⟩).st st'
theorem own_iA {ix : Nat} {a : Addr} {ty : FieldType} {K : String} {vs : List Value} (hi : L[ix]? = some (a, own_ar Z ty vs)) (hK : "[" ++ ty.toString = K) (H : own_H Z.heap T.heap L) : Ins Z T.heap a K true := by
  subst hK
  obtain ⟨-, cc, h1, h2⟩ := H.get hi
  exact Ins.self (h2.2.2.2.exa h1)

theorem own_Con.back {y : MethodName} {bytes : ByteArray} {maxL : Nat} {ret : Option FieldType} {rm : Room} {as' : Array Value} {Q : Option Value → List (Addr × (Cell → Prop)) → Prop} (K : own_Con l Z y bytes maxL ret rm as' L Q) (hZ : Z.Warmed39 s.vm) (hH : own_H Z.heap T.heap L) (wc : (Jvm.Cond.code y bytes maxL ret).before a0 Z = true) (wz : (Jvm.Cond.initialized y.cls).before a0 Z = true) {W : Nat} (hf : rm.frames + 1 ≤ R.frames) (hl : W + (maxL + 11) + rm.locals ≤ R.locals) :
    Back l R p e below s args y 3 W (fun A a => a = as' ∧ A.U.heap = T.heap ∧ A.cells + rm.cells ≤ R.cells ∧ A.slots + rm.slots ≤ R.slots)
      (fun A _ v B => ∃ L0, (∃ M, Q v M ∧ own_H Z.heap B.U.heap M ∧ Fr Z.heap.size L0) ∧ B.locs = A.locs ++ L0 ∧ B.cells = A.cells + rm.cells ∧ B.slots = A.slots + rm.slots) :=
  backOf (h := T.heap) (Q := fun v h L0 => ∃ M, Q v M ∧ own_H Z.heap h M ∧ Fr Z.heap.size L0) ((K []).mono (fun a U q => ⟨q.1, q.2.1, by rw [q.2.2]; exact hH⟩) (fun _ _ _ _ _ q => q) fun a U o U' _ ⟨v, M, locs, q1, q2, q3, q4, q5⟩ => ⟨v, locs, q1, ⟨M, q2, q3, q4⟩, q5⟩) hZ wc wz hf hl
theorem own_Con.weak {y : MethodName} {bytes : ByteArray} {maxL : Nat} {ret : Option FieldType} {rm : Room} {as' : Array Value} {Q Q' : Option Value → List (Addr × (Cell → Prop)) → Prop} (K : own_Con l Z y bytes maxL ret rm as' L Q) (h : ∀ v M, Q v M → Q' v M) : own_Con l Z y bytes maxL ret rm as' L Q' := fun ws =>
  (K ws).mono (fun _ _ q => q) (fun _ _ _ _ _ q => q) fun a U o U' _ ⟨v, M, locs, q1, q2, q3⟩ => ⟨v, M, locs, q1, h v M q2, q3⟩

theorem k_static (C : own_C p s m meth c Z own nm code ml rt) (X : own_S p l e R s m args below meth c Z T L k n) {y : MethodName} {i : Nat} {bytes : ByteArray} {maxL : Nat} {ret : Option FieldType} {rm : Room} {as' : Array Value} {Q : Option Value → List (Addr × (Cell → Prop)) → Prop} {W : Nat} {rest argsL : List Value} {ps : List FieldType} {rr : Option FieldType} (hd : decode code pc = .ok (.invokestatic i, 3)) (hp : pc + 3 = npc) (w1 : (Jvm.Cond.methodLink own i y).before a0 Z = true) (w2 : (Jvm.Cond.static y).before a0 Z = true) (w3 : (Jvm.Cond.initialized y.cls).before a0 Z = true) (w4 : (Jvm.Cond.code y bytes maxL ret).before a0 Z = true) (hy : y.cls ≠ "java/lang/invoke/MethodHandle" ∧ y.cls ≠ "java/lang/invoke/VarHandle") (K : own_Con l Z y bytes maxL ret rm as' L Q) (hst : argsL.reverse ++ rest = st) (has : argsL.toArray = as') (hsz : ls.size = ml) (hpd : parseMethodDescriptor y.desc = some ⟨ps, rr⟩) (hle : argsL.length = ps.length) (hW : (rest.map fun v => v.category).sum ≤ W) (hf : rm.frames + 1 ≤ R.frames) (hlo : W + (maxL + 11) + rm.locals ≤ R.locals) (hk : k + rm.cells ≤ R.cells) (hn : n + rm.slots ≤ R.slots)
    (g : ∀ v T' M, Q v M → own_S p l e R s m args below meth c Z T' M (k + rm.cells) (n + rm.slots) → own_Go p.tables e below P (T'.setTop (mkF m npc ls (v.toList ++ rest)))) : own_Go p.tables e below P (T.setTop (mkF m pc ls st)) := by
  subst hp hst has; obtain ⟨locs, X, hF, hH⟩ := X
  obtain ⟨v, vm1, ⟨T1, Lq, kq, nq⟩, -, X1, ⟨L0, ⟨M, hQ, hH1, hF1⟩, hl1, hc1, hs1⟩, st1⟩ := Jvm.LawKit.callS X C.1 (y := y) C.2.2.2.2.1 (mvT C.2.2.2.1 w1) (mvT C.2.2.2.1 w2) (mvT C.2.2.2.1 w3) (mvT C.2.2.2.1 w4) hy (K.back (T := T) (W := W) C.2.2.2.1 hH w4 w3 hf hlo) (g := mkF m pc ls (argsL.reverse ++ rest)) rfl (hsz.trans C.2.2.1.symm) (argsL := argsL) (rest := rest) (lenOf hpd hle) rfl (by show 2 * 0 + _ ≤ _; omega) (hb C.2.1 hd) (fun _ _ => ⟨rfl, rfl, hk, hn⟩)
  dsimp only [Pt.U, Pt.locs, Pt.cells, Pt.slots] at X1 hl1 hc1 hs1 st1 hH1
  subst hl1 hc1 hs1
  exact (g v T1 M hQ ⟨_, X1, hF.app hF1, hH1⟩).st st1
theorem k_init (C : own_C p s m meth c Z own nm code ml rt) (X : own_S p l e R s m args below meth c Z T L k n) {y : MethodName} {i : Nat} {bytes : ByteArray} {maxL : Nat} {rm : Room} {as' : Array Value} {Q : Option Value → List (Addr × (Cell → Prop)) → Prop} {W : Nat} {rest argsL : List Value} {ps : List FieldType} {rr : Option FieldType} {a : Addr} (hd : decode code pc = .ok (.invokespecial i, 3)) (hp : pc + 3 = npc) (hnm : y.name = "<init>") (w1 : (Jvm.Cond.methodLink own i y).before a0 Z = true) (w2 : (Jvm.Cond.instanceMethod y).before a0 Z = true) (w3 : (Jvm.Cond.initialized y.cls).before a0 Z = true) (w4 : (Jvm.Cond.code y bytes maxL none).before a0 Z = true) (hy : y.cls ≠ "java/lang/invoke/MethodHandle" ∧ y.cls ≠ "java/lang/invoke/VarHandle") (K : own_Con l Z y bytes maxL none rm as' L Q) (hst : argsL.reverse ++ .ref a :: rest = st) (has : (.ref a :: argsL).toArray = as') (hsz : ls.size = ml) (hpd : parseMethodDescriptor y.desc = some ⟨ps, rr⟩) (hle : argsL.length = ps.length) (hW : (rest.map fun v => v.category).sum ≤ W) (hf : rm.frames + 1 ≤ R.frames) (hlo : W + (maxL + 11) + rm.locals ≤ R.locals) (hk : k + rm.cells ≤ R.cells) (hn : n + rm.slots ≤ R.slots)
    (g : ∀ v T' M, Q v M → own_S p l e R s m args below meth c Z T' M (k + rm.cells) (n + rm.slots) → own_Go p.tables e below P (T'.setTop (mkF m npc ls (v.toList ++ rest)))) : own_Go p.tables e below P (T.setTop (mkF m pc ls st)) := by
  subst hp hst has; obtain ⟨locs, X, hF, hH⟩ := X
  obtain ⟨v, vm1, ⟨T1, Lq, kq, nq⟩, -, X1, ⟨L0, ⟨M, hQ, hH1, hF1⟩, hl1, hc1, hs1⟩, st1⟩ := X.specialBack C.1 (y := y) hnm C.2.2.2.2.1 (mvT C.2.2.2.1 w1) (mvT C.2.2.2.1 w2) (mvT C.2.2.2.1 w4) hy (K.back (T := T) (W := W) C.2.2.2.1 hH w4 w3 hf hlo) (g := mkF m pc ls (argsL.reverse ++ .ref a :: rest)) rfl (hsz.trans C.2.2.1.symm) (Steps.refl _) (a := a) (argsL := argsL) (rest := rest) (lenOf hpd hle) rfl (by show 2 * 0 + _ ≤ _; omega) (hb C.2.1 hd) (fun _ _ => ⟨rfl, rfl, hk, hn⟩)
  dsimp only [Pt.U, Pt.locs, Pt.cells, Pt.slots] at X1 hl1 hc1 hs1 st1 hH1
  subst hl1 hc1 hs1
  exact (g v T1 M hQ ⟨_, X1, hF.app hF1, hH1⟩).st fun t q => st1.trans q
theorem k_virtual (C : own_C p s m meth c Z own nm code ml rt) (X : own_S p l e R s m args below meth c Z T L k n) {y : MethodName} {i : Nat} {bytes : ByteArray} {maxL : Nat} {ret : Option FieldType} {rm : Room} {as' : Array Value} {Q : Option Value → List (Addr × (Cell → Prop)) → Prop} {W : Nat} {rest argsL : List Value} {ps : List FieldType} {rr : Option FieldType} {K' : String} {a : Addr} (hd : decode code pc = .ok (.invokevirtual i, 3)) (hp : pc + 3 = npc) (w1 : (Jvm.Cond.methodLink own i y).before a0 Z = true) (w2 : (Jvm.Cond.declares y).before a0 Z = true) (w3 : (Jvm.Cond.initialized y.cls).before a0 Z = true) (w4 : (Jvm.Cond.code y bytes maxL ret).before a0 Z = true) (w5 : (Jvm.Cond.selects K' y y).before a0 Z = true) (w6 : (Jvm.Cond.instanceMethod y).before a0 Z = true) (hy : y.cls ≠ "java/lang/invoke/MethodHandle" ∧ y.cls ≠ "java/lang/invoke/VarHandle") (nf : NotFace s y) (hE : own_H Z.heap T.heap L → Exa Z T.heap a K') (K : own_Con l Z y bytes maxL ret rm as' L Q) (hst : argsL.reverse ++ .ref a :: rest = st) (has : (.ref a :: argsL).toArray = as') (hsz : ls.size = ml) (hpd : parseMethodDescriptor y.desc = some ⟨ps, rr⟩) (hle : argsL.length = ps.length) (hW : (rest.map fun v => v.category).sum ≤ W) (hf : rm.frames + 1 ≤ R.frames) (hlo : W + (maxL + 11) + rm.locals ≤ R.locals) (hk : k + rm.cells ≤ R.cells) (hn : n + rm.slots ≤ R.slots)
    (g : ∀ v T' M, Q v M → own_S p l e R s m args below meth c Z T' M (k + rm.cells) (n + rm.slots) → own_Go p.tables e below P (T'.setTop (mkF m npc ls (v.toList ++ rest)))) : own_Go p.tables e below P (T.setTop (mkF m pc ls st)) := by
  subst hp hst has; obtain ⟨locs, X, hF, hH⟩ := X
  obtain ⟨cB, kB, qa, -, qc⟩ := isOf (T := T) C.2.2.2.1 rfl (hE hH)
  obtain ⟨v, vm1, ⟨T1, Lq, kq, nq⟩, -, X1, ⟨L0, ⟨M, hQ, hH1, hF1⟩, hl1, hc1, hs1⟩, st1⟩ := X.virtualBack C.1 (y := y) (z := y) C.2.2.2.2.1 (mvT C.2.2.2.1 w1) (mvT C.2.2.2.1 w2) nf (mvT C.2.2.2.1 w5) (mvT C.2.2.2.1 w6) hy (K.back (T := T) (W := W) C.2.2.2.1 hH w4 w3 hf hlo) qa qc (g := mkF m pc ls (argsL.reverse ++ .ref a :: rest)) rfl (hsz.trans C.2.2.1.symm) (Steps.refl _) (argsL := argsL) (rest := rest) (lenOf hpd hle) rfl (by show 2 * 0 + _ ≤ _; omega) (hb C.2.1 hd) (fun _ _ => ⟨rfl, rfl, hk, hn⟩)
  dsimp only [Pt.U, Pt.locs, Pt.cells, Pt.slots] at X1 hl1 hc1 hs1 st1 hH1
  subst hl1 hc1 hs1
  exact (g v T1 M hQ ⟨_, X1, hF.app hF1, hH1⟩).st fun t q => st1.trans q
theorem k_initO (C : own_C p s m meth c Z own nm code ml rt) (X : own_S p l e R s m args below meth c Z T L k n) {i : Nat} {a : Addr} {W : Nat} (hd : decode code pc = .ok (.invokespecial i, 3)) (hp : pc + 3 = npc) (w1 : (Jvm.Cond.methodLink own i Lib.objectInit).before a0 Z = true) (w2 : (Jvm.Cond.instanceMethod Lib.objectInit).before a0 Z = true) (w3 : (Jvm.Cond.code Lib.objectInit ⟨#[0xb1]⟩ 1 none).before a0 Z = true) (hsz : ls.size = ml) (hW : (st.map fun v => v.category).sum ≤ W) (hf : 1 ≤ R.frames) (hlo : W + 12 ≤ R.locals)
    (g : ∀ T', own_S p l e R s m args below meth c Z T' L k n → own_Go p.tables e below P (T'.setTop (mkF m npc ls st))) : own_Go p.tables e below P (T.setTop (mkF m pc ls (.ref a :: st))) := by
  subst hp; obtain ⟨locs, X, hF, hH⟩ := X
  obtain ⟨T', X', e', st'⟩ := initO X C.1 C.2.2.2.1 C.2.2.2.2.1 w1 w2 w3 rfl (g := mkF m pc ls (.ref a :: st)) rfl (hsz.trans C.2.2.1.symm) rfl (hb C.2.1 hd) hf (W := W) (by show 2 * 0 + _ ≤ _; omega) hlo
  exact (g T' ⟨locs, X', hF, by rw [e']; exact hH⟩).st st'

theorem k_abs (C : own_C p s m meth c Z own nm code ml rt) (X : own_S p l e R s m args below meth c Z T L k n) {i : Nat} {bytes : ByteArray} {maxL W : Nat} {x : UInt64} (hd : decode code pc = .ok (.invokestatic i, 3)) (hp : pc + 3 = npc) (w1 : (Jvm.Cond.methodLink own i Jvm.Free.NT.mathAbs64N).before a0 Z = true) (w2 : (Jvm.Cond.static Jvm.Free.NT.mathAbs64N).before a0 Z = true) (w3 : (Jvm.Cond.initialized "java/lang/Math").before a0 Z = true) (w4 : (Jvm.Cond.code Jvm.Free.NT.mathAbs64N bytes maxL (some .double)).before a0 Z = true) (hx : Jvm.Free.Fl.NoNaN64 x) (hsz : ls.size = ml) (hW : (st.map fun v => v.category).sum ≤ W) (hf : 1 ≤ R.frames) (hlo : W + (maxL + 11) ≤ R.locals)
    (g : ∀ T', own_S p l e R s m args below meth c Z T' L k n → own_Go p.tables e below P (T'.setTop (mkF m npc ls (.double (x &&& 0x7fffffffffffffff) :: st)))) : own_Go p.tables e below P (T.setTop (mkF m pc ls (.double x :: st))) := by
  subst hp; obtain ⟨locs, X, hF, hH⟩ := X
  obtain ⟨v, vm1, ⟨T1, Lq, kq, nq⟩, -, X1, ⟨hB, hv⟩, st1⟩ := Jvm.LawKit.callS X C.1 (y := Jvm.Free.NT.mathAbs64N) C.2.2.2.2.1 (mvT C.2.2.2.1 w1) (mvT C.2.2.2.1 w2) (mvT C.2.2.2.1 w3) (mvT C.2.2.2.1 w4) (by decide) (Jvm.Free.NT.Abs64.pays (W := W) (len := 3) (mvT C.2.2.2.1 w4) (mvT C.2.2.2.1 w2) hf hlo) (g := mkF m pc ls (.double x :: st)) rfl (hsz.trans C.2.2.1.symm) (argsL := [.double x]) (rest := st) (lenOf Jvm.Free.NT.mathAbs64_desc rfl) rfl (by show 2 * 0 + _ ≤ _; omega) (hb C.2.1 hd) (fun _ _ => ⟨x, rfl, hx⟩)
  cases hB
  rw [hv x ⟨rfl, hx⟩] at st1
  exact (g _ ⟨locs, X1, hF, hH⟩).st st1

theorem k_return (C : own_C p s m meth c Z own nm code ml none) (X : own_S p l e R s m args below meth c Z T L k n) {Q : Option Value → List (Addr × (Cell → Prop)) → Prop} (hd : decode code pc = .ok (.return_, 1)) (hQ : Q none L) (hk : k ≤ R.cells) (hn : n ≤ R.slots) : own_Go p.tables e below (own_E Z s R Q) (T.setTop (mkF m pc ls [])) := by
  obtain ⟨locs, X, hF, hH⟩ := X
  obtain ⟨fs, hr, hrun, hended, hW, hsame⟩ := X.leave (v := none) (fun _ => rfl) C.2.2.2.2.2.2.2
  exact ⟨_, _, X.returnOut C.1 C.2.2.2.2.2.2.1 (hb C.2.1 hd) hr, hrun, hended, none, L, locs, rfl, hQ, hH, hF, ⟨_, rfl⟩, hW, hsame.mono hk hn⟩

theorem k_ireturn {t : FieldType} (C : own_C p s m meth c Z own nm code ml (some t)) (X : own_S p l e R s m args below meth c Z T L k n) {x : Int32} {Q : Option Value → List (Addr × (Cell → Prop)) → Prop} (hd : decode code pc = .ok (.ireturn, 1)) (ht : t = .int ∨ t = .boolean ∨ t = .byte ∨ t = .char ∨ t = .short) (hnr : narrow t (.int x) = .int x) (hQ : Q (some (.int x)) L) (hk : k ≤ R.cells) (hn : n ≤ R.slots) : own_Go p.tables e below (own_E Z s R Q) (T.setTop (mkF m pc ls (.int x :: st))) := by
  obtain ⟨locs, X, hF, hH⟩ := X
  obtain ⟨fs, hr, hrun, hended, hW, hsame⟩ := X.leave (v := some (.int x)) (fun h => by rw [C.2.2.2.2.2.2.1] at h; cases h) C.2.2.2.2.2.2.2
  exact ⟨_, _, retOut X C.1 C.2.2.2.2.2.2.1 hnr (Or.inl ⟨rfl, ht, x, rfl⟩) (hb C.2.1 hd) hr, hrun, hended, _, L, locs, rfl, hQ, hH, hF, ⟨_, rfl⟩, hW, hsame.mono hk hn⟩

theorem k_lreturn (C : own_C p s m meth c Z own nm code ml (some .long)) (X : own_S p l e R s m args below meth c Z T L k n) {x : Int64} {Q : Option Value → List (Addr × (Cell → Prop)) → Prop} (hd : decode code pc = .ok (.lreturn, 1)) (hQ : Q (some (.long x)) L) (hk : k ≤ R.cells) (hn : n ≤ R.slots) : own_Go p.tables e below (own_E Z s R Q) (T.setTop (mkF m pc ls (.long x :: st))) := by
  obtain ⟨locs, X, hF, hH⟩ := X
  obtain ⟨fs, hr, hrun, hended, hW, hsame⟩ := X.leave (v := some (.long x)) (fun h => by rw [C.2.2.2.2.2.2.1] at h; cases h) C.2.2.2.2.2.2.2
  exact ⟨_, _, retOut X C.1 C.2.2.2.2.2.2.1 rfl (Or.inr (Or.inl ⟨rfl, rfl, x, rfl⟩)) (hb C.2.1 hd) hr, hrun, hended, _, L, locs, rfl, hQ, hH, hF, ⟨_, rfl⟩, hW, hsame.mono hk hn⟩

theorem k_dreturn (C : own_C p s m meth c Z own nm code ml (some .double)) (X : own_S p l e R s m args below meth c Z T L k n) {x : UInt64} {Q : Option Value → List (Addr × (Cell → Prop)) → Prop} (hd : decode code pc = .ok (.dreturn, 1)) (hQ : Q (some (.double x)) L) (hk : k ≤ R.cells) (hn : n ≤ R.slots) : own_Go p.tables e below (own_E Z s R Q) (T.setTop (mkF m pc ls (.double x :: st))) := by
  obtain ⟨locs, X, hF, hH⟩ := X
  obtain ⟨fs, hr, hrun, hended, hW, hsame⟩ := X.leave (v := some (.double x)) (fun h => by rw [C.2.2.2.2.2.2.1] at h; cases h) C.2.2.2.2.2.2.2
  exact ⟨_, _, retOut X C.1 C.2.2.2.2.2.2.1 rfl (Or.inr (Or.inr (Or.inl ⟨rfl, rfl, x, rfl⟩))) (hb C.2.1 hd) hr, hrun, hended, _, L, locs, rfl, hQ, hH, hF, ⟨_, rfl⟩, hW, hsame.mono hk hn⟩

theorem k_areturn {t : FieldType} (C : own_C p s m meth c Z own nm code ml (some t)) (X : own_S p l e R s m args below meth c Z T L k n) {x : Value} {Q : Option Value → List (Addr × (Cell → Prop)) → Prop} (hd : decode code pc = .ok (.areturn, 1)) (ht : t.isReference = true) (hx : x.isRef = true) (hnr : narrow t x = x) (hQ : Q (some (x)) L) (hk : k ≤ R.cells) (hn : n ≤ R.slots) : own_Go p.tables e below (own_E Z s R Q) (T.setTop (mkF m pc ls (x :: st))) := by
  obtain ⟨locs, X, hF, hH⟩ := X
  obtain ⟨fs, hr, hrun, hended, hW, hsame⟩ := X.leave (v := some (x)) (fun h => by rw [C.2.2.2.2.2.2.1] at h; cases h) C.2.2.2.2.2.2.2
  exact ⟨_, _, retOut X C.1 C.2.2.2.2.2.2.1 hnr (Or.inr (Or.inr (Or.inr (Or.inr ⟨rfl, ht, hx⟩)))) (hb C.2.1 hd) hr, hrun, hended, _, L, locs, rfl, hQ, hH, hF, ⟨_, rfl⟩, hW, hsame.mono hk hn⟩

theorem own_nf {y : MethodName} {K' : String} (hZ : Z.Warmed39 s.vm) (w : (Jvm.Cond.selects K' y y).before a0 Z = true) : NotFace s y := notFace_of_selects (args := #[]) (mvT hZ w)
theorem own_i32 (x : Int32) : -2147483648 ≤ x.toInt ∧ x.toInt ≤ 2147483647 := by have h1 := Int32.toInt_lt x; have h2 := Int32.le_toInt x; omega
theorem own_fin {i : Int} {a : UInt64} (h : Jvm.FP.Core.DInt i a) : Jvm.Free.Fl.Fin64 a := by
  refine Jvm.Free.Fl.fin64_core.mpr ?_
  unfold Jvm.FP.Core.DInt at h
  rcases hv : Jvm.FP.Core.val64 a with _ | _ | ⟨s, c, q⟩
  · rw [hv] at h; exact h.elim
  · rw [hv] at h; exact h.elim
  · exact ⟨s, c, q, hv⟩
theorem own_nn {i : Int} {a : UInt64} (h : Jvm.FP.Core.DInt i a) : Jvm.Free.Fl.NoNaN64 a := (own_fin h).noNaN
theorem own_l (x : Int32) : x.toInt64.toInt = x.toInt := Int32.toInt_toInt64 x
theorem own_eq {i j : Int} {a b : UInt64} (ha : Jvm.FP.Core.DInt i a) (hb : Jvm.FP.Core.DInt j b) (h : i = j) : FP.dcmp a b = some .eq := by
  have q := Jvm.FP.Core.dcmp_int ha hb
  rw [show FP.dcmp a b = Jvm.FP.Core.dcmp a b from rfl, q, h, Jvm.FP.Core.compare_eq_iff _ _ |>.mpr rfl]
theorem own_lit (n : Int32) {d : UInt64} (h : FP.i2d n = d) : Jvm.FP.Core.DInt n.toInt d := h ▸ Jvm.FP.Core.i2d_int n
theorem own_litI (n : Int32) {d : UInt64} {i : Int} (h : FP.i2d n = d) (hi : n.toInt = i) : Jvm.FP.Core.DInt i d := hi ▸ h ▸ Jvm.FP.Core.i2d_int n
theorem own_self {x : UInt64} (h : Jvm.Free.Fl.NoNaN64 x) : FP.dcmp x x = some .eq := by
  have q := dcmpV_self h .l
  rcases hq : FP.dcmp x x with _ | (_ | _ | _) <;> rw [hq] at q <;> first | rfl | exact absurd q (by decide)
theorem own_mask (x : Int32) : ¬ (x &&& 2147483647) < 0 := fun h => absurd ((Jvm.Free.XT.and_neg32 _ _).mp h).2 (by decide)
theorem own_mod (m : Int32) (hm : 0 < m.toInt) {x : Int32} (hx : ¬ x < 0) : ¬ (x % m) < 0 ∧ (x % m).toNatClampNeg < m.toNatClampNeg ∧ 0 ≤ (x % m).toInt ∧ (x % m).toInt < m.toInt := by
  have h0 : 0 ≤ x.toInt := by rw [Int32.lt_iff_toInt_lt] at hx; simpa using hx
  have e : (x % m).toInt = x.toInt % m.toInt := by rw [Int32.toInt_mod, Int.tmod_eq_emod_of_nonneg h0]
  have a1 := Int.emod_nonneg x.toInt (Int.ne_of_gt hm)
  have a2 := Int.emod_lt_of_pos x.toInt hm
  rw [Int32.lt_iff_toInt_lt]
  simp only [Int32.toNatClampNeg, e, Int32.reduceToInt]
  omega
theorem own_dd (a b : Int32) : Jvm.Free.Fl.NoNaN64 (FP.dadd (FP.i2d a) (FP.i2d b)) := own_nn (Jvm.FP.Core.dadd_int (Jvm.FP.Core.i2d_int a) (Jvm.FP.Core.i2d_int b) (by have q := own_i32 a; have q2 := own_i32 b; omega))
theorem own_bool {x : Int32} (h : x = 0 ∨ x = 1) : narrow .boolean (.int x) = .int x := by rcases h with rfl | rfl <;> rfl
end OwnKit

theorem d_prog_5_method_1_code_0 : decode prog_5_method_1_code 0 = .ok (.aload_n 0, 1) := by decide +kernel
theorem d_prog_5_method_1_code_1 : decode prog_5_method_1_code 1 = .ok (.invokespecial 1, 3) := by decide +kernel
theorem d_prog_5_method_1_code_4 : decode prog_5_method_1_code 4 = .ok (.aload_n 0, 1) := by decide +kernel
theorem d_prog_5_method_1_code_5 : decode prog_5_method_1_code 5 = .ok (.iload_n 1, 1) := by decide +kernel
theorem d_prog_5_method_1_code_6 : decode prog_5_method_1_code 6 = .ok (.putfield 7, 3) := by decide +kernel
def own_lay_FreeParameters_N : List (String × String × FieldType) := [("total", "I", .int), ("indices", "[I", (.array .int))]
theorem own_lay_FreeParameters {Z : State} {a0 : Array Value} (hw : ∀ d ∈ tables_1, d.before a0 Z = true) : own_lay Z a0 "com/example/residuum/residuum/FreeParameters" own_lay_FreeParameters_N := ⟨⟨Or.inr (hw _ (List.mem_of_getElem? (i := 11) rfl)), by decide⟩, ⟨Or.inr (hw _ (List.mem_of_getElem? (i := 13) rfl)), by decide⟩, trivial⟩
theorem own_lay_FreeParameters_nd : (own_lay_FreeParameters_N.map (·.1)).Nodup := by decide +kernel
theorem d_prog_5_method_1_code_9 : decode prog_5_method_1_code 9 = .ok (.aload_n 0, 1) := by decide +kernel
theorem d_prog_5_method_1_code_10 : decode prog_5_method_1_code 10 = .ok (.iload_n 1, 1) := by decide +kernel
theorem d_prog_5_method_1_code_11 : decode prog_5_method_1_code 11 = .ok (.aload_n 2, 1) := by decide +kernel
theorem d_prog_5_method_1_code_12 : decode prog_5_method_1_code 12 = .ok (.arraylength, 1) := by decide +kernel
theorem d_prog_5_method_1_code_13 : decode prog_5_method_1_code 13 = .ok (.isub, 1) := by decide +kernel
theorem d_prog_5_method_1_code_14 : decode prog_5_method_1_code 14 = .ok (.newarray .int, 2) := by decide +kernel
theorem d_prog_5_method_1_code_16 : decode prog_5_method_1_code 16 = .ok (.putfield 13, 3) := by decide +kernel
theorem d_prog_5_method_1_code_19 : decode prog_5_method_1_code 19 = .ok (.iconst 0, 1) := by decide +kernel
theorem d_prog_5_method_1_code_20 : decode prog_5_method_1_code 20 = .ok (.istore_n 3, 1) := by decide +kernel
theorem d_prog_5_method_1_code_21 : decode prog_5_method_1_code 21 = .ok (.iconst 0, 1) := by decide +kernel
theorem d_prog_5_method_1_code_22 : decode prog_5_method_1_code 22 = .ok (.istore 4, 2) := by decide +kernel
theorem d_prog_5_method_1_code_24 : decode prog_5_method_1_code 24 = .ok (.iconst 0, 1) := by decide +kernel
theorem d_prog_5_method_1_code_25 : decode prog_5_method_1_code 25 = .ok (.istore 5, 2) := by decide +kernel
theorem d_prog_5_method_1_code_27 : decode prog_5_method_1_code 27 = .ok (.iload 5, 2) := by decide +kernel
theorem d_prog_5_method_1_code_29 : decode prog_5_method_1_code 29 = .ok (.iload_n 1, 1) := by decide +kernel
theorem d_prog_5_method_1_code_30 : decode prog_5_method_1_code 30 = .ok (.if_icmp .ge 41, 3) := by decide +kernel
theorem d_prog_5_method_1_code_33 : decode prog_5_method_1_code 33 = .ok (.iload_n 3, 1) := by decide +kernel
theorem d_prog_5_method_1_code_34 : decode prog_5_method_1_code 34 = .ok (.aload_n 2, 1) := by decide +kernel
theorem d_prog_5_method_1_code_35 : decode prog_5_method_1_code 35 = .ok (.arraylength, 1) := by decide +kernel
theorem d_prog_5_method_1_code_36 : decode prog_5_method_1_code 36 = .ok (.if_icmp .ge 17, 3) := by decide +kernel
theorem d_prog_5_method_1_code_53 : decode prog_5_method_1_code 53 = .ok (.aload_n 0, 1) := by decide +kernel
theorem d_prog_5_method_1_code_54 : decode prog_5_method_1_code 54 = .ok (.getfield 13, 3) := by decide +kernel
theorem d_prog_5_method_1_code_57 : decode prog_5_method_1_code 57 = .ok (.iload 4, 2) := by decide +kernel
theorem d_prog_5_method_1_code_59 : decode prog_5_method_1_code 59 = .ok (.iinc 4 1, 3) := by decide +kernel
theorem d_prog_5_method_1_code_62 : decode prog_5_method_1_code 62 = .ok (.iload 5, 2) := by decide +kernel
theorem d_prog_5_method_1_code_64 : decode prog_5_method_1_code 64 = .ok (.iastore, 1) := by decide +kernel
theorem d_prog_5_method_1_code_65 : decode prog_5_method_1_code 65 = .ok (.iinc 5 1, 3) := by decide +kernel
theorem d_prog_5_method_1_code_68 : decode prog_5_method_1_code 68 = .ok (.goto (-41), 3) := by decide +kernel
theorem d_prog_5_method_1_code_71 : decode prog_5_method_1_code 71 = .ok (.return_, 1) := by decide +kernel
theorem own_pn0 : plainName "com/example/residuum/residuum/FreeParameters" = true := by first | (simp [plainName, overriddenIn]; done) | decide +kernel
def rm_own_init_n : Room := { frames := 1, cells := 1, slots := 3, locals := 12 }
set_option maxRecDepth 65536 in
set_option maxHeartbeats 40000000 in
theorem own_init_n (l : Launch) (Z : State) (a0 : Array Value) (hw : ∀ d ∈ tables_1, d.before a0 Z = true) (a qf : Addr) (L : List (Addr × (Cell → Prop))) :
    own_Con l Z (⟨"com/example/residuum/residuum/FreeParameters", "<init>", "(I[I)V"⟩ : MethodName) prog_5_method_1_code 6 none rm_own_init_n #[(.ref a), (.int (3)), (.ref qf)] ((a, own_ob Z "com/example/residuum/residuum/FreeParameters" [("total", "I", (.int (0))), ("indices", "[I", .null)]) :: (qf, own_ar Z .int []) :: L) (fun v M => v = none ∧ ∃ qi, M = (qi, own_ar Z .int [(.int (0)), (.int (1)), (.int (2))]) :: (a, own_ob Z "com/example/residuum/residuum/FreeParameters" [("total", "I", (.int (3))), ("indices", "[I", (.ref qi))]) :: (qf, own_ar Z .int []) :: L) := by
  refine own_con (ls := #[.val (.ref a), .val (.int (3)), .val (.ref qf), .unset, .unset, .unset]) (plainFor_of_name own_pn0) (fun m => own_ent m rfl) ?_
  intro p e s m below meth c T C X
  refine k_aloadN C X d_prog_5_method_1_code_0 rfl rfl rfl ?_
  refine k_initO C X d_prog_5_method_1_code_1 rfl (hw _ (List.mem_of_getElem? (i := 7) rfl)) (hw _ (List.mem_of_getElem? (i := 8) rfl)) (hw _ (List.mem_of_getElem? (i := 9) rfl)) rfl (W := 0) (Nat.le_of_eq rfl) (by decide) (by decide) (fun T X => ?_)
  refine k_aloadN C X d_prog_5_method_1_code_4 rfl rfl rfl ?_
  refine k_iloadN C X d_prog_5_method_1_code_5 rfl rfl ?_
  refine k_putfield C X d_prog_5_method_1_code_6 rfl (host := "") (Or.inl (hw _ (List.mem_of_getElem? (i := 10) rfl))) (hw _ (List.mem_of_getElem? (i := 2) rfl)) (Or.inr ⟨(hw _ (List.mem_of_getElem? (i := 11) rfl)), rfl, rfl⟩) (own_lay_FreeParameters hw) own_lay_FreeParameters_nd (ix := 0) (j := 0) rfl rfl rfl (fs' := [("total", "I", (.int (3))), ("indices", "[I", .null)]) rfl (ty := .int) (by decide) rfl rfl (L' := (a, own_ob Z "com/example/residuum/residuum/FreeParameters" [("total", "I", (.int (3))), ("indices", "[I", .null)]) :: (qf, own_ar Z .int []) :: L) rfl (fun T X => ?_)
  refine k_aloadN C X d_prog_5_method_1_code_9 rfl rfl rfl ?_
  refine k_iloadN C X d_prog_5_method_1_code_10 rfl rfl ?_
  refine k_aloadN C X d_prog_5_method_1_code_11 rfl rfl rfl ?_
  refine k_arraylength C X d_prog_5_method_1_code_12 rfl (ix := 1) rfl (z := (0)) rfl ?_
  refine k_isub C X d_prog_5_method_1_code_13 rfl ?_
  refine k_newarray C X d_prog_5_method_1_code_14 rfl (ty := .int) rfl (hw _ (List.mem_of_getElem? (i := 0) rfl)) (by decide) (cap := 3) (by decide) (by decide) (by decide) (by decide) (vs := [(.int 0), (.int 0), (.int 0)]) rfl (fun T o14 X => ?_)
  refine k_putfield C X d_prog_5_method_1_code_16 rfl (host := "") (Or.inl (hw _ (List.mem_of_getElem? (i := 12) rfl))) (hw _ (List.mem_of_getElem? (i := 2) rfl)) (Or.inr ⟨(hw _ (List.mem_of_getElem? (i := 13) rfl)), rfl, rfl⟩) (own_lay_FreeParameters hw) own_lay_FreeParameters_nd (ix := 1) (j := 1) rfl rfl rfl (fs' := [("total", "I", (.int (3))), ("indices", "[I", (.ref o14))]) rfl (ty := (.array .int)) (by decide) rfl rfl (L' := (o14, own_ar Z .int [(.int 0), (.int 0), (.int 0)]) :: (a, own_ob Z "com/example/residuum/residuum/FreeParameters" [("total", "I", (.int (3))), ("indices", "[I", (.ref o14))]) :: (qf, own_ar Z .int []) :: L) rfl (fun T X => ?_)
  refine k_iconst C X d_prog_5_method_1_code_19 rfl (v := 0) rfl ?_
  refine k_istoreN C X d_prog_5_method_1_code_20 rfl (l' := #[.val (.ref a), .val (.int (3)), .val (.ref qf), .val (.int (0)), .unset, .unset]) rfl ?_
  refine k_iconst C X d_prog_5_method_1_code_21 rfl (v := 0) rfl ?_
  refine k_istore C X d_prog_5_method_1_code_22 rfl (l' := #[.val (.ref a), .val (.int (3)), .val (.ref qf), .val (.int (0)), .val (.int (0)), .unset]) rfl ?_
  refine k_iconst C X d_prog_5_method_1_code_24 rfl (v := 0) rfl ?_
  refine k_istore C X d_prog_5_method_1_code_25 rfl (l' := #[.val (.ref a), .val (.int (3)), .val (.ref qf), .val (.int (0)), .val (.int (0)), .val (.int (0))]) rfl ?_
  refine k_iload C X d_prog_5_method_1_code_27 rfl rfl ?_
  refine k_iloadN C X d_prog_5_method_1_code_29 rfl rfl ?_
  refine k_icmp_ge C X d_prog_5_method_1_code_30 rfl (tpc := 71) rfl (fun hc => (absurd hc (by decide) : False).elim) (fun _ => ?_)
  refine k_iloadN C X d_prog_5_method_1_code_33 rfl rfl ?_
  refine k_aloadN C X d_prog_5_method_1_code_34 rfl rfl rfl ?_
  refine k_arraylength C X d_prog_5_method_1_code_35 rfl (ix := 2) rfl (z := (0)) rfl ?_
  refine k_icmp_ge C X d_prog_5_method_1_code_36 rfl (tpc := 53) rfl (fun _ => ?_) (fun hc => (absurd hc (by decide) : False).elim)
  refine k_aloadN C X d_prog_5_method_1_code_53 rfl rfl rfl ?_
  refine k_getfield C X d_prog_5_method_1_code_54 rfl (host := "") (Or.inl (hw _ (List.mem_of_getElem? (i := 12) rfl))) (own_fL (ix := 1) (j := 1) rfl rfl) (fun T X => ?_)
  refine k_iload C X d_prog_5_method_1_code_57 rfl rfl ?_
  refine k_iinc C X d_prog_5_method_1_code_59 rfl (v := 1) rfl rfl (l' := #[.val (.ref a), .val (.int (3)), .val (.ref qf), .val (.int (0)), .val (.int (1)), .val (.int (0))]) rfl ?_
  refine k_iload C X d_prog_5_method_1_code_62 rfl rfl ?_
  refine k_iastore C X d_prog_5_method_1_code_64 rfl (ix := 0) (i := 0) rfl (by decide) (by decide) (Nat.le_of_ble_eq_true rfl) (vs' := [(.int (0)), (.int 0), (.int 0)]) rfl (L' := (o14, own_ar Z .int [(.int (0)), (.int 0), (.int 0)]) :: (a, own_ob Z "com/example/residuum/residuum/FreeParameters" [("total", "I", (.int (3))), ("indices", "[I", (.ref o14))]) :: (qf, own_ar Z .int []) :: L) rfl (fun T X => ?_)
  refine k_iinc C X d_prog_5_method_1_code_65 rfl (v := 1) rfl rfl (l' := #[.val (.ref a), .val (.int (3)), .val (.ref qf), .val (.int (0)), .val (.int (1)), .val (.int (1))]) rfl ?_
  refine k_goto C X d_prog_5_method_1_code_68 (tpc := 27) rfl ?_
  refine k_iload C X d_prog_5_method_1_code_27 rfl rfl ?_
  refine k_iloadN C X d_prog_5_method_1_code_29 rfl rfl ?_
  refine k_icmp_ge C X d_prog_5_method_1_code_30 rfl (tpc := 71) rfl (fun hc => (absurd hc (by decide) : False).elim) (fun _ => ?_)
  refine k_iloadN C X d_prog_5_method_1_code_33 rfl rfl ?_
  refine k_aloadN C X d_prog_5_method_1_code_34 rfl rfl rfl ?_
  refine k_arraylength C X d_prog_5_method_1_code_35 rfl (ix := 2) rfl (z := (0)) rfl ?_
  refine k_icmp_ge C X d_prog_5_method_1_code_36 rfl (tpc := 53) rfl (fun _ => ?_) (fun hc => (absurd hc (by decide) : False).elim)
  refine k_aloadN C X d_prog_5_method_1_code_53 rfl rfl rfl ?_
  refine k_getfield C X d_prog_5_method_1_code_54 rfl (host := "") (Or.inl (hw _ (List.mem_of_getElem? (i := 12) rfl))) (own_fL (ix := 1) (j := 1) rfl rfl) (fun T X => ?_)
  refine k_iload C X d_prog_5_method_1_code_57 rfl rfl ?_
  refine k_iinc C X d_prog_5_method_1_code_59 rfl (v := 1) rfl rfl (l' := #[.val (.ref a), .val (.int (3)), .val (.ref qf), .val (.int (0)), .val (.int (2)), .val (.int (1))]) rfl ?_
  refine k_iload C X d_prog_5_method_1_code_62 rfl rfl ?_
  refine k_iastore C X d_prog_5_method_1_code_64 rfl (ix := 0) (i := 1) rfl (by decide) (by decide) (Nat.le_of_ble_eq_true rfl) (vs' := [(.int (0)), (.int (1)), (.int 0)]) rfl (L' := (o14, own_ar Z .int [(.int (0)), (.int (1)), (.int 0)]) :: (a, own_ob Z "com/example/residuum/residuum/FreeParameters" [("total", "I", (.int (3))), ("indices", "[I", (.ref o14))]) :: (qf, own_ar Z .int []) :: L) rfl (fun T X => ?_)
  refine k_iinc C X d_prog_5_method_1_code_65 rfl (v := 1) rfl rfl (l' := #[.val (.ref a), .val (.int (3)), .val (.ref qf), .val (.int (0)), .val (.int (2)), .val (.int (2))]) rfl ?_
  refine k_goto C X d_prog_5_method_1_code_68 (tpc := 27) rfl ?_
  refine k_iload C X d_prog_5_method_1_code_27 rfl rfl ?_
  refine k_iloadN C X d_prog_5_method_1_code_29 rfl rfl ?_
  refine k_icmp_ge C X d_prog_5_method_1_code_30 rfl (tpc := 71) rfl (fun hc => (absurd hc (by decide) : False).elim) (fun _ => ?_)
  refine k_iloadN C X d_prog_5_method_1_code_33 rfl rfl ?_
  refine k_aloadN C X d_prog_5_method_1_code_34 rfl rfl rfl ?_
  refine k_arraylength C X d_prog_5_method_1_code_35 rfl (ix := 2) rfl (z := (0)) rfl ?_
  refine k_icmp_ge C X d_prog_5_method_1_code_36 rfl (tpc := 53) rfl (fun _ => ?_) (fun hc => (absurd hc (by decide) : False).elim)
  refine k_aloadN C X d_prog_5_method_1_code_53 rfl rfl rfl ?_
  refine k_getfield C X d_prog_5_method_1_code_54 rfl (host := "") (Or.inl (hw _ (List.mem_of_getElem? (i := 12) rfl))) (own_fL (ix := 1) (j := 1) rfl rfl) (fun T X => ?_)
  refine k_iload C X d_prog_5_method_1_code_57 rfl rfl ?_
  refine k_iinc C X d_prog_5_method_1_code_59 rfl (v := 1) rfl rfl (l' := #[.val (.ref a), .val (.int (3)), .val (.ref qf), .val (.int (0)), .val (.int (3)), .val (.int (2))]) rfl ?_
  refine k_iload C X d_prog_5_method_1_code_62 rfl rfl ?_
  refine k_iastore C X d_prog_5_method_1_code_64 rfl (ix := 0) (i := 2) rfl (by decide) (by decide) (Nat.le_of_ble_eq_true rfl) (vs' := [(.int (0)), (.int (1)), (.int (2))]) rfl (L' := (o14, own_ar Z .int [(.int (0)), (.int (1)), (.int (2))]) :: (a, own_ob Z "com/example/residuum/residuum/FreeParameters" [("total", "I", (.int (3))), ("indices", "[I", (.ref o14))]) :: (qf, own_ar Z .int []) :: L) rfl (fun T X => ?_)
  refine k_iinc C X d_prog_5_method_1_code_65 rfl (v := 1) rfl rfl (l' := #[.val (.ref a), .val (.int (3)), .val (.ref qf), .val (.int (0)), .val (.int (3)), .val (.int (3))]) rfl ?_
  refine k_goto C X d_prog_5_method_1_code_68 (tpc := 27) rfl ?_
  refine k_iload C X d_prog_5_method_1_code_27 rfl rfl ?_
  refine k_iloadN C X d_prog_5_method_1_code_29 rfl rfl ?_
  refine k_icmp_ge C X d_prog_5_method_1_code_30 rfl (tpc := 71) rfl (fun _ => ?_) (fun hc => (absurd hc (by decide) : False).elim)
  exact k_return C X d_prog_5_method_1_code_71 ⟨rfl, _, rfl⟩ (by decide) (by decide)
theorem d_prog_5_method_5_code_0 : decode prog_5_method_5_code 0 = .ok (.aload_n 1, 1) := by decide +kernel
theorem d_prog_5_method_5_code_1 : decode prog_5_method_5_code 1 = .ok (.invokevirtual 19, 3) := by decide +kernel
theorem d_prog_5_method_5_code_4 : decode prog_5_method_5_code 4 = .ok (.checkcast 17, 3) := by decide +kernel
theorem d_prog_5_method_5_code_7 : decode prog_5_method_5_code 7 = .ok (.astore_n 3, 1) := by decide +kernel
theorem d_prog_5_method_5_code_8 : decode prog_5_method_5_code 8 = .ok (.iconst 0, 1) := by decide +kernel
theorem d_prog_5_method_5_code_9 : decode prog_5_method_5_code 9 = .ok (.istore 4, 2) := by decide +kernel
theorem d_prog_5_method_5_code_11 : decode prog_5_method_5_code 11 = .ok (.iload 4, 2) := by decide +kernel
theorem d_prog_5_method_5_code_13 : decode prog_5_method_5_code 13 = .ok (.aload_n 0, 1) := by decide +kernel
theorem d_prog_5_method_5_code_14 : decode prog_5_method_5_code 14 = .ok (.getfield 13, 3) := by decide +kernel
theorem d_prog_5_method_5_code_17 : decode prog_5_method_5_code 17 = .ok (.arraylength, 1) := by decide +kernel
theorem d_prog_5_method_5_code_18 : decode prog_5_method_5_code 18 = .ok (.if_icmp .ge 25, 3) := by decide +kernel
theorem d_prog_5_method_5_code_21 : decode prog_5_method_5_code 21 = .ok (.aload_n 3, 1) := by decide +kernel
theorem d_prog_5_method_5_code_22 : decode prog_5_method_5_code 22 = .ok (.aload_n 0, 1) := by decide +kernel
theorem d_prog_5_method_5_code_23 : decode prog_5_method_5_code 23 = .ok (.getfield 13, 3) := by decide +kernel
theorem d_prog_5_method_5_code_26 : decode prog_5_method_5_code 26 = .ok (.iload 4, 2) := by decide +kernel
theorem d_prog_5_method_5_code_28 : decode prog_5_method_5_code 28 = .ok (.iaload, 1) := by decide +kernel
theorem d_prog_5_method_5_code_29 : decode prog_5_method_5_code 29 = .ok (.dup2, 1) := by decide +kernel
theorem d_prog_5_method_5_code_30 : decode prog_5_method_5_code 30 = .ok (.daload, 1) := by decide +kernel
theorem d_prog_5_method_5_code_31 : decode prog_5_method_5_code 31 = .ok (.aload_n 2, 1) := by decide +kernel
theorem d_prog_5_method_5_code_32 : decode prog_5_method_5_code 32 = .ok (.iload 4, 2) := by decide +kernel
theorem d_prog_5_method_5_code_34 : decode prog_5_method_5_code 34 = .ok (.daload, 1) := by decide +kernel
theorem d_prog_5_method_5_code_35 : decode prog_5_method_5_code 35 = .ok (.dadd, 1) := by decide +kernel
theorem d_prog_5_method_5_code_36 : decode prog_5_method_5_code 36 = .ok (.dastore, 1) := by decide +kernel
theorem d_prog_5_method_5_code_37 : decode prog_5_method_5_code 37 = .ok (.iinc 4 1, 3) := by decide +kernel
theorem d_prog_5_method_5_code_40 : decode prog_5_method_5_code 40 = .ok (.goto (-29), 3) := by decide +kernel
theorem d_prog_5_method_5_code_43 : decode prog_5_method_5_code 43 = .ok (.aload_n 3, 1) := by decide +kernel
theorem d_prog_5_method_5_code_44 : decode prog_5_method_5_code 44 = .ok (.areturn, 1) := by decide +kernel
def rm_own_moved_n : Room := { frames := 1, cells := 1, slots := 3, locals := 14 }
set_option maxRecDepth 65536 in
set_option maxHeartbeats 40000000 in
theorem own_moved_n (l : Launch) (Z : State) (a0 : Array Value) (hw : ∀ d ∈ tables_1, d.before a0 Z = true) (a qa qc qs qi : Addr) (us : List Value) (y0 y1 y2 c0_ c1_ c2_ : UInt64) (n0 : Jvm.Free.Fl.NoNaN64 (FP.dadd y0 c0_)) (n1 : Jvm.Free.Fl.NoNaN64 (FP.dadd y1 c1_)) (n2 : Jvm.Free.Fl.NoNaN64 (FP.dadd y2 c2_)) (L : List (Addr × (Cell → Prop))) :
    own_Con l Z (⟨"com/example/residuum/residuum/FreeParameters", "moved", "([D[D)[D"⟩ : MethodName) prog_5_method_5_code 5 (some (.array .double)) rm_own_moved_n #[(.ref a), (.ref qa), (.ref qc)] ((qc, own_ar Z .double [(.double c0_), (.double c1_), (.double c2_)]) :: (qs, own_ar Z .double us) :: (qa, own_ar Z .double [(.double y0), (.double y1), (.double y2)]) :: (qi, own_ar Z .int [(.int (0)), (.int (1)), (.int (2))]) :: (a, own_ob Z "com/example/residuum/residuum/FreeParameters" [("total", "I", (.int (3))), ("indices", "[I", (.ref qi))]) :: L) (fun v M => ∃ r, v = some (.ref r) ∧ M = (r, own_ar Z .double [(.double (FP.dadd y0 c0_)), (.double (FP.dadd y1 c1_)), (.double (FP.dadd y2 c2_))]) :: (qc, own_ar Z .double [(.double c0_), (.double c1_), (.double c2_)]) :: (qs, own_ar Z .double us) :: (qa, own_ar Z .double [(.double y0), (.double y1), (.double y2)]) :: (qi, own_ar Z .int [(.int (0)), (.int (1)), (.int (2))]) :: (a, own_ob Z "com/example/residuum/residuum/FreeParameters" [("total", "I", (.int (3))), ("indices", "[I", (.ref qi))]) :: L) := by
  refine own_con (ls := #[.val (.ref a), .val (.ref qa), .val (.ref qc), .unset, .unset]) (plainFor_of_name own_pn0) (fun m => own_ent m rfl) ?_
  intro p e s m below meth c T C X
  refine k_aloadN C X d_prog_5_method_5_code_0 rfl rfl rfl ?_
  refine k_clone C X d_prog_5_method_5_code_1 rfl (hw _ (List.mem_of_getElem? (i := 20) rfl)) (hw _ (List.mem_of_getElem? (i := 21) rfl)) (hw _ (List.mem_of_getElem? (i := 25) rfl)) (hw _ (List.mem_of_getElem? (i := 23) rfl)) (hw _ (List.mem_of_getElem? (i := 24) rfl)) (hw _ (List.mem_of_getElem? (i := 26) rfl)) (ix := 2) rfl rfl (own_fitsD [y0, y1, y2]) rfl (W := 0) (Nat.le_of_eq rfl) (by decide) (by decide) (cap := 3) (Nat.le_of_eq rfl) (by decide) (by decide) (fun T o1 X => ?_)
  refine k_checkcast C X d_prog_5_method_5_code_4 rfl (hw _ (List.mem_of_getElem? (i := 27) rfl)) (own_iA (ix := 0) rfl rfl) (fun T X => ?_)
  refine k_astoreN C X d_prog_5_method_5_code_7 rfl rfl (l' := #[.val (.ref a), .val (.ref qa), .val (.ref qc), .val (.ref o1), .unset]) rfl ?_
  refine k_iconst C X d_prog_5_method_5_code_8 rfl (v := 0) rfl ?_
  refine k_istore C X d_prog_5_method_5_code_9 rfl (l' := #[.val (.ref a), .val (.ref qa), .val (.ref qc), .val (.ref o1), .val (.int (0))]) rfl ?_
  refine k_iload C X d_prog_5_method_5_code_11 rfl rfl ?_
  refine k_aloadN C X d_prog_5_method_5_code_13 rfl rfl rfl ?_
  refine k_getfield C X d_prog_5_method_5_code_14 rfl (host := "") (Or.inl (hw _ (List.mem_of_getElem? (i := 12) rfl))) (own_fL (ix := 5) (j := 1) rfl rfl) (fun T X => ?_)
  refine k_arraylength C X d_prog_5_method_5_code_17 rfl (ix := 4) rfl (z := (3)) rfl ?_
  refine k_icmp_ge C X d_prog_5_method_5_code_18 rfl (tpc := 43) rfl (fun hc => (absurd hc (by decide) : False).elim) (fun _ => ?_)
  refine k_aloadN C X d_prog_5_method_5_code_21 rfl rfl rfl ?_
  refine k_aloadN C X d_prog_5_method_5_code_22 rfl rfl rfl ?_
  refine k_getfield C X d_prog_5_method_5_code_23 rfl (host := "") (Or.inl (hw _ (List.mem_of_getElem? (i := 12) rfl))) (own_fL (ix := 5) (j := 1) rfl rfl) (fun T X => ?_)
  refine k_iload C X d_prog_5_method_5_code_26 rfl rfl ?_
  refine k_iaload C X d_prog_5_method_5_code_28 rfl (ix := 4) (i := 0) rfl (by decide) (by decide) rfl ?_
  refine k_dup2 C X d_prog_5_method_5_code_29 rfl rfl rfl ?_
  refine k_daload C X d_prog_5_method_5_code_30 rfl (ix := 0) (i := 0) rfl (by decide) (by decide) rfl ?_
  refine k_aloadN C X d_prog_5_method_5_code_31 rfl rfl rfl ?_
  refine k_iload C X d_prog_5_method_5_code_32 rfl rfl ?_
  refine k_daload C X d_prog_5_method_5_code_34 rfl (ix := 1) (i := 0) rfl (by decide) (by decide) rfl ?_
  refine k_daddE C X d_prog_5_method_5_code_35 rfl (by assumption) ?_
  refine k_dastore C X d_prog_5_method_5_code_36 rfl (ix := 0) (i := 0) rfl (by decide) (by decide) (Nat.le_of_ble_eq_true rfl) (vs' := [(.double (FP.dadd y0 c0_)), (.double y1), (.double y2)]) rfl (L' := (o1, own_ar Z .double [(.double (FP.dadd y0 c0_)), (.double y1), (.double y2)]) :: (qc, own_ar Z .double [(.double c0_), (.double c1_), (.double c2_)]) :: (qs, own_ar Z .double us) :: (qa, own_ar Z .double [(.double y0), (.double y1), (.double y2)]) :: (qi, own_ar Z .int [(.int (0)), (.int (1)), (.int (2))]) :: (a, own_ob Z "com/example/residuum/residuum/FreeParameters" [("total", "I", (.int (3))), ("indices", "[I", (.ref qi))]) :: L) rfl (fun T X => ?_)
  refine k_iinc C X d_prog_5_method_5_code_37 rfl (v := 1) rfl rfl (l' := #[.val (.ref a), .val (.ref qa), .val (.ref qc), .val (.ref o1), .val (.int (1))]) rfl ?_
  refine k_goto C X d_prog_5_method_5_code_40 (tpc := 11) rfl ?_
  refine k_iload C X d_prog_5_method_5_code_11 rfl rfl ?_
  refine k_aloadN C X d_prog_5_method_5_code_13 rfl rfl rfl ?_
  refine k_getfield C X d_prog_5_method_5_code_14 rfl (host := "") (Or.inl (hw _ (List.mem_of_getElem? (i := 12) rfl))) (own_fL (ix := 5) (j := 1) rfl rfl) (fun T X => ?_)
  refine k_arraylength C X d_prog_5_method_5_code_17 rfl (ix := 4) rfl (z := (3)) rfl ?_
  refine k_icmp_ge C X d_prog_5_method_5_code_18 rfl (tpc := 43) rfl (fun hc => (absurd hc (by decide) : False).elim) (fun _ => ?_)
  refine k_aloadN C X d_prog_5_method_5_code_21 rfl rfl rfl ?_
  refine k_aloadN C X d_prog_5_method_5_code_22 rfl rfl rfl ?_
  refine k_getfield C X d_prog_5_method_5_code_23 rfl (host := "") (Or.inl (hw _ (List.mem_of_getElem? (i := 12) rfl))) (own_fL (ix := 5) (j := 1) rfl rfl) (fun T X => ?_)
  refine k_iload C X d_prog_5_method_5_code_26 rfl rfl ?_
  refine k_iaload C X d_prog_5_method_5_code_28 rfl (ix := 4) (i := 1) rfl (by decide) (by decide) rfl ?_
  refine k_dup2 C X d_prog_5_method_5_code_29 rfl rfl rfl ?_
  refine k_daload C X d_prog_5_method_5_code_30 rfl (ix := 0) (i := 1) rfl (by decide) (by decide) rfl ?_
  refine k_aloadN C X d_prog_5_method_5_code_31 rfl rfl rfl ?_
  refine k_iload C X d_prog_5_method_5_code_32 rfl rfl ?_
  refine k_daload C X d_prog_5_method_5_code_34 rfl (ix := 1) (i := 1) rfl (by decide) (by decide) rfl ?_
  refine k_daddE C X d_prog_5_method_5_code_35 rfl (by assumption) ?_
  refine k_dastore C X d_prog_5_method_5_code_36 rfl (ix := 0) (i := 1) rfl (by decide) (by decide) (Nat.le_of_ble_eq_true rfl) (vs' := [(.double (FP.dadd y0 c0_)), (.double (FP.dadd y1 c1_)), (.double y2)]) rfl (L' := (o1, own_ar Z .double [(.double (FP.dadd y0 c0_)), (.double (FP.dadd y1 c1_)), (.double y2)]) :: (qc, own_ar Z .double [(.double c0_), (.double c1_), (.double c2_)]) :: (qs, own_ar Z .double us) :: (qa, own_ar Z .double [(.double y0), (.double y1), (.double y2)]) :: (qi, own_ar Z .int [(.int (0)), (.int (1)), (.int (2))]) :: (a, own_ob Z "com/example/residuum/residuum/FreeParameters" [("total", "I", (.int (3))), ("indices", "[I", (.ref qi))]) :: L) rfl (fun T X => ?_)
  refine k_iinc C X d_prog_5_method_5_code_37 rfl (v := 1) rfl rfl (l' := #[.val (.ref a), .val (.ref qa), .val (.ref qc), .val (.ref o1), .val (.int (2))]) rfl ?_
  refine k_goto C X d_prog_5_method_5_code_40 (tpc := 11) rfl ?_
  refine k_iload C X d_prog_5_method_5_code_11 rfl rfl ?_
  refine k_aloadN C X d_prog_5_method_5_code_13 rfl rfl rfl ?_
  refine k_getfield C X d_prog_5_method_5_code_14 rfl (host := "") (Or.inl (hw _ (List.mem_of_getElem? (i := 12) rfl))) (own_fL (ix := 5) (j := 1) rfl rfl) (fun T X => ?_)
  refine k_arraylength C X d_prog_5_method_5_code_17 rfl (ix := 4) rfl (z := (3)) rfl ?_
  refine k_icmp_ge C X d_prog_5_method_5_code_18 rfl (tpc := 43) rfl (fun hc => (absurd hc (by decide) : False).elim) (fun _ => ?_)
  refine k_aloadN C X d_prog_5_method_5_code_21 rfl rfl rfl ?_
  refine k_aloadN C X d_prog_5_method_5_code_22 rfl rfl rfl ?_
  refine k_getfield C X d_prog_5_method_5_code_23 rfl (host := "") (Or.inl (hw _ (List.mem_of_getElem? (i := 12) rfl))) (own_fL (ix := 5) (j := 1) rfl rfl) (fun T X => ?_)
  refine k_iload C X d_prog_5_method_5_code_26 rfl rfl ?_
  refine k_iaload C X d_prog_5_method_5_code_28 rfl (ix := 4) (i := 2) rfl (by decide) (by decide) rfl ?_
  refine k_dup2 C X d_prog_5_method_5_code_29 rfl rfl rfl ?_
  refine k_daload C X d_prog_5_method_5_code_30 rfl (ix := 0) (i := 2) rfl (by decide) (by decide) rfl ?_
  refine k_aloadN C X d_prog_5_method_5_code_31 rfl rfl rfl ?_
  refine k_iload C X d_prog_5_method_5_code_32 rfl rfl ?_
  refine k_daload C X d_prog_5_method_5_code_34 rfl (ix := 1) (i := 2) rfl (by decide) (by decide) rfl ?_
  refine k_daddE C X d_prog_5_method_5_code_35 rfl (by assumption) ?_
  refine k_dastore C X d_prog_5_method_5_code_36 rfl (ix := 0) (i := 2) rfl (by decide) (by decide) (Nat.le_of_ble_eq_true rfl) (vs' := [(.double (FP.dadd y0 c0_)), (.double (FP.dadd y1 c1_)), (.double (FP.dadd y2 c2_))]) rfl (L' := (o1, own_ar Z .double [(.double (FP.dadd y0 c0_)), (.double (FP.dadd y1 c1_)), (.double (FP.dadd y2 c2_))]) :: (qc, own_ar Z .double [(.double c0_), (.double c1_), (.double c2_)]) :: (qs, own_ar Z .double us) :: (qa, own_ar Z .double [(.double y0), (.double y1), (.double y2)]) :: (qi, own_ar Z .int [(.int (0)), (.int (1)), (.int (2))]) :: (a, own_ob Z "com/example/residuum/residuum/FreeParameters" [("total", "I", (.int (3))), ("indices", "[I", (.ref qi))]) :: L) rfl (fun T X => ?_)
  refine k_iinc C X d_prog_5_method_5_code_37 rfl (v := 1) rfl rfl (l' := #[.val (.ref a), .val (.ref qa), .val (.ref qc), .val (.ref o1), .val (.int (3))]) rfl ?_
  refine k_goto C X d_prog_5_method_5_code_40 (tpc := 11) rfl ?_
  refine k_iload C X d_prog_5_method_5_code_11 rfl rfl ?_
  refine k_aloadN C X d_prog_5_method_5_code_13 rfl rfl rfl ?_
  refine k_getfield C X d_prog_5_method_5_code_14 rfl (host := "") (Or.inl (hw _ (List.mem_of_getElem? (i := 12) rfl))) (own_fL (ix := 5) (j := 1) rfl rfl) (fun T X => ?_)
  refine k_arraylength C X d_prog_5_method_5_code_17 rfl (ix := 4) rfl (z := (3)) rfl ?_
  refine k_icmp_ge C X d_prog_5_method_5_code_18 rfl (tpc := 43) rfl (fun _ => ?_) (fun hc => (absurd hc (by decide) : False).elim)
  refine k_aloadN C X d_prog_5_method_5_code_43 rfl rfl rfl ?_
  exact k_areturn C X d_prog_5_method_5_code_44 rfl rfl rfl ⟨_, rfl, rfl⟩ (by decide) (by decide)
theorem d_prog_5_method_1_code_39 : decode prog_5_method_1_code 39 = .ok (.aload_n 2, 1) := by decide +kernel
theorem d_prog_5_method_1_code_40 : decode prog_5_method_1_code 40 = .ok (.iload_n 3, 1) := by decide +kernel
theorem d_prog_5_method_1_code_41 : decode prog_5_method_1_code 41 = .ok (.iaload, 1) := by decide +kernel
theorem d_prog_5_method_1_code_42 : decode prog_5_method_1_code 42 = .ok (.iload 5, 2) := by decide +kernel
theorem d_prog_5_method_1_code_44 : decode prog_5_method_1_code 44 = .ok (.if_icmp .ne 9, 3) := by decide +kernel
theorem d_prog_5_method_1_code_47 : decode prog_5_method_1_code 47 = .ok (.iinc 3 1, 3) := by decide +kernel
theorem d_prog_5_method_1_code_50 : decode prog_5_method_1_code 50 = .ok (.goto 15, 3) := by decide +kernel
def rm_own_init_0 : Room := { frames := 1, cells := 1, slots := 2, locals := 12 }
set_option maxRecDepth 65536 in
set_option maxHeartbeats 40000000 in
theorem own_init_0 (l : Launch) (Z : State) (a0 : Array Value) (hw : ∀ d ∈ tables_1, d.before a0 Z = true) (a qf : Addr) (L : List (Addr × (Cell → Prop))) :
    own_Con l Z (⟨"com/example/residuum/residuum/FreeParameters", "<init>", "(I[I)V"⟩ : MethodName) prog_5_method_1_code 6 none rm_own_init_0 #[(.ref a), (.int (3)), (.ref qf)] ((a, own_ob Z "com/example/residuum/residuum/FreeParameters" [("total", "I", (.int (0))), ("indices", "[I", .null)]) :: (qf, own_ar Z .int [(.int (0))]) :: L) (fun v M => v = none ∧ ∃ qi, M = (qi, own_ar Z .int [(.int (1)), (.int (2))]) :: (a, own_ob Z "com/example/residuum/residuum/FreeParameters" [("total", "I", (.int (3))), ("indices", "[I", (.ref qi))]) :: (qf, own_ar Z .int [(.int (0))]) :: L) := by
  refine own_con (ls := #[.val (.ref a), .val (.int (3)), .val (.ref qf), .unset, .unset, .unset]) (plainFor_of_name own_pn0) (fun m => own_ent m rfl) ?_
  intro p e s m below meth c T C X
  refine k_aloadN C X d_prog_5_method_1_code_0 rfl rfl rfl ?_
  refine k_initO C X d_prog_5_method_1_code_1 rfl (hw _ (List.mem_of_getElem? (i := 7) rfl)) (hw _ (List.mem_of_getElem? (i := 8) rfl)) (hw _ (List.mem_of_getElem? (i := 9) rfl)) rfl (W := 0) (Nat.le_of_eq rfl) (by decide) (by decide) (fun T X => ?_)
  refine k_aloadN C X d_prog_5_method_1_code_4 rfl rfl rfl ?_
  refine k_iloadN C X d_prog_5_method_1_code_5 rfl rfl ?_
  refine k_putfield C X d_prog_5_method_1_code_6 rfl (host := "") (Or.inl (hw _ (List.mem_of_getElem? (i := 10) rfl))) (hw _ (List.mem_of_getElem? (i := 2) rfl)) (Or.inr ⟨(hw _ (List.mem_of_getElem? (i := 11) rfl)), rfl, rfl⟩) (own_lay_FreeParameters hw) own_lay_FreeParameters_nd (ix := 0) (j := 0) rfl rfl rfl (fs' := [("total", "I", (.int (3))), ("indices", "[I", .null)]) rfl (ty := .int) (by decide) rfl rfl (L' := (a, own_ob Z "com/example/residuum/residuum/FreeParameters" [("total", "I", (.int (3))), ("indices", "[I", .null)]) :: (qf, own_ar Z .int [(.int (0))]) :: L) rfl (fun T X => ?_)
  refine k_aloadN C X d_prog_5_method_1_code_9 rfl rfl rfl ?_
  refine k_iloadN C X d_prog_5_method_1_code_10 rfl rfl ?_
  refine k_aloadN C X d_prog_5_method_1_code_11 rfl rfl rfl ?_
  refine k_arraylength C X d_prog_5_method_1_code_12 rfl (ix := 1) rfl (z := (1)) rfl ?_
  refine k_isub C X d_prog_5_method_1_code_13 rfl ?_
  refine k_newarray C X d_prog_5_method_1_code_14 rfl (ty := .int) rfl (hw _ (List.mem_of_getElem? (i := 0) rfl)) (by decide) (cap := 2) (by decide) (by decide) (by decide) (by decide) (vs := [(.int 0), (.int 0)]) rfl (fun T o14 X => ?_)
  refine k_putfield C X d_prog_5_method_1_code_16 rfl (host := "") (Or.inl (hw _ (List.mem_of_getElem? (i := 12) rfl))) (hw _ (List.mem_of_getElem? (i := 2) rfl)) (Or.inr ⟨(hw _ (List.mem_of_getElem? (i := 13) rfl)), rfl, rfl⟩) (own_lay_FreeParameters hw) own_lay_FreeParameters_nd (ix := 1) (j := 1) rfl rfl rfl (fs' := [("total", "I", (.int (3))), ("indices", "[I", (.ref o14))]) rfl (ty := (.array .int)) (by decide) rfl rfl (L' := (o14, own_ar Z .int [(.int 0), (.int 0)]) :: (a, own_ob Z "com/example/residuum/residuum/FreeParameters" [("total", "I", (.int (3))), ("indices", "[I", (.ref o14))]) :: (qf, own_ar Z .int [(.int (0))]) :: L) rfl (fun T X => ?_)
  refine k_iconst C X d_prog_5_method_1_code_19 rfl (v := 0) rfl ?_
  refine k_istoreN C X d_prog_5_method_1_code_20 rfl (l' := #[.val (.ref a), .val (.int (3)), .val (.ref qf), .val (.int (0)), .unset, .unset]) rfl ?_
  refine k_iconst C X d_prog_5_method_1_code_21 rfl (v := 0) rfl ?_
  refine k_istore C X d_prog_5_method_1_code_22 rfl (l' := #[.val (.ref a), .val (.int (3)), .val (.ref qf), .val (.int (0)), .val (.int (0)), .unset]) rfl ?_
  refine k_iconst C X d_prog_5_method_1_code_24 rfl (v := 0) rfl ?_
  refine k_istore C X d_prog_5_method_1_code_25 rfl (l' := #[.val (.ref a), .val (.int (3)), .val (.ref qf), .val (.int (0)), .val (.int (0)), .val (.int (0))]) rfl ?_
  refine k_iload C X d_prog_5_method_1_code_27 rfl rfl ?_
  refine k_iloadN C X d_prog_5_method_1_code_29 rfl rfl ?_
  refine k_icmp_ge C X d_prog_5_method_1_code_30 rfl (tpc := 71) rfl (fun hc => (absurd hc (by decide) : False).elim) (fun _ => ?_)
  refine k_iloadN C X d_prog_5_method_1_code_33 rfl rfl ?_
  refine k_aloadN C X d_prog_5_method_1_code_34 rfl rfl rfl ?_
  refine k_arraylength C X d_prog_5_method_1_code_35 rfl (ix := 2) rfl (z := (1)) rfl ?_
  refine k_icmp_ge C X d_prog_5_method_1_code_36 rfl (tpc := 53) rfl (fun hc => (absurd hc (by decide) : False).elim) (fun _ => ?_)
  refine k_aloadN C X d_prog_5_method_1_code_39 rfl rfl rfl ?_
  refine k_iloadN C X d_prog_5_method_1_code_40 rfl rfl ?_
  refine k_iaload C X d_prog_5_method_1_code_41 rfl (ix := 2) (i := 0) rfl (by decide) (by decide) rfl ?_
  refine k_iload C X d_prog_5_method_1_code_42 rfl rfl ?_
  refine k_icmp_ne C X d_prog_5_method_1_code_44 rfl (tpc := 53) rfl (fun hc => (absurd hc (by decide) : False).elim) (fun _ => ?_)
  refine k_iinc C X d_prog_5_method_1_code_47 rfl (v := 1) rfl rfl (l' := #[.val (.ref a), .val (.int (3)), .val (.ref qf), .val (.int (1)), .val (.int (0)), .val (.int (0))]) rfl ?_
  refine k_goto C X d_prog_5_method_1_code_50 (tpc := 65) rfl ?_
  refine k_iinc C X d_prog_5_method_1_code_65 rfl (v := 1) rfl rfl (l' := #[.val (.ref a), .val (.int (3)), .val (.ref qf), .val (.int (1)), .val (.int (0)), .val (.int (1))]) rfl ?_
  refine k_goto C X d_prog_5_method_1_code_68 (tpc := 27) rfl ?_
  refine k_iload C X d_prog_5_method_1_code_27 rfl rfl ?_
  refine k_iloadN C X d_prog_5_method_1_code_29 rfl rfl ?_
  refine k_icmp_ge C X d_prog_5_method_1_code_30 rfl (tpc := 71) rfl (fun hc => (absurd hc (by decide) : False).elim) (fun _ => ?_)
  refine k_iloadN C X d_prog_5_method_1_code_33 rfl rfl ?_
  refine k_aloadN C X d_prog_5_method_1_code_34 rfl rfl rfl ?_
  refine k_arraylength C X d_prog_5_method_1_code_35 rfl (ix := 2) rfl (z := (1)) rfl ?_
  refine k_icmp_ge C X d_prog_5_method_1_code_36 rfl (tpc := 53) rfl (fun _ => ?_) (fun hc => (absurd hc (by decide) : False).elim)
  refine k_aloadN C X d_prog_5_method_1_code_53 rfl rfl rfl ?_
  refine k_getfield C X d_prog_5_method_1_code_54 rfl (host := "") (Or.inl (hw _ (List.mem_of_getElem? (i := 12) rfl))) (own_fL (ix := 1) (j := 1) rfl rfl) (fun T X => ?_)
  refine k_iload C X d_prog_5_method_1_code_57 rfl rfl ?_
  refine k_iinc C X d_prog_5_method_1_code_59 rfl (v := 1) rfl rfl (l' := #[.val (.ref a), .val (.int (3)), .val (.ref qf), .val (.int (1)), .val (.int (1)), .val (.int (1))]) rfl ?_
  refine k_iload C X d_prog_5_method_1_code_62 rfl rfl ?_
  refine k_iastore C X d_prog_5_method_1_code_64 rfl (ix := 0) (i := 0) rfl (by decide) (by decide) (Nat.le_of_ble_eq_true rfl) (vs' := [(.int (1)), (.int 0)]) rfl (L' := (o14, own_ar Z .int [(.int (1)), (.int 0)]) :: (a, own_ob Z "com/example/residuum/residuum/FreeParameters" [("total", "I", (.int (3))), ("indices", "[I", (.ref o14))]) :: (qf, own_ar Z .int [(.int (0))]) :: L) rfl (fun T X => ?_)
  refine k_iinc C X d_prog_5_method_1_code_65 rfl (v := 1) rfl rfl (l' := #[.val (.ref a), .val (.int (3)), .val (.ref qf), .val (.int (1)), .val (.int (1)), .val (.int (2))]) rfl ?_
  refine k_goto C X d_prog_5_method_1_code_68 (tpc := 27) rfl ?_
  refine k_iload C X d_prog_5_method_1_code_27 rfl rfl ?_
  refine k_iloadN C X d_prog_5_method_1_code_29 rfl rfl ?_
  refine k_icmp_ge C X d_prog_5_method_1_code_30 rfl (tpc := 71) rfl (fun hc => (absurd hc (by decide) : False).elim) (fun _ => ?_)
  refine k_iloadN C X d_prog_5_method_1_code_33 rfl rfl ?_
  refine k_aloadN C X d_prog_5_method_1_code_34 rfl rfl rfl ?_
  refine k_arraylength C X d_prog_5_method_1_code_35 rfl (ix := 2) rfl (z := (1)) rfl ?_
  refine k_icmp_ge C X d_prog_5_method_1_code_36 rfl (tpc := 53) rfl (fun _ => ?_) (fun hc => (absurd hc (by decide) : False).elim)
  refine k_aloadN C X d_prog_5_method_1_code_53 rfl rfl rfl ?_
  refine k_getfield C X d_prog_5_method_1_code_54 rfl (host := "") (Or.inl (hw _ (List.mem_of_getElem? (i := 12) rfl))) (own_fL (ix := 1) (j := 1) rfl rfl) (fun T X => ?_)
  refine k_iload C X d_prog_5_method_1_code_57 rfl rfl ?_
  refine k_iinc C X d_prog_5_method_1_code_59 rfl (v := 1) rfl rfl (l' := #[.val (.ref a), .val (.int (3)), .val (.ref qf), .val (.int (1)), .val (.int (2)), .val (.int (2))]) rfl ?_
  refine k_iload C X d_prog_5_method_1_code_62 rfl rfl ?_
  refine k_iastore C X d_prog_5_method_1_code_64 rfl (ix := 0) (i := 1) rfl (by decide) (by decide) (Nat.le_of_ble_eq_true rfl) (vs' := [(.int (1)), (.int (2))]) rfl (L' := (o14, own_ar Z .int [(.int (1)), (.int (2))]) :: (a, own_ob Z "com/example/residuum/residuum/FreeParameters" [("total", "I", (.int (3))), ("indices", "[I", (.ref o14))]) :: (qf, own_ar Z .int [(.int (0))]) :: L) rfl (fun T X => ?_)
  refine k_iinc C X d_prog_5_method_1_code_65 rfl (v := 1) rfl rfl (l' := #[.val (.ref a), .val (.int (3)), .val (.ref qf), .val (.int (1)), .val (.int (2)), .val (.int (3))]) rfl ?_
  refine k_goto C X d_prog_5_method_1_code_68 (tpc := 27) rfl ?_
  refine k_iload C X d_prog_5_method_1_code_27 rfl rfl ?_
  refine k_iloadN C X d_prog_5_method_1_code_29 rfl rfl ?_
  refine k_icmp_ge C X d_prog_5_method_1_code_30 rfl (tpc := 71) rfl (fun _ => ?_) (fun hc => (absurd hc (by decide) : False).elim)
  exact k_return C X d_prog_5_method_1_code_71 ⟨rfl, _, rfl⟩ (by decide) (by decide)
def rm_own_moved_0 : Room := { frames := 1, cells := 1, slots := 3, locals := 14 }
set_option maxRecDepth 65536 in
set_option maxHeartbeats 40000000 in
theorem own_moved_0 (l : Launch) (Z : State) (a0 : Array Value) (hw : ∀ d ∈ tables_1, d.before a0 Z = true) (a qa qc qs qi : Addr) (us : List Value) (y0 y1 y2 c0_ c1_ : UInt64) (n0 : Jvm.Free.Fl.NoNaN64 (FP.dadd y1 c0_)) (n1 : Jvm.Free.Fl.NoNaN64 (FP.dadd y2 c1_)) (L : List (Addr × (Cell → Prop))) :
    own_Con l Z (⟨"com/example/residuum/residuum/FreeParameters", "moved", "([D[D)[D"⟩ : MethodName) prog_5_method_5_code 5 (some (.array .double)) rm_own_moved_0 #[(.ref a), (.ref qa), (.ref qc)] ((qc, own_ar Z .double [(.double c0_), (.double c1_)]) :: (qs, own_ar Z .double us) :: (qa, own_ar Z .double [(.double y0), (.double y1), (.double y2)]) :: (qi, own_ar Z .int [(.int (1)), (.int (2))]) :: (a, own_ob Z "com/example/residuum/residuum/FreeParameters" [("total", "I", (.int (3))), ("indices", "[I", (.ref qi))]) :: L) (fun v M => ∃ r, v = some (.ref r) ∧ M = (r, own_ar Z .double [(.double y0), (.double (FP.dadd y1 c0_)), (.double (FP.dadd y2 c1_))]) :: (qc, own_ar Z .double [(.double c0_), (.double c1_)]) :: (qs, own_ar Z .double us) :: (qa, own_ar Z .double [(.double y0), (.double y1), (.double y2)]) :: (qi, own_ar Z .int [(.int (1)), (.int (2))]) :: (a, own_ob Z "com/example/residuum/residuum/FreeParameters" [("total", "I", (.int (3))), ("indices", "[I", (.ref qi))]) :: L) := by
  refine own_con (ls := #[.val (.ref a), .val (.ref qa), .val (.ref qc), .unset, .unset]) (plainFor_of_name own_pn0) (fun m => own_ent m rfl) ?_
  intro p e s m below meth c T C X
  refine k_aloadN C X d_prog_5_method_5_code_0 rfl rfl rfl ?_
  refine k_clone C X d_prog_5_method_5_code_1 rfl (hw _ (List.mem_of_getElem? (i := 20) rfl)) (hw _ (List.mem_of_getElem? (i := 21) rfl)) (hw _ (List.mem_of_getElem? (i := 25) rfl)) (hw _ (List.mem_of_getElem? (i := 23) rfl)) (hw _ (List.mem_of_getElem? (i := 24) rfl)) (hw _ (List.mem_of_getElem? (i := 26) rfl)) (ix := 2) rfl rfl (own_fitsD [y0, y1, y2]) rfl (W := 0) (Nat.le_of_eq rfl) (by decide) (by decide) (cap := 3) (Nat.le_of_eq rfl) (by decide) (by decide) (fun T o1 X => ?_)
  refine k_checkcast C X d_prog_5_method_5_code_4 rfl (hw _ (List.mem_of_getElem? (i := 27) rfl)) (own_iA (ix := 0) rfl rfl) (fun T X => ?_)
  refine k_astoreN C X d_prog_5_method_5_code_7 rfl rfl (l' := #[.val (.ref a), .val (.ref qa), .val (.ref qc), .val (.ref o1), .unset]) rfl ?_
  refine k_iconst C X d_prog_5_method_5_code_8 rfl (v := 0) rfl ?_
  refine k_istore C X d_prog_5_method_5_code_9 rfl (l' := #[.val (.ref a), .val (.ref qa), .val (.ref qc), .val (.ref o1), .val (.int (0))]) rfl ?_
  refine k_iload C X d_prog_5_method_5_code_11 rfl rfl ?_
  refine k_aloadN C X d_prog_5_method_5_code_13 rfl rfl rfl ?_
  refine k_getfield C X d_prog_5_method_5_code_14 rfl (host := "") (Or.inl (hw _ (List.mem_of_getElem? (i := 12) rfl))) (own_fL (ix := 5) (j := 1) rfl rfl) (fun T X => ?_)
  refine k_arraylength C X d_prog_5_method_5_code_17 rfl (ix := 4) rfl (z := (2)) rfl ?_
  refine k_icmp_ge C X d_prog_5_method_5_code_18 rfl (tpc := 43) rfl (fun hc => (absurd hc (by decide) : False).elim) (fun _ => ?_)
  refine k_aloadN C X d_prog_5_method_5_code_21 rfl rfl rfl ?_
  refine k_aloadN C X d_prog_5_method_5_code_22 rfl rfl rfl ?_
  refine k_getfield C X d_prog_5_method_5_code_23 rfl (host := "") (Or.inl (hw _ (List.mem_of_getElem? (i := 12) rfl))) (own_fL (ix := 5) (j := 1) rfl rfl) (fun T X => ?_)
  refine k_iload C X d_prog_5_method_5_code_26 rfl rfl ?_
  refine k_iaload C X d_prog_5_method_5_code_28 rfl (ix := 4) (i := 0) rfl (by decide) (by decide) rfl ?_
  refine k_dup2 C X d_prog_5_method_5_code_29 rfl rfl rfl ?_
  refine k_daload C X d_prog_5_method_5_code_30 rfl (ix := 0) (i := 1) rfl (by decide) (by decide) rfl ?_
  refine k_aloadN C X d_prog_5_method_5_code_31 rfl rfl rfl ?_
  refine k_iload C X d_prog_5_method_5_code_32 rfl rfl ?_
  refine k_daload C X d_prog_5_method_5_code_34 rfl (ix := 1) (i := 0) rfl (by decide) (by decide) rfl ?_
  refine k_daddE C X d_prog_5_method_5_code_35 rfl (by assumption) ?_
  refine k_dastore C X d_prog_5_method_5_code_36 rfl (ix := 0) (i := 1) rfl (by decide) (by decide) (Nat.le_of_ble_eq_true rfl) (vs' := [(.double y0), (.double (FP.dadd y1 c0_)), (.double y2)]) rfl (L' := (o1, own_ar Z .double [(.double y0), (.double (FP.dadd y1 c0_)), (.double y2)]) :: (qc, own_ar Z .double [(.double c0_), (.double c1_)]) :: (qs, own_ar Z .double us) :: (qa, own_ar Z .double [(.double y0), (.double y1), (.double y2)]) :: (qi, own_ar Z .int [(.int (1)), (.int (2))]) :: (a, own_ob Z "com/example/residuum/residuum/FreeParameters" [("total", "I", (.int (3))), ("indices", "[I", (.ref qi))]) :: L) rfl (fun T X => ?_)
  refine k_iinc C X d_prog_5_method_5_code_37 rfl (v := 1) rfl rfl (l' := #[.val (.ref a), .val (.ref qa), .val (.ref qc), .val (.ref o1), .val (.int (1))]) rfl ?_
  refine k_goto C X d_prog_5_method_5_code_40 (tpc := 11) rfl ?_
  refine k_iload C X d_prog_5_method_5_code_11 rfl rfl ?_
  refine k_aloadN C X d_prog_5_method_5_code_13 rfl rfl rfl ?_
  refine k_getfield C X d_prog_5_method_5_code_14 rfl (host := "") (Or.inl (hw _ (List.mem_of_getElem? (i := 12) rfl))) (own_fL (ix := 5) (j := 1) rfl rfl) (fun T X => ?_)
  refine k_arraylength C X d_prog_5_method_5_code_17 rfl (ix := 4) rfl (z := (2)) rfl ?_
  refine k_icmp_ge C X d_prog_5_method_5_code_18 rfl (tpc := 43) rfl (fun hc => (absurd hc (by decide) : False).elim) (fun _ => ?_)
  refine k_aloadN C X d_prog_5_method_5_code_21 rfl rfl rfl ?_
  refine k_aloadN C X d_prog_5_method_5_code_22 rfl rfl rfl ?_
  refine k_getfield C X d_prog_5_method_5_code_23 rfl (host := "") (Or.inl (hw _ (List.mem_of_getElem? (i := 12) rfl))) (own_fL (ix := 5) (j := 1) rfl rfl) (fun T X => ?_)
  refine k_iload C X d_prog_5_method_5_code_26 rfl rfl ?_
  refine k_iaload C X d_prog_5_method_5_code_28 rfl (ix := 4) (i := 1) rfl (by decide) (by decide) rfl ?_
  refine k_dup2 C X d_prog_5_method_5_code_29 rfl rfl rfl ?_
  refine k_daload C X d_prog_5_method_5_code_30 rfl (ix := 0) (i := 2) rfl (by decide) (by decide) rfl ?_
  refine k_aloadN C X d_prog_5_method_5_code_31 rfl rfl rfl ?_
  refine k_iload C X d_prog_5_method_5_code_32 rfl rfl ?_
  refine k_daload C X d_prog_5_method_5_code_34 rfl (ix := 1) (i := 1) rfl (by decide) (by decide) rfl ?_
  refine k_daddE C X d_prog_5_method_5_code_35 rfl (by assumption) ?_
  refine k_dastore C X d_prog_5_method_5_code_36 rfl (ix := 0) (i := 2) rfl (by decide) (by decide) (Nat.le_of_ble_eq_true rfl) (vs' := [(.double y0), (.double (FP.dadd y1 c0_)), (.double (FP.dadd y2 c1_))]) rfl (L' := (o1, own_ar Z .double [(.double y0), (.double (FP.dadd y1 c0_)), (.double (FP.dadd y2 c1_))]) :: (qc, own_ar Z .double [(.double c0_), (.double c1_)]) :: (qs, own_ar Z .double us) :: (qa, own_ar Z .double [(.double y0), (.double y1), (.double y2)]) :: (qi, own_ar Z .int [(.int (1)), (.int (2))]) :: (a, own_ob Z "com/example/residuum/residuum/FreeParameters" [("total", "I", (.int (3))), ("indices", "[I", (.ref qi))]) :: L) rfl (fun T X => ?_)
  refine k_iinc C X d_prog_5_method_5_code_37 rfl (v := 1) rfl rfl (l' := #[.val (.ref a), .val (.ref qa), .val (.ref qc), .val (.ref o1), .val (.int (2))]) rfl ?_
  refine k_goto C X d_prog_5_method_5_code_40 (tpc := 11) rfl ?_
  refine k_iload C X d_prog_5_method_5_code_11 rfl rfl ?_
  refine k_aloadN C X d_prog_5_method_5_code_13 rfl rfl rfl ?_
  refine k_getfield C X d_prog_5_method_5_code_14 rfl (host := "") (Or.inl (hw _ (List.mem_of_getElem? (i := 12) rfl))) (own_fL (ix := 5) (j := 1) rfl rfl) (fun T X => ?_)
  refine k_arraylength C X d_prog_5_method_5_code_17 rfl (ix := 4) rfl (z := (2)) rfl ?_
  refine k_icmp_ge C X d_prog_5_method_5_code_18 rfl (tpc := 43) rfl (fun _ => ?_) (fun hc => (absurd hc (by decide) : False).elim)
  refine k_aloadN C X d_prog_5_method_5_code_43 rfl rfl rfl ?_
  exact k_areturn C X d_prog_5_method_5_code_44 rfl rfl rfl ⟨_, rfl, rfl⟩ (by decide) (by decide)
def rm_own_init_1 : Room := { frames := 1, cells := 1, slots := 2, locals := 12 }
set_option maxRecDepth 65536 in
set_option maxHeartbeats 40000000 in
theorem own_init_1 (l : Launch) (Z : State) (a0 : Array Value) (hw : ∀ d ∈ tables_1, d.before a0 Z = true) (a qf : Addr) (L : List (Addr × (Cell → Prop))) :
    own_Con l Z (⟨"com/example/residuum/residuum/FreeParameters", "<init>", "(I[I)V"⟩ : MethodName) prog_5_method_1_code 6 none rm_own_init_1 #[(.ref a), (.int (3)), (.ref qf)] ((a, own_ob Z "com/example/residuum/residuum/FreeParameters" [("total", "I", (.int (0))), ("indices", "[I", .null)]) :: (qf, own_ar Z .int [(.int (1))]) :: L) (fun v M => v = none ∧ ∃ qi, M = (qi, own_ar Z .int [(.int (0)), (.int (2))]) :: (a, own_ob Z "com/example/residuum/residuum/FreeParameters" [("total", "I", (.int (3))), ("indices", "[I", (.ref qi))]) :: (qf, own_ar Z .int [(.int (1))]) :: L) := by
  refine own_con (ls := #[.val (.ref a), .val (.int (3)), .val (.ref qf), .unset, .unset, .unset]) (plainFor_of_name own_pn0) (fun m => own_ent m rfl) ?_
  intro p e s m below meth c T C X
  refine k_aloadN C X d_prog_5_method_1_code_0 rfl rfl rfl ?_
  refine k_initO C X d_prog_5_method_1_code_1 rfl (hw _ (List.mem_of_getElem? (i := 7) rfl)) (hw _ (List.mem_of_getElem? (i := 8) rfl)) (hw _ (List.mem_of_getElem? (i := 9) rfl)) rfl (W := 0) (Nat.le_of_eq rfl) (by decide) (by decide) (fun T X => ?_)
  refine k_aloadN C X d_prog_5_method_1_code_4 rfl rfl rfl ?_
  refine k_iloadN C X d_prog_5_method_1_code_5 rfl rfl ?_
  refine k_putfield C X d_prog_5_method_1_code_6 rfl (host := "") (Or.inl (hw _ (List.mem_of_getElem? (i := 10) rfl))) (hw _ (List.mem_of_getElem? (i := 2) rfl)) (Or.inr ⟨(hw _ (List.mem_of_getElem? (i := 11) rfl)), rfl, rfl⟩) (own_lay_FreeParameters hw) own_lay_FreeParameters_nd (ix := 0) (j := 0) rfl rfl rfl (fs' := [("total", "I", (.int (3))), ("indices", "[I", .null)]) rfl (ty := .int) (by decide) rfl rfl (L' := (a, own_ob Z "com/example/residuum/residuum/FreeParameters" [("total", "I", (.int (3))), ("indices", "[I", .null)]) :: (qf, own_ar Z .int [(.int (1))]) :: L) rfl (fun T X => ?_)
  refine k_aloadN C X d_prog_5_method_1_code_9 rfl rfl rfl ?_
  refine k_iloadN C X d_prog_5_method_1_code_10 rfl rfl ?_
  refine k_aloadN C X d_prog_5_method_1_code_11 rfl rfl rfl ?_
  refine k_arraylength C X d_prog_5_method_1_code_12 rfl (ix := 1) rfl (z := (1)) rfl ?_
  refine k_isub C X d_prog_5_method_1_code_13 rfl ?_
  refine k_newarray C X d_prog_5_method_1_code_14 rfl (ty := .int) rfl (hw _ (List.mem_of_getElem? (i := 0) rfl)) (by decide) (cap := 2) (by decide) (by decide) (by decide) (by decide) (vs := [(.int 0), (.int 0)]) rfl (fun T o14 X => ?_)
  refine k_putfield C X d_prog_5_method_1_code_16 rfl (host := "") (Or.inl (hw _ (List.mem_of_getElem? (i := 12) rfl))) (hw _ (List.mem_of_getElem? (i := 2) rfl)) (Or.inr ⟨(hw _ (List.mem_of_getElem? (i := 13) rfl)), rfl, rfl⟩) (own_lay_FreeParameters hw) own_lay_FreeParameters_nd (ix := 1) (j := 1) rfl rfl rfl (fs' := [("total", "I", (.int (3))), ("indices", "[I", (.ref o14))]) rfl (ty := (.array .int)) (by decide) rfl rfl (L' := (o14, own_ar Z .int [(.int 0), (.int 0)]) :: (a, own_ob Z "com/example/residuum/residuum/FreeParameters" [("total", "I", (.int (3))), ("indices", "[I", (.ref o14))]) :: (qf, own_ar Z .int [(.int (1))]) :: L) rfl (fun T X => ?_)
  refine k_iconst C X d_prog_5_method_1_code_19 rfl (v := 0) rfl ?_
  refine k_istoreN C X d_prog_5_method_1_code_20 rfl (l' := #[.val (.ref a), .val (.int (3)), .val (.ref qf), .val (.int (0)), .unset, .unset]) rfl ?_
  refine k_iconst C X d_prog_5_method_1_code_21 rfl (v := 0) rfl ?_
  refine k_istore C X d_prog_5_method_1_code_22 rfl (l' := #[.val (.ref a), .val (.int (3)), .val (.ref qf), .val (.int (0)), .val (.int (0)), .unset]) rfl ?_
  refine k_iconst C X d_prog_5_method_1_code_24 rfl (v := 0) rfl ?_
  refine k_istore C X d_prog_5_method_1_code_25 rfl (l' := #[.val (.ref a), .val (.int (3)), .val (.ref qf), .val (.int (0)), .val (.int (0)), .val (.int (0))]) rfl ?_
  refine k_iload C X d_prog_5_method_1_code_27 rfl rfl ?_
  refine k_iloadN C X d_prog_5_method_1_code_29 rfl rfl ?_
  refine k_icmp_ge C X d_prog_5_method_1_code_30 rfl (tpc := 71) rfl (fun hc => (absurd hc (by decide) : False).elim) (fun _ => ?_)
  refine k_iloadN C X d_prog_5_method_1_code_33 rfl rfl ?_
  refine k_aloadN C X d_prog_5_method_1_code_34 rfl rfl rfl ?_
  refine k_arraylength C X d_prog_5_method_1_code_35 rfl (ix := 2) rfl (z := (1)) rfl ?_
  refine k_icmp_ge C X d_prog_5_method_1_code_36 rfl (tpc := 53) rfl (fun hc => (absurd hc (by decide) : False).elim) (fun _ => ?_)
  refine k_aloadN C X d_prog_5_method_1_code_39 rfl rfl rfl ?_
  refine k_iloadN C X d_prog_5_method_1_code_40 rfl rfl ?_
  refine k_iaload C X d_prog_5_method_1_code_41 rfl (ix := 2) (i := 0) rfl (by decide) (by decide) rfl ?_
  refine k_iload C X d_prog_5_method_1_code_42 rfl rfl ?_
  refine k_icmp_ne C X d_prog_5_method_1_code_44 rfl (tpc := 53) rfl (fun _ => ?_) (fun hc => (absurd hc (by decide) : False).elim)
  refine k_aloadN C X d_prog_5_method_1_code_53 rfl rfl rfl ?_
  refine k_getfield C X d_prog_5_method_1_code_54 rfl (host := "") (Or.inl (hw _ (List.mem_of_getElem? (i := 12) rfl))) (own_fL (ix := 1) (j := 1) rfl rfl) (fun T X => ?_)
  refine k_iload C X d_prog_5_method_1_code_57 rfl rfl ?_
  refine k_iinc C X d_prog_5_method_1_code_59 rfl (v := 1) rfl rfl (l' := #[.val (.ref a), .val (.int (3)), .val (.ref qf), .val (.int (0)), .val (.int (1)), .val (.int (0))]) rfl ?_
  refine k_iload C X d_prog_5_method_1_code_62 rfl rfl ?_
  refine k_iastore C X d_prog_5_method_1_code_64 rfl (ix := 0) (i := 0) rfl (by decide) (by decide) (Nat.le_of_ble_eq_true rfl) (vs' := [(.int (0)), (.int 0)]) rfl (L' := (o14, own_ar Z .int [(.int (0)), (.int 0)]) :: (a, own_ob Z "com/example/residuum/residuum/FreeParameters" [("total", "I", (.int (3))), ("indices", "[I", (.ref o14))]) :: (qf, own_ar Z .int [(.int (1))]) :: L) rfl (fun T X => ?_)
  refine k_iinc C X d_prog_5_method_1_code_65 rfl (v := 1) rfl rfl (l' := #[.val (.ref a), .val (.int (3)), .val (.ref qf), .val (.int (0)), .val (.int (1)), .val (.int (1))]) rfl ?_
  refine k_goto C X d_prog_5_method_1_code_68 (tpc := 27) rfl ?_
  refine k_iload C X d_prog_5_method_1_code_27 rfl rfl ?_
  refine k_iloadN C X d_prog_5_method_1_code_29 rfl rfl ?_
  refine k_icmp_ge C X d_prog_5_method_1_code_30 rfl (tpc := 71) rfl (fun hc => (absurd hc (by decide) : False).elim) (fun _ => ?_)
  refine k_iloadN C X d_prog_5_method_1_code_33 rfl rfl ?_
  refine k_aloadN C X d_prog_5_method_1_code_34 rfl rfl rfl ?_
  refine k_arraylength C X d_prog_5_method_1_code_35 rfl (ix := 2) rfl (z := (1)) rfl ?_
  refine k_icmp_ge C X d_prog_5_method_1_code_36 rfl (tpc := 53) rfl (fun hc => (absurd hc (by decide) : False).elim) (fun _ => ?_)
  refine k_aloadN C X d_prog_5_method_1_code_39 rfl rfl rfl ?_
  refine k_iloadN C X d_prog_5_method_1_code_40 rfl rfl ?_
  refine k_iaload C X d_prog_5_method_1_code_41 rfl (ix := 2) (i := 0) rfl (by decide) (by decide) rfl ?_
  refine k_iload C X d_prog_5_method_1_code_42 rfl rfl ?_
  refine k_icmp_ne C X d_prog_5_method_1_code_44 rfl (tpc := 53) rfl (fun hc => (absurd hc (by decide) : False).elim) (fun _ => ?_)
  refine k_iinc C X d_prog_5_method_1_code_47 rfl (v := 1) rfl rfl (l' := #[.val (.ref a), .val (.int (3)), .val (.ref qf), .val (.int (1)), .val (.int (1)), .val (.int (1))]) rfl ?_
  refine k_goto C X d_prog_5_method_1_code_50 (tpc := 65) rfl ?_
  refine k_iinc C X d_prog_5_method_1_code_65 rfl (v := 1) rfl rfl (l' := #[.val (.ref a), .val (.int (3)), .val (.ref qf), .val (.int (1)), .val (.int (1)), .val (.int (2))]) rfl ?_
  refine k_goto C X d_prog_5_method_1_code_68 (tpc := 27) rfl ?_
  refine k_iload C X d_prog_5_method_1_code_27 rfl rfl ?_
  refine k_iloadN C X d_prog_5_method_1_code_29 rfl rfl ?_
  refine k_icmp_ge C X d_prog_5_method_1_code_30 rfl (tpc := 71) rfl (fun hc => (absurd hc (by decide) : False).elim) (fun _ => ?_)
  refine k_iloadN C X d_prog_5_method_1_code_33 rfl rfl ?_
  refine k_aloadN C X d_prog_5_method_1_code_34 rfl rfl rfl ?_
  refine k_arraylength C X d_prog_5_method_1_code_35 rfl (ix := 2) rfl (z := (1)) rfl ?_
  refine k_icmp_ge C X d_prog_5_method_1_code_36 rfl (tpc := 53) rfl (fun _ => ?_) (fun hc => (absurd hc (by decide) : False).elim)
  refine k_aloadN C X d_prog_5_method_1_code_53 rfl rfl rfl ?_
  refine k_getfield C X d_prog_5_method_1_code_54 rfl (host := "") (Or.inl (hw _ (List.mem_of_getElem? (i := 12) rfl))) (own_fL (ix := 1) (j := 1) rfl rfl) (fun T X => ?_)
  refine k_iload C X d_prog_5_method_1_code_57 rfl rfl ?_
  refine k_iinc C X d_prog_5_method_1_code_59 rfl (v := 1) rfl rfl (l' := #[.val (.ref a), .val (.int (3)), .val (.ref qf), .val (.int (1)), .val (.int (2)), .val (.int (2))]) rfl ?_
  refine k_iload C X d_prog_5_method_1_code_62 rfl rfl ?_
  refine k_iastore C X d_prog_5_method_1_code_64 rfl (ix := 0) (i := 1) rfl (by decide) (by decide) (Nat.le_of_ble_eq_true rfl) (vs' := [(.int (0)), (.int (2))]) rfl (L' := (o14, own_ar Z .int [(.int (0)), (.int (2))]) :: (a, own_ob Z "com/example/residuum/residuum/FreeParameters" [("total", "I", (.int (3))), ("indices", "[I", (.ref o14))]) :: (qf, own_ar Z .int [(.int (1))]) :: L) rfl (fun T X => ?_)
  refine k_iinc C X d_prog_5_method_1_code_65 rfl (v := 1) rfl rfl (l' := #[.val (.ref a), .val (.int (3)), .val (.ref qf), .val (.int (1)), .val (.int (2)), .val (.int (3))]) rfl ?_
  refine k_goto C X d_prog_5_method_1_code_68 (tpc := 27) rfl ?_
  refine k_iload C X d_prog_5_method_1_code_27 rfl rfl ?_
  refine k_iloadN C X d_prog_5_method_1_code_29 rfl rfl ?_
  refine k_icmp_ge C X d_prog_5_method_1_code_30 rfl (tpc := 71) rfl (fun _ => ?_) (fun hc => (absurd hc (by decide) : False).elim)
  exact k_return C X d_prog_5_method_1_code_71 ⟨rfl, _, rfl⟩ (by decide) (by decide)
def rm_own_moved_1 : Room := { frames := 1, cells := 1, slots := 3, locals := 14 }
set_option maxRecDepth 65536 in
set_option maxHeartbeats 40000000 in
theorem own_moved_1 (l : Launch) (Z : State) (a0 : Array Value) (hw : ∀ d ∈ tables_1, d.before a0 Z = true) (a qa qc qs qi : Addr) (us : List Value) (y0 y1 y2 c0_ c1_ : UInt64) (n0 : Jvm.Free.Fl.NoNaN64 (FP.dadd y0 c0_)) (n1 : Jvm.Free.Fl.NoNaN64 (FP.dadd y2 c1_)) (L : List (Addr × (Cell → Prop))) :
    own_Con l Z (⟨"com/example/residuum/residuum/FreeParameters", "moved", "([D[D)[D"⟩ : MethodName) prog_5_method_5_code 5 (some (.array .double)) rm_own_moved_1 #[(.ref a), (.ref qa), (.ref qc)] ((qc, own_ar Z .double [(.double c0_), (.double c1_)]) :: (qs, own_ar Z .double us) :: (qa, own_ar Z .double [(.double y0), (.double y1), (.double y2)]) :: (qi, own_ar Z .int [(.int (0)), (.int (2))]) :: (a, own_ob Z "com/example/residuum/residuum/FreeParameters" [("total", "I", (.int (3))), ("indices", "[I", (.ref qi))]) :: L) (fun v M => ∃ r, v = some (.ref r) ∧ M = (r, own_ar Z .double [(.double (FP.dadd y0 c0_)), (.double y1), (.double (FP.dadd y2 c1_))]) :: (qc, own_ar Z .double [(.double c0_), (.double c1_)]) :: (qs, own_ar Z .double us) :: (qa, own_ar Z .double [(.double y0), (.double y1), (.double y2)]) :: (qi, own_ar Z .int [(.int (0)), (.int (2))]) :: (a, own_ob Z "com/example/residuum/residuum/FreeParameters" [("total", "I", (.int (3))), ("indices", "[I", (.ref qi))]) :: L) := by
  refine own_con (ls := #[.val (.ref a), .val (.ref qa), .val (.ref qc), .unset, .unset]) (plainFor_of_name own_pn0) (fun m => own_ent m rfl) ?_
  intro p e s m below meth c T C X
  refine k_aloadN C X d_prog_5_method_5_code_0 rfl rfl rfl ?_
  refine k_clone C X d_prog_5_method_5_code_1 rfl (hw _ (List.mem_of_getElem? (i := 20) rfl)) (hw _ (List.mem_of_getElem? (i := 21) rfl)) (hw _ (List.mem_of_getElem? (i := 25) rfl)) (hw _ (List.mem_of_getElem? (i := 23) rfl)) (hw _ (List.mem_of_getElem? (i := 24) rfl)) (hw _ (List.mem_of_getElem? (i := 26) rfl)) (ix := 2) rfl rfl (own_fitsD [y0, y1, y2]) rfl (W := 0) (Nat.le_of_eq rfl) (by decide) (by decide) (cap := 3) (Nat.le_of_eq rfl) (by decide) (by decide) (fun T o1 X => ?_)
  refine k_checkcast C X d_prog_5_method_5_code_4 rfl (hw _ (List.mem_of_getElem? (i := 27) rfl)) (own_iA (ix := 0) rfl rfl) (fun T X => ?_)
  refine k_astoreN C X d_prog_5_method_5_code_7 rfl rfl (l' := #[.val (.ref a), .val (.ref qa), .val (.ref qc), .val (.ref o1), .unset]) rfl ?_
  refine k_iconst C X d_prog_5_method_5_code_8 rfl (v := 0) rfl ?_
  refine k_istore C X d_prog_5_method_5_code_9 rfl (l' := #[.val (.ref a), .val (.ref qa), .val (.ref qc), .val (.ref o1), .val (.int (0))]) rfl ?_
  refine k_iload C X d_prog_5_method_5_code_11 rfl rfl ?_
  refine k_aloadN C X d_prog_5_method_5_code_13 rfl rfl rfl ?_
  refine k_getfield C X d_prog_5_method_5_code_14 rfl (host := "") (Or.inl (hw _ (List.mem_of_getElem? (i := 12) rfl))) (own_fL (ix := 5) (j := 1) rfl rfl) (fun T X => ?_)
  refine k_arraylength C X d_prog_5_method_5_code_17 rfl (ix := 4) rfl (z := (2)) rfl ?_
  refine k_icmp_ge C X d_prog_5_method_5_code_18 rfl (tpc := 43) rfl (fun hc => (absurd hc (by decide) : False).elim) (fun _ => ?_)
  refine k_aloadN C X d_prog_5_method_5_code_21 rfl rfl rfl ?_
  refine k_aloadN C X d_prog_5_method_5_code_22 rfl rfl rfl ?_
  refine k_getfield C X d_prog_5_method_5_code_23 rfl (host := "") (Or.inl (hw _ (List.mem_of_getElem? (i := 12) rfl))) (own_fL (ix := 5) (j := 1) rfl rfl) (fun T X => ?_)
  refine k_iload C X d_prog_5_method_5_code_26 rfl rfl ?_
  refine k_iaload C X d_prog_5_method_5_code_28 rfl (ix := 4) (i := 0) rfl (by decide) (by decide) rfl ?_
  refine k_dup2 C X d_prog_5_method_5_code_29 rfl rfl rfl ?_
  refine k_daload C X d_prog_5_method_5_code_30 rfl (ix := 0) (i := 0) rfl (by decide) (by decide) rfl ?_
  refine k_aloadN C X d_prog_5_method_5_code_31 rfl rfl rfl ?_
  refine k_iload C X d_prog_5_method_5_code_32 rfl rfl ?_
  refine k_daload C X d_prog_5_method_5_code_34 rfl (ix := 1) (i := 0) rfl (by decide) (by decide) rfl ?_
  refine k_daddE C X d_prog_5_method_5_code_35 rfl (by assumption) ?_
  refine k_dastore C X d_prog_5_method_5_code_36 rfl (ix := 0) (i := 0) rfl (by decide) (by decide) (Nat.le_of_ble_eq_true rfl) (vs' := [(.double (FP.dadd y0 c0_)), (.double y1), (.double y2)]) rfl (L' := (o1, own_ar Z .double [(.double (FP.dadd y0 c0_)), (.double y1), (.double y2)]) :: (qc, own_ar Z .double [(.double c0_), (.double c1_)]) :: (qs, own_ar Z .double us) :: (qa, own_ar Z .double [(.double y0), (.double y1), (.double y2)]) :: (qi, own_ar Z .int [(.int (0)), (.int (2))]) :: (a, own_ob Z "com/example/residuum/residuum/FreeParameters" [("total", "I", (.int (3))), ("indices", "[I", (.ref qi))]) :: L) rfl (fun T X => ?_)
  refine k_iinc C X d_prog_5_method_5_code_37 rfl (v := 1) rfl rfl (l' := #[.val (.ref a), .val (.ref qa), .val (.ref qc), .val (.ref o1), .val (.int (1))]) rfl ?_
  refine k_goto C X d_prog_5_method_5_code_40 (tpc := 11) rfl ?_
  refine k_iload C X d_prog_5_method_5_code_11 rfl rfl ?_
  refine k_aloadN C X d_prog_5_method_5_code_13 rfl rfl rfl ?_
  refine k_getfield C X d_prog_5_method_5_code_14 rfl (host := "") (Or.inl (hw _ (List.mem_of_getElem? (i := 12) rfl))) (own_fL (ix := 5) (j := 1) rfl rfl) (fun T X => ?_)
  refine k_arraylength C X d_prog_5_method_5_code_17 rfl (ix := 4) rfl (z := (2)) rfl ?_
  refine k_icmp_ge C X d_prog_5_method_5_code_18 rfl (tpc := 43) rfl (fun hc => (absurd hc (by decide) : False).elim) (fun _ => ?_)
  refine k_aloadN C X d_prog_5_method_5_code_21 rfl rfl rfl ?_
  refine k_aloadN C X d_prog_5_method_5_code_22 rfl rfl rfl ?_
  refine k_getfield C X d_prog_5_method_5_code_23 rfl (host := "") (Or.inl (hw _ (List.mem_of_getElem? (i := 12) rfl))) (own_fL (ix := 5) (j := 1) rfl rfl) (fun T X => ?_)
  refine k_iload C X d_prog_5_method_5_code_26 rfl rfl ?_
  refine k_iaload C X d_prog_5_method_5_code_28 rfl (ix := 4) (i := 1) rfl (by decide) (by decide) rfl ?_
  refine k_dup2 C X d_prog_5_method_5_code_29 rfl rfl rfl ?_
  refine k_daload C X d_prog_5_method_5_code_30 rfl (ix := 0) (i := 2) rfl (by decide) (by decide) rfl ?_
  refine k_aloadN C X d_prog_5_method_5_code_31 rfl rfl rfl ?_
  refine k_iload C X d_prog_5_method_5_code_32 rfl rfl ?_
  refine k_daload C X d_prog_5_method_5_code_34 rfl (ix := 1) (i := 1) rfl (by decide) (by decide) rfl ?_
  refine k_daddE C X d_prog_5_method_5_code_35 rfl (by assumption) ?_
  refine k_dastore C X d_prog_5_method_5_code_36 rfl (ix := 0) (i := 2) rfl (by decide) (by decide) (Nat.le_of_ble_eq_true rfl) (vs' := [(.double (FP.dadd y0 c0_)), (.double y1), (.double (FP.dadd y2 c1_))]) rfl (L' := (o1, own_ar Z .double [(.double (FP.dadd y0 c0_)), (.double y1), (.double (FP.dadd y2 c1_))]) :: (qc, own_ar Z .double [(.double c0_), (.double c1_)]) :: (qs, own_ar Z .double us) :: (qa, own_ar Z .double [(.double y0), (.double y1), (.double y2)]) :: (qi, own_ar Z .int [(.int (0)), (.int (2))]) :: (a, own_ob Z "com/example/residuum/residuum/FreeParameters" [("total", "I", (.int (3))), ("indices", "[I", (.ref qi))]) :: L) rfl (fun T X => ?_)
  refine k_iinc C X d_prog_5_method_5_code_37 rfl (v := 1) rfl rfl (l' := #[.val (.ref a), .val (.ref qa), .val (.ref qc), .val (.ref o1), .val (.int (2))]) rfl ?_
  refine k_goto C X d_prog_5_method_5_code_40 (tpc := 11) rfl ?_
  refine k_iload C X d_prog_5_method_5_code_11 rfl rfl ?_
  refine k_aloadN C X d_prog_5_method_5_code_13 rfl rfl rfl ?_
  refine k_getfield C X d_prog_5_method_5_code_14 rfl (host := "") (Or.inl (hw _ (List.mem_of_getElem? (i := 12) rfl))) (own_fL (ix := 5) (j := 1) rfl rfl) (fun T X => ?_)
  refine k_arraylength C X d_prog_5_method_5_code_17 rfl (ix := 4) rfl (z := (2)) rfl ?_
  refine k_icmp_ge C X d_prog_5_method_5_code_18 rfl (tpc := 43) rfl (fun _ => ?_) (fun hc => (absurd hc (by decide) : False).elim)
  refine k_aloadN C X d_prog_5_method_5_code_43 rfl rfl rfl ?_
  exact k_areturn C X d_prog_5_method_5_code_44 rfl rfl rfl ⟨_, rfl, rfl⟩ (by decide) (by decide)
def rm_own_init_2 : Room := { frames := 1, cells := 1, slots := 2, locals := 12 }
set_option maxRecDepth 65536 in
set_option maxHeartbeats 40000000 in
theorem own_init_2 (l : Launch) (Z : State) (a0 : Array Value) (hw : ∀ d ∈ tables_1, d.before a0 Z = true) (a qf : Addr) (L : List (Addr × (Cell → Prop))) :
    own_Con l Z (⟨"com/example/residuum/residuum/FreeParameters", "<init>", "(I[I)V"⟩ : MethodName) prog_5_method_1_code 6 none rm_own_init_2 #[(.ref a), (.int (3)), (.ref qf)] ((a, own_ob Z "com/example/residuum/residuum/FreeParameters" [("total", "I", (.int (0))), ("indices", "[I", .null)]) :: (qf, own_ar Z .int [(.int (2))]) :: L) (fun v M => v = none ∧ ∃ qi, M = (qi, own_ar Z .int [(.int (0)), (.int (1))]) :: (a, own_ob Z "com/example/residuum/residuum/FreeParameters" [("total", "I", (.int (3))), ("indices", "[I", (.ref qi))]) :: (qf, own_ar Z .int [(.int (2))]) :: L) := by
  refine own_con (ls := #[.val (.ref a), .val (.int (3)), .val (.ref qf), .unset, .unset, .unset]) (plainFor_of_name own_pn0) (fun m => own_ent m rfl) ?_
  intro p e s m below meth c T C X
  refine k_aloadN C X d_prog_5_method_1_code_0 rfl rfl rfl ?_
  refine k_initO C X d_prog_5_method_1_code_1 rfl (hw _ (List.mem_of_getElem? (i := 7) rfl)) (hw _ (List.mem_of_getElem? (i := 8) rfl)) (hw _ (List.mem_of_getElem? (i := 9) rfl)) rfl (W := 0) (Nat.le_of_eq rfl) (by decide) (by decide) (fun T X => ?_)
  refine k_aloadN C X d_prog_5_method_1_code_4 rfl rfl rfl ?_
  refine k_iloadN C X d_prog_5_method_1_code_5 rfl rfl ?_
  refine k_putfield C X d_prog_5_method_1_code_6 rfl (host := "") (Or.inl (hw _ (List.mem_of_getElem? (i := 10) rfl))) (hw _ (List.mem_of_getElem? (i := 2) rfl)) (Or.inr ⟨(hw _ (List.mem_of_getElem? (i := 11) rfl)), rfl, rfl⟩) (own_lay_FreeParameters hw) own_lay_FreeParameters_nd (ix := 0) (j := 0) rfl rfl rfl (fs' := [("total", "I", (.int (3))), ("indices", "[I", .null)]) rfl (ty := .int) (by decide) rfl rfl (L' := (a, own_ob Z "com/example/residuum/residuum/FreeParameters" [("total", "I", (.int (3))), ("indices", "[I", .null)]) :: (qf, own_ar Z .int [(.int (2))]) :: L) rfl (fun T X => ?_)
  refine k_aloadN C X d_prog_5_method_1_code_9 rfl rfl rfl ?_
  refine k_iloadN C X d_prog_5_method_1_code_10 rfl rfl ?_
  refine k_aloadN C X d_prog_5_method_1_code_11 rfl rfl rfl ?_
  refine k_arraylength C X d_prog_5_method_1_code_12 rfl (ix := 1) rfl (z := (1)) rfl ?_
  refine k_isub C X d_prog_5_method_1_code_13 rfl ?_
  refine k_newarray C X d_prog_5_method_1_code_14 rfl (ty := .int) rfl (hw _ (List.mem_of_getElem? (i := 0) rfl)) (by decide) (cap := 2) (by decide) (by decide) (by decide) (by decide) (vs := [(.int 0), (.int 0)]) rfl (fun T o14 X => ?_)
  refine k_putfield C X d_prog_5_method_1_code_16 rfl (host := "") (Or.inl (hw _ (List.mem_of_getElem? (i := 12) rfl))) (hw _ (List.mem_of_getElem? (i := 2) rfl)) (Or.inr ⟨(hw _ (List.mem_of_getElem? (i := 13) rfl)), rfl, rfl⟩) (own_lay_FreeParameters hw) own_lay_FreeParameters_nd (ix := 1) (j := 1) rfl rfl rfl (fs' := [("total", "I", (.int (3))), ("indices", "[I", (.ref o14))]) rfl (ty := (.array .int)) (by decide) rfl rfl (L' := (o14, own_ar Z .int [(.int 0), (.int 0)]) :: (a, own_ob Z "com/example/residuum/residuum/FreeParameters" [("total", "I", (.int (3))), ("indices", "[I", (.ref o14))]) :: (qf, own_ar Z .int [(.int (2))]) :: L) rfl (fun T X => ?_)
  refine k_iconst C X d_prog_5_method_1_code_19 rfl (v := 0) rfl ?_
  refine k_istoreN C X d_prog_5_method_1_code_20 rfl (l' := #[.val (.ref a), .val (.int (3)), .val (.ref qf), .val (.int (0)), .unset, .unset]) rfl ?_
  refine k_iconst C X d_prog_5_method_1_code_21 rfl (v := 0) rfl ?_
  refine k_istore C X d_prog_5_method_1_code_22 rfl (l' := #[.val (.ref a), .val (.int (3)), .val (.ref qf), .val (.int (0)), .val (.int (0)), .unset]) rfl ?_
  refine k_iconst C X d_prog_5_method_1_code_24 rfl (v := 0) rfl ?_
  refine k_istore C X d_prog_5_method_1_code_25 rfl (l' := #[.val (.ref a), .val (.int (3)), .val (.ref qf), .val (.int (0)), .val (.int (0)), .val (.int (0))]) rfl ?_
  refine k_iload C X d_prog_5_method_1_code_27 rfl rfl ?_
  refine k_iloadN C X d_prog_5_method_1_code_29 rfl rfl ?_
  refine k_icmp_ge C X d_prog_5_method_1_code_30 rfl (tpc := 71) rfl (fun hc => (absurd hc (by decide) : False).elim) (fun _ => ?_)
  refine k_iloadN C X d_prog_5_method_1_code_33 rfl rfl ?_
  refine k_aloadN C X d_prog_5_method_1_code_34 rfl rfl rfl ?_
  refine k_arraylength C X d_prog_5_method_1_code_35 rfl (ix := 2) rfl (z := (1)) rfl ?_
  refine k_icmp_ge C X d_prog_5_method_1_code_36 rfl (tpc := 53) rfl (fun hc => (absurd hc (by decide) : False).elim) (fun _ => ?_)
  refine k_aloadN C X d_prog_5_method_1_code_39 rfl rfl rfl ?_
  refine k_iloadN C X d_prog_5_method_1_code_40 rfl rfl ?_
  refine k_iaload C X d_prog_5_method_1_code_41 rfl (ix := 2) (i := 0) rfl (by decide) (by decide) rfl ?_
  refine k_iload C X d_prog_5_method_1_code_42 rfl rfl ?_
  refine k_icmp_ne C X d_prog_5_method_1_code_44 rfl (tpc := 53) rfl (fun _ => ?_) (fun hc => (absurd hc (by decide) : False).elim)
  refine k_aloadN C X d_prog_5_method_1_code_53 rfl rfl rfl ?_
  refine k_getfield C X d_prog_5_method_1_code_54 rfl (host := "") (Or.inl (hw _ (List.mem_of_getElem? (i := 12) rfl))) (own_fL (ix := 1) (j := 1) rfl rfl) (fun T X => ?_)
  refine k_iload C X d_prog_5_method_1_code_57 rfl rfl ?_
  refine k_iinc C X d_prog_5_method_1_code_59 rfl (v := 1) rfl rfl (l' := #[.val (.ref a), .val (.int (3)), .val (.ref qf), .val (.int (0)), .val (.int (1)), .val (.int (0))]) rfl ?_
  refine k_iload C X d_prog_5_method_1_code_62 rfl rfl ?_
  refine k_iastore C X d_prog_5_method_1_code_64 rfl (ix := 0) (i := 0) rfl (by decide) (by decide) (Nat.le_of_ble_eq_true rfl) (vs' := [(.int (0)), (.int 0)]) rfl (L' := (o14, own_ar Z .int [(.int (0)), (.int 0)]) :: (a, own_ob Z "com/example/residuum/residuum/FreeParameters" [("total", "I", (.int (3))), ("indices", "[I", (.ref o14))]) :: (qf, own_ar Z .int [(.int (2))]) :: L) rfl (fun T X => ?_)
  refine k_iinc C X d_prog_5_method_1_code_65 rfl (v := 1) rfl rfl (l' := #[.val (.ref a), .val (.int (3)), .val (.ref qf), .val (.int (0)), .val (.int (1)), .val (.int (1))]) rfl ?_
  refine k_goto C X d_prog_5_method_1_code_68 (tpc := 27) rfl ?_
  refine k_iload C X d_prog_5_method_1_code_27 rfl rfl ?_
  refine k_iloadN C X d_prog_5_method_1_code_29 rfl rfl ?_
  refine k_icmp_ge C X d_prog_5_method_1_code_30 rfl (tpc := 71) rfl (fun hc => (absurd hc (by decide) : False).elim) (fun _ => ?_)
  refine k_iloadN C X d_prog_5_method_1_code_33 rfl rfl ?_
  refine k_aloadN C X d_prog_5_method_1_code_34 rfl rfl rfl ?_
  refine k_arraylength C X d_prog_5_method_1_code_35 rfl (ix := 2) rfl (z := (1)) rfl ?_
  refine k_icmp_ge C X d_prog_5_method_1_code_36 rfl (tpc := 53) rfl (fun hc => (absurd hc (by decide) : False).elim) (fun _ => ?_)
  refine k_aloadN C X d_prog_5_method_1_code_39 rfl rfl rfl ?_
  refine k_iloadN C X d_prog_5_method_1_code_40 rfl rfl ?_
  refine k_iaload C X d_prog_5_method_1_code_41 rfl (ix := 2) (i := 0) rfl (by decide) (by decide) rfl ?_
  refine k_iload C X d_prog_5_method_1_code_42 rfl rfl ?_
  refine k_icmp_ne C X d_prog_5_method_1_code_44 rfl (tpc := 53) rfl (fun _ => ?_) (fun hc => (absurd hc (by decide) : False).elim)
  refine k_aloadN C X d_prog_5_method_1_code_53 rfl rfl rfl ?_
  refine k_getfield C X d_prog_5_method_1_code_54 rfl (host := "") (Or.inl (hw _ (List.mem_of_getElem? (i := 12) rfl))) (own_fL (ix := 1) (j := 1) rfl rfl) (fun T X => ?_)
  refine k_iload C X d_prog_5_method_1_code_57 rfl rfl ?_
  refine k_iinc C X d_prog_5_method_1_code_59 rfl (v := 1) rfl rfl (l' := #[.val (.ref a), .val (.int (3)), .val (.ref qf), .val (.int (0)), .val (.int (2)), .val (.int (1))]) rfl ?_
  refine k_iload C X d_prog_5_method_1_code_62 rfl rfl ?_
  refine k_iastore C X d_prog_5_method_1_code_64 rfl (ix := 0) (i := 1) rfl (by decide) (by decide) (Nat.le_of_ble_eq_true rfl) (vs' := [(.int (0)), (.int (1))]) rfl (L' := (o14, own_ar Z .int [(.int (0)), (.int (1))]) :: (a, own_ob Z "com/example/residuum/residuum/FreeParameters" [("total", "I", (.int (3))), ("indices", "[I", (.ref o14))]) :: (qf, own_ar Z .int [(.int (2))]) :: L) rfl (fun T X => ?_)
  refine k_iinc C X d_prog_5_method_1_code_65 rfl (v := 1) rfl rfl (l' := #[.val (.ref a), .val (.int (3)), .val (.ref qf), .val (.int (0)), .val (.int (2)), .val (.int (2))]) rfl ?_
  refine k_goto C X d_prog_5_method_1_code_68 (tpc := 27) rfl ?_
  refine k_iload C X d_prog_5_method_1_code_27 rfl rfl ?_
  refine k_iloadN C X d_prog_5_method_1_code_29 rfl rfl ?_
  refine k_icmp_ge C X d_prog_5_method_1_code_30 rfl (tpc := 71) rfl (fun hc => (absurd hc (by decide) : False).elim) (fun _ => ?_)
  refine k_iloadN C X d_prog_5_method_1_code_33 rfl rfl ?_
  refine k_aloadN C X d_prog_5_method_1_code_34 rfl rfl rfl ?_
  refine k_arraylength C X d_prog_5_method_1_code_35 rfl (ix := 2) rfl (z := (1)) rfl ?_
  refine k_icmp_ge C X d_prog_5_method_1_code_36 rfl (tpc := 53) rfl (fun hc => (absurd hc (by decide) : False).elim) (fun _ => ?_)
  refine k_aloadN C X d_prog_5_method_1_code_39 rfl rfl rfl ?_
  refine k_iloadN C X d_prog_5_method_1_code_40 rfl rfl ?_
  refine k_iaload C X d_prog_5_method_1_code_41 rfl (ix := 2) (i := 0) rfl (by decide) (by decide) rfl ?_
  refine k_iload C X d_prog_5_method_1_code_42 rfl rfl ?_
  refine k_icmp_ne C X d_prog_5_method_1_code_44 rfl (tpc := 53) rfl (fun hc => (absurd hc (by decide) : False).elim) (fun _ => ?_)
  refine k_iinc C X d_prog_5_method_1_code_47 rfl (v := 1) rfl rfl (l' := #[.val (.ref a), .val (.int (3)), .val (.ref qf), .val (.int (1)), .val (.int (2)), .val (.int (2))]) rfl ?_
  refine k_goto C X d_prog_5_method_1_code_50 (tpc := 65) rfl ?_
  refine k_iinc C X d_prog_5_method_1_code_65 rfl (v := 1) rfl rfl (l' := #[.val (.ref a), .val (.int (3)), .val (.ref qf), .val (.int (1)), .val (.int (2)), .val (.int (3))]) rfl ?_
  refine k_goto C X d_prog_5_method_1_code_68 (tpc := 27) rfl ?_
  refine k_iload C X d_prog_5_method_1_code_27 rfl rfl ?_
  refine k_iloadN C X d_prog_5_method_1_code_29 rfl rfl ?_
  refine k_icmp_ge C X d_prog_5_method_1_code_30 rfl (tpc := 71) rfl (fun _ => ?_) (fun hc => (absurd hc (by decide) : False).elim)
  exact k_return C X d_prog_5_method_1_code_71 ⟨rfl, _, rfl⟩ (by decide) (by decide)
def rm_own_moved_2 : Room := { frames := 1, cells := 1, slots := 3, locals := 14 }
set_option maxRecDepth 65536 in
set_option maxHeartbeats 40000000 in
theorem own_moved_2 (l : Launch) (Z : State) (a0 : Array Value) (hw : ∀ d ∈ tables_1, d.before a0 Z = true) (a qa qc qs qi : Addr) (us : List Value) (y0 y1 y2 c0_ c1_ : UInt64) (n0 : Jvm.Free.Fl.NoNaN64 (FP.dadd y0 c0_)) (n1 : Jvm.Free.Fl.NoNaN64 (FP.dadd y1 c1_)) (L : List (Addr × (Cell → Prop))) :
    own_Con l Z (⟨"com/example/residuum/residuum/FreeParameters", "moved", "([D[D)[D"⟩ : MethodName) prog_5_method_5_code 5 (some (.array .double)) rm_own_moved_2 #[(.ref a), (.ref qa), (.ref qc)] ((qc, own_ar Z .double [(.double c0_), (.double c1_)]) :: (qs, own_ar Z .double us) :: (qa, own_ar Z .double [(.double y0), (.double y1), (.double y2)]) :: (qi, own_ar Z .int [(.int (0)), (.int (1))]) :: (a, own_ob Z "com/example/residuum/residuum/FreeParameters" [("total", "I", (.int (3))), ("indices", "[I", (.ref qi))]) :: L) (fun v M => ∃ r, v = some (.ref r) ∧ M = (r, own_ar Z .double [(.double (FP.dadd y0 c0_)), (.double (FP.dadd y1 c1_)), (.double y2)]) :: (qc, own_ar Z .double [(.double c0_), (.double c1_)]) :: (qs, own_ar Z .double us) :: (qa, own_ar Z .double [(.double y0), (.double y1), (.double y2)]) :: (qi, own_ar Z .int [(.int (0)), (.int (1))]) :: (a, own_ob Z "com/example/residuum/residuum/FreeParameters" [("total", "I", (.int (3))), ("indices", "[I", (.ref qi))]) :: L) := by
  refine own_con (ls := #[.val (.ref a), .val (.ref qa), .val (.ref qc), .unset, .unset]) (plainFor_of_name own_pn0) (fun m => own_ent m rfl) ?_
  intro p e s m below meth c T C X
  refine k_aloadN C X d_prog_5_method_5_code_0 rfl rfl rfl ?_
  refine k_clone C X d_prog_5_method_5_code_1 rfl (hw _ (List.mem_of_getElem? (i := 20) rfl)) (hw _ (List.mem_of_getElem? (i := 21) rfl)) (hw _ (List.mem_of_getElem? (i := 25) rfl)) (hw _ (List.mem_of_getElem? (i := 23) rfl)) (hw _ (List.mem_of_getElem? (i := 24) rfl)) (hw _ (List.mem_of_getElem? (i := 26) rfl)) (ix := 2) rfl rfl (own_fitsD [y0, y1, y2]) rfl (W := 0) (Nat.le_of_eq rfl) (by decide) (by decide) (cap := 3) (Nat.le_of_eq rfl) (by decide) (by decide) (fun T o1 X => ?_)
  refine k_checkcast C X d_prog_5_method_5_code_4 rfl (hw _ (List.mem_of_getElem? (i := 27) rfl)) (own_iA (ix := 0) rfl rfl) (fun T X => ?_)
  refine k_astoreN C X d_prog_5_method_5_code_7 rfl rfl (l' := #[.val (.ref a), .val (.ref qa), .val (.ref qc), .val (.ref o1), .unset]) rfl ?_
  refine k_iconst C X d_prog_5_method_5_code_8 rfl (v := 0) rfl ?_
  refine k_istore C X d_prog_5_method_5_code_9 rfl (l' := #[.val (.ref a), .val (.ref qa), .val (.ref qc), .val (.ref o1), .val (.int (0))]) rfl ?_
  refine k_iload C X d_prog_5_method_5_code_11 rfl rfl ?_
  refine k_aloadN C X d_prog_5_method_5_code_13 rfl rfl rfl ?_
  refine k_getfield C X d_prog_5_method_5_code_14 rfl (host := "") (Or.inl (hw _ (List.mem_of_getElem? (i := 12) rfl))) (own_fL (ix := 5) (j := 1) rfl rfl) (fun T X => ?_)
  refine k_arraylength C X d_prog_5_method_5_code_17 rfl (ix := 4) rfl (z := (2)) rfl ?_
  refine k_icmp_ge C X d_prog_5_method_5_code_18 rfl (tpc := 43) rfl (fun hc => (absurd hc (by decide) : False).elim) (fun _ => ?_)
  refine k_aloadN C X d_prog_5_method_5_code_21 rfl rfl rfl ?_
  refine k_aloadN C X d_prog_5_method_5_code_22 rfl rfl rfl ?_
  refine k_getfield C X d_prog_5_method_5_code_23 rfl (host := "") (Or.inl (hw _ (List.mem_of_getElem? (i := 12) rfl))) (own_fL (ix := 5) (j := 1) rfl rfl) (fun T X => ?_)
  refine k_iload C X d_prog_5_method_5_code_26 rfl rfl ?_
  refine k_iaload C X d_prog_5_method_5_code_28 rfl (ix := 4) (i := 0) rfl (by decide) (by decide) rfl ?_
  refine k_dup2 C X d_prog_5_method_5_code_29 rfl rfl rfl ?_
  refine k_daload C X d_prog_5_method_5_code_30 rfl (ix := 0) (i := 0) rfl (by decide) (by decide) rfl ?_
  refine k_aloadN C X d_prog_5_method_5_code_31 rfl rfl rfl ?_
  refine k_iload C X d_prog_5_method_5_code_32 rfl rfl ?_
  refine k_daload C X d_prog_5_method_5_code_34 rfl (ix := 1) (i := 0) rfl (by decide) (by decide) rfl ?_
  refine k_daddE C X d_prog_5_method_5_code_35 rfl (by assumption) ?_
  refine k_dastore C X d_prog_5_method_5_code_36 rfl (ix := 0) (i := 0) rfl (by decide) (by decide) (Nat.le_of_ble_eq_true rfl) (vs' := [(.double (FP.dadd y0 c0_)), (.double y1), (.double y2)]) rfl (L' := (o1, own_ar Z .double [(.double (FP.dadd y0 c0_)), (.double y1), (.double y2)]) :: (qc, own_ar Z .double [(.double c0_), (.double c1_)]) :: (qs, own_ar Z .double us) :: (qa, own_ar Z .double [(.double y0), (.double y1), (.double y2)]) :: (qi, own_ar Z .int [(.int (0)), (.int (1))]) :: (a, own_ob Z "com/example/residuum/residuum/FreeParameters" [("total", "I", (.int (3))), ("indices", "[I", (.ref qi))]) :: L) rfl (fun T X => ?_)
  refine k_iinc C X d_prog_5_method_5_code_37 rfl (v := 1) rfl rfl (l' := #[.val (.ref a), .val (.ref qa), .val (.ref qc), .val (.ref o1), .val (.int (1))]) rfl ?_
  refine k_goto C X d_prog_5_method_5_code_40 (tpc := 11) rfl ?_
  refine k_iload C X d_prog_5_method_5_code_11 rfl rfl ?_
  refine k_aloadN C X d_prog_5_method_5_code_13 rfl rfl rfl ?_
  refine k_getfield C X d_prog_5_method_5_code_14 rfl (host := "") (Or.inl (hw _ (List.mem_of_getElem? (i := 12) rfl))) (own_fL (ix := 5) (j := 1) rfl rfl) (fun T X => ?_)
  refine k_arraylength C X d_prog_5_method_5_code_17 rfl (ix := 4) rfl (z := (2)) rfl ?_
  refine k_icmp_ge C X d_prog_5_method_5_code_18 rfl (tpc := 43) rfl (fun hc => (absurd hc (by decide) : False).elim) (fun _ => ?_)
  refine k_aloadN C X d_prog_5_method_5_code_21 rfl rfl rfl ?_
  refine k_aloadN C X d_prog_5_method_5_code_22 rfl rfl rfl ?_
  refine k_getfield C X d_prog_5_method_5_code_23 rfl (host := "") (Or.inl (hw _ (List.mem_of_getElem? (i := 12) rfl))) (own_fL (ix := 5) (j := 1) rfl rfl) (fun T X => ?_)
  refine k_iload C X d_prog_5_method_5_code_26 rfl rfl ?_
  refine k_iaload C X d_prog_5_method_5_code_28 rfl (ix := 4) (i := 1) rfl (by decide) (by decide) rfl ?_
  refine k_dup2 C X d_prog_5_method_5_code_29 rfl rfl rfl ?_
  refine k_daload C X d_prog_5_method_5_code_30 rfl (ix := 0) (i := 1) rfl (by decide) (by decide) rfl ?_
  refine k_aloadN C X d_prog_5_method_5_code_31 rfl rfl rfl ?_
  refine k_iload C X d_prog_5_method_5_code_32 rfl rfl ?_
  refine k_daload C X d_prog_5_method_5_code_34 rfl (ix := 1) (i := 1) rfl (by decide) (by decide) rfl ?_
  refine k_daddE C X d_prog_5_method_5_code_35 rfl (by assumption) ?_
  refine k_dastore C X d_prog_5_method_5_code_36 rfl (ix := 0) (i := 1) rfl (by decide) (by decide) (Nat.le_of_ble_eq_true rfl) (vs' := [(.double (FP.dadd y0 c0_)), (.double (FP.dadd y1 c1_)), (.double y2)]) rfl (L' := (o1, own_ar Z .double [(.double (FP.dadd y0 c0_)), (.double (FP.dadd y1 c1_)), (.double y2)]) :: (qc, own_ar Z .double [(.double c0_), (.double c1_)]) :: (qs, own_ar Z .double us) :: (qa, own_ar Z .double [(.double y0), (.double y1), (.double y2)]) :: (qi, own_ar Z .int [(.int (0)), (.int (1))]) :: (a, own_ob Z "com/example/residuum/residuum/FreeParameters" [("total", "I", (.int (3))), ("indices", "[I", (.ref qi))]) :: L) rfl (fun T X => ?_)
  refine k_iinc C X d_prog_5_method_5_code_37 rfl (v := 1) rfl rfl (l' := #[.val (.ref a), .val (.ref qa), .val (.ref qc), .val (.ref o1), .val (.int (2))]) rfl ?_
  refine k_goto C X d_prog_5_method_5_code_40 (tpc := 11) rfl ?_
  refine k_iload C X d_prog_5_method_5_code_11 rfl rfl ?_
  refine k_aloadN C X d_prog_5_method_5_code_13 rfl rfl rfl ?_
  refine k_getfield C X d_prog_5_method_5_code_14 rfl (host := "") (Or.inl (hw _ (List.mem_of_getElem? (i := 12) rfl))) (own_fL (ix := 5) (j := 1) rfl rfl) (fun T X => ?_)
  refine k_arraylength C X d_prog_5_method_5_code_17 rfl (ix := 4) rfl (z := (2)) rfl ?_
  refine k_icmp_ge C X d_prog_5_method_5_code_18 rfl (tpc := 43) rfl (fun _ => ?_) (fun hc => (absurd hc (by decide) : False).elim)
  refine k_aloadN C X d_prog_5_method_5_code_43 rfl rfl rfl ?_
  exact k_areturn C X d_prog_5_method_5_code_44 rfl rfl rfl ⟨_, rfl, rfl⟩ (by decide) (by decide)
def rm_own_init_01 : Room := { frames := 1, cells := 1, slots := 1, locals := 12 }
set_option maxRecDepth 65536 in
set_option maxHeartbeats 40000000 in
theorem own_init_01 (l : Launch) (Z : State) (a0 : Array Value) (hw : ∀ d ∈ tables_1, d.before a0 Z = true) (a qf : Addr) (L : List (Addr × (Cell → Prop))) :
    own_Con l Z (⟨"com/example/residuum/residuum/FreeParameters", "<init>", "(I[I)V"⟩ : MethodName) prog_5_method_1_code 6 none rm_own_init_01 #[(.ref a), (.int (3)), (.ref qf)] ((a, own_ob Z "com/example/residuum/residuum/FreeParameters" [("total", "I", (.int (0))), ("indices", "[I", .null)]) :: (qf, own_ar Z .int [(.int (0)), (.int (1))]) :: L) (fun v M => v = none ∧ ∃ qi, M = (qi, own_ar Z .int [(.int (2))]) :: (a, own_ob Z "com/example/residuum/residuum/FreeParameters" [("total", "I", (.int (3))), ("indices", "[I", (.ref qi))]) :: (qf, own_ar Z .int [(.int (0)), (.int (1))]) :: L) := by
  refine own_con (ls := #[.val (.ref a), .val (.int (3)), .val (.ref qf), .unset, .unset, .unset]) (plainFor_of_name own_pn0) (fun m => own_ent m rfl) ?_
  intro p e s m below meth c T C X
  refine k_aloadN C X d_prog_5_method_1_code_0 rfl rfl rfl ?_
  refine k_initO C X d_prog_5_method_1_code_1 rfl (hw _ (List.mem_of_getElem? (i := 7) rfl)) (hw _ (List.mem_of_getElem? (i := 8) rfl)) (hw _ (List.mem_of_getElem? (i := 9) rfl)) rfl (W := 0) (Nat.le_of_eq rfl) (by decide) (by decide) (fun T X => ?_)
  refine k_aloadN C X d_prog_5_method_1_code_4 rfl rfl rfl ?_
  refine k_iloadN C X d_prog_5_method_1_code_5 rfl rfl ?_
  refine k_putfield C X d_prog_5_method_1_code_6 rfl (host := "") (Or.inl (hw _ (List.mem_of_getElem? (i := 10) rfl))) (hw _ (List.mem_of_getElem? (i := 2) rfl)) (Or.inr ⟨(hw _ (List.mem_of_getElem? (i := 11) rfl)), rfl, rfl⟩) (own_lay_FreeParameters hw) own_lay_FreeParameters_nd (ix := 0) (j := 0) rfl rfl rfl (fs' := [("total", "I", (.int (3))), ("indices", "[I", .null)]) rfl (ty := .int) (by decide) rfl rfl (L' := (a, own_ob Z "com/example/residuum/residuum/FreeParameters" [("total", "I", (.int (3))), ("indices", "[I", .null)]) :: (qf, own_ar Z .int [(.int (0)), (.int (1))]) :: L) rfl (fun T X => ?_)
  refine k_aloadN C X d_prog_5_method_1_code_9 rfl rfl rfl ?_
  refine k_iloadN C X d_prog_5_method_1_code_10 rfl rfl ?_
  refine k_aloadN C X d_prog_5_method_1_code_11 rfl rfl rfl ?_
  refine k_arraylength C X d_prog_5_method_1_code_12 rfl (ix := 1) rfl (z := (2)) rfl ?_
  refine k_isub C X d_prog_5_method_1_code_13 rfl ?_
  refine k_newarray C X d_prog_5_method_1_code_14 rfl (ty := .int) rfl (hw _ (List.mem_of_getElem? (i := 0) rfl)) (by decide) (cap := 1) (by decide) (by decide) (by decide) (by decide) (vs := [(.int 0)]) rfl (fun T o14 X => ?_)
  refine k_putfield C X d_prog_5_method_1_code_16 rfl (host := "") (Or.inl (hw _ (List.mem_of_getElem? (i := 12) rfl))) (hw _ (List.mem_of_getElem? (i := 2) rfl)) (Or.inr ⟨(hw _ (List.mem_of_getElem? (i := 13) rfl)), rfl, rfl⟩) (own_lay_FreeParameters hw) own_lay_FreeParameters_nd (ix := 1) (j := 1) rfl rfl rfl (fs' := [("total", "I", (.int (3))), ("indices", "[I", (.ref o14))]) rfl (ty := (.array .int)) (by decide) rfl rfl (L' := (o14, own_ar Z .int [(.int 0)]) :: (a, own_ob Z "com/example/residuum/residuum/FreeParameters" [("total", "I", (.int (3))), ("indices", "[I", (.ref o14))]) :: (qf, own_ar Z .int [(.int (0)), (.int (1))]) :: L) rfl (fun T X => ?_)
  refine k_iconst C X d_prog_5_method_1_code_19 rfl (v := 0) rfl ?_
  refine k_istoreN C X d_prog_5_method_1_code_20 rfl (l' := #[.val (.ref a), .val (.int (3)), .val (.ref qf), .val (.int (0)), .unset, .unset]) rfl ?_
  refine k_iconst C X d_prog_5_method_1_code_21 rfl (v := 0) rfl ?_
  refine k_istore C X d_prog_5_method_1_code_22 rfl (l' := #[.val (.ref a), .val (.int (3)), .val (.ref qf), .val (.int (0)), .val (.int (0)), .unset]) rfl ?_
  refine k_iconst C X d_prog_5_method_1_code_24 rfl (v := 0) rfl ?_
  refine k_istore C X d_prog_5_method_1_code_25 rfl (l' := #[.val (.ref a), .val (.int (3)), .val (.ref qf), .val (.int (0)), .val (.int (0)), .val (.int (0))]) rfl ?_
  refine k_iload C X d_prog_5_method_1_code_27 rfl rfl ?_
  refine k_iloadN C X d_prog_5_method_1_code_29 rfl rfl ?_
  refine k_icmp_ge C X d_prog_5_method_1_code_30 rfl (tpc := 71) rfl (fun hc => (absurd hc (by decide) : False).elim) (fun _ => ?_)
  refine k_iloadN C X d_prog_5_method_1_code_33 rfl rfl ?_
  refine k_aloadN C X d_prog_5_method_1_code_34 rfl rfl rfl ?_
  refine k_arraylength C X d_prog_5_method_1_code_35 rfl (ix := 2) rfl (z := (2)) rfl ?_
  refine k_icmp_ge C X d_prog_5_method_1_code_36 rfl (tpc := 53) rfl (fun hc => (absurd hc (by decide) : False).elim) (fun _ => ?_)
  refine k_aloadN C X d_prog_5_method_1_code_39 rfl rfl rfl ?_
  refine k_iloadN C X d_prog_5_method_1_code_40 rfl rfl ?_
  refine k_iaload C X d_prog_5_method_1_code_41 rfl (ix := 2) (i := 0) rfl (by decide) (by decide) rfl ?_
  refine k_iload C X d_prog_5_method_1_code_42 rfl rfl ?_
  refine k_icmp_ne C X d_prog_5_method_1_code_44 rfl (tpc := 53) rfl (fun hc => (absurd hc (by decide) : False).elim) (fun _ => ?_)
  refine k_iinc C X d_prog_5_method_1_code_47 rfl (v := 1) rfl rfl (l' := #[.val (.ref a), .val (.int (3)), .val (.ref qf), .val (.int (1)), .val (.int (0)), .val (.int (0))]) rfl ?_
  refine k_goto C X d_prog_5_method_1_code_50 (tpc := 65) rfl ?_
  refine k_iinc C X d_prog_5_method_1_code_65 rfl (v := 1) rfl rfl (l' := #[.val (.ref a), .val (.int (3)), .val (.ref qf), .val (.int (1)), .val (.int (0)), .val (.int (1))]) rfl ?_
  refine k_goto C X d_prog_5_method_1_code_68 (tpc := 27) rfl ?_
  refine k_iload C X d_prog_5_method_1_code_27 rfl rfl ?_
  refine k_iloadN C X d_prog_5_method_1_code_29 rfl rfl ?_
  refine k_icmp_ge C X d_prog_5_method_1_code_30 rfl (tpc := 71) rfl (fun hc => (absurd hc (by decide) : False).elim) (fun _ => ?_)
  refine k_iloadN C X d_prog_5_method_1_code_33 rfl rfl ?_
  refine k_aloadN C X d_prog_5_method_1_code_34 rfl rfl rfl ?_
  refine k_arraylength C X d_prog_5_method_1_code_35 rfl (ix := 2) rfl (z := (2)) rfl ?_
  refine k_icmp_ge C X d_prog_5_method_1_code_36 rfl (tpc := 53) rfl (fun hc => (absurd hc (by decide) : False).elim) (fun _ => ?_)
  refine k_aloadN C X d_prog_5_method_1_code_39 rfl rfl rfl ?_
  refine k_iloadN C X d_prog_5_method_1_code_40 rfl rfl ?_
  refine k_iaload C X d_prog_5_method_1_code_41 rfl (ix := 2) (i := 1) rfl (by decide) (by decide) rfl ?_
  refine k_iload C X d_prog_5_method_1_code_42 rfl rfl ?_
  refine k_icmp_ne C X d_prog_5_method_1_code_44 rfl (tpc := 53) rfl (fun hc => (absurd hc (by decide) : False).elim) (fun _ => ?_)
  refine k_iinc C X d_prog_5_method_1_code_47 rfl (v := 1) rfl rfl (l' := #[.val (.ref a), .val (.int (3)), .val (.ref qf), .val (.int (2)), .val (.int (0)), .val (.int (1))]) rfl ?_
  refine k_goto C X d_prog_5_method_1_code_50 (tpc := 65) rfl ?_
  refine k_iinc C X d_prog_5_method_1_code_65 rfl (v := 1) rfl rfl (l' := #[.val (.ref a), .val (.int (3)), .val (.ref qf), .val (.int (2)), .val (.int (0)), .val (.int (2))]) rfl ?_
  refine k_goto C X d_prog_5_method_1_code_68 (tpc := 27) rfl ?_
  refine k_iload C X d_prog_5_method_1_code_27 rfl rfl ?_
  refine k_iloadN C X d_prog_5_method_1_code_29 rfl rfl ?_
  refine k_icmp_ge C X d_prog_5_method_1_code_30 rfl (tpc := 71) rfl (fun hc => (absurd hc (by decide) : False).elim) (fun _ => ?_)
  refine k_iloadN C X d_prog_5_method_1_code_33 rfl rfl ?_
  refine k_aloadN C X d_prog_5_method_1_code_34 rfl rfl rfl ?_
  refine k_arraylength C X d_prog_5_method_1_code_35 rfl (ix := 2) rfl (z := (2)) rfl ?_
  refine k_icmp_ge C X d_prog_5_method_1_code_36 rfl (tpc := 53) rfl (fun _ => ?_) (fun hc => (absurd hc (by decide) : False).elim)
  refine k_aloadN C X d_prog_5_method_1_code_53 rfl rfl rfl ?_
  refine k_getfield C X d_prog_5_method_1_code_54 rfl (host := "") (Or.inl (hw _ (List.mem_of_getElem? (i := 12) rfl))) (own_fL (ix := 1) (j := 1) rfl rfl) (fun T X => ?_)
  refine k_iload C X d_prog_5_method_1_code_57 rfl rfl ?_
  refine k_iinc C X d_prog_5_method_1_code_59 rfl (v := 1) rfl rfl (l' := #[.val (.ref a), .val (.int (3)), .val (.ref qf), .val (.int (2)), .val (.int (1)), .val (.int (2))]) rfl ?_
  refine k_iload C X d_prog_5_method_1_code_62 rfl rfl ?_
  refine k_iastore C X d_prog_5_method_1_code_64 rfl (ix := 0) (i := 0) rfl (by decide) (by decide) (Nat.le_of_ble_eq_true rfl) (vs' := [(.int (2))]) rfl (L' := (o14, own_ar Z .int [(.int (2))]) :: (a, own_ob Z "com/example/residuum/residuum/FreeParameters" [("total", "I", (.int (3))), ("indices", "[I", (.ref o14))]) :: (qf, own_ar Z .int [(.int (0)), (.int (1))]) :: L) rfl (fun T X => ?_)
  refine k_iinc C X d_prog_5_method_1_code_65 rfl (v := 1) rfl rfl (l' := #[.val (.ref a), .val (.int (3)), .val (.ref qf), .val (.int (2)), .val (.int (1)), .val (.int (3))]) rfl ?_
  refine k_goto C X d_prog_5_method_1_code_68 (tpc := 27) rfl ?_
  refine k_iload C X d_prog_5_method_1_code_27 rfl rfl ?_
  refine k_iloadN C X d_prog_5_method_1_code_29 rfl rfl ?_
  refine k_icmp_ge C X d_prog_5_method_1_code_30 rfl (tpc := 71) rfl (fun _ => ?_) (fun hc => (absurd hc (by decide) : False).elim)
  exact k_return C X d_prog_5_method_1_code_71 ⟨rfl, _, rfl⟩ (by decide) (by decide)
def rm_own_moved_01 : Room := { frames := 1, cells := 1, slots := 3, locals := 14 }
set_option maxRecDepth 65536 in
set_option maxHeartbeats 40000000 in
theorem own_moved_01 (l : Launch) (Z : State) (a0 : Array Value) (hw : ∀ d ∈ tables_1, d.before a0 Z = true) (a qa qc qs qi : Addr) (us : List Value) (y0 y1 y2 c0_ : UInt64) (n0 : Jvm.Free.Fl.NoNaN64 (FP.dadd y2 c0_)) (L : List (Addr × (Cell → Prop))) :
    own_Con l Z (⟨"com/example/residuum/residuum/FreeParameters", "moved", "([D[D)[D"⟩ : MethodName) prog_5_method_5_code 5 (some (.array .double)) rm_own_moved_01 #[(.ref a), (.ref qa), (.ref qc)] ((qc, own_ar Z .double [(.double c0_)]) :: (qs, own_ar Z .double us) :: (qa, own_ar Z .double [(.double y0), (.double y1), (.double y2)]) :: (qi, own_ar Z .int [(.int (2))]) :: (a, own_ob Z "com/example/residuum/residuum/FreeParameters" [("total", "I", (.int (3))), ("indices", "[I", (.ref qi))]) :: L) (fun v M => ∃ r, v = some (.ref r) ∧ M = (r, own_ar Z .double [(.double y0), (.double y1), (.double (FP.dadd y2 c0_))]) :: (qc, own_ar Z .double [(.double c0_)]) :: (qs, own_ar Z .double us) :: (qa, own_ar Z .double [(.double y0), (.double y1), (.double y2)]) :: (qi, own_ar Z .int [(.int (2))]) :: (a, own_ob Z "com/example/residuum/residuum/FreeParameters" [("total", "I", (.int (3))), ("indices", "[I", (.ref qi))]) :: L) := by
  refine own_con (ls := #[.val (.ref a), .val (.ref qa), .val (.ref qc), .unset, .unset]) (plainFor_of_name own_pn0) (fun m => own_ent m rfl) ?_
  intro p e s m below meth c T C X
  refine k_aloadN C X d_prog_5_method_5_code_0 rfl rfl rfl ?_
  refine k_clone C X d_prog_5_method_5_code_1 rfl (hw _ (List.mem_of_getElem? (i := 20) rfl)) (hw _ (List.mem_of_getElem? (i := 21) rfl)) (hw _ (List.mem_of_getElem? (i := 25) rfl)) (hw _ (List.mem_of_getElem? (i := 23) rfl)) (hw _ (List.mem_of_getElem? (i := 24) rfl)) (hw _ (List.mem_of_getElem? (i := 26) rfl)) (ix := 2) rfl rfl (own_fitsD [y0, y1, y2]) rfl (W := 0) (Nat.le_of_eq rfl) (by decide) (by decide) (cap := 3) (Nat.le_of_eq rfl) (by decide) (by decide) (fun T o1 X => ?_)
  refine k_checkcast C X d_prog_5_method_5_code_4 rfl (hw _ (List.mem_of_getElem? (i := 27) rfl)) (own_iA (ix := 0) rfl rfl) (fun T X => ?_)
  refine k_astoreN C X d_prog_5_method_5_code_7 rfl rfl (l' := #[.val (.ref a), .val (.ref qa), .val (.ref qc), .val (.ref o1), .unset]) rfl ?_
  refine k_iconst C X d_prog_5_method_5_code_8 rfl (v := 0) rfl ?_
  refine k_istore C X d_prog_5_method_5_code_9 rfl (l' := #[.val (.ref a), .val (.ref qa), .val (.ref qc), .val (.ref o1), .val (.int (0))]) rfl ?_
  refine k_iload C X d_prog_5_method_5_code_11 rfl rfl ?_
  refine k_aloadN C X d_prog_5_method_5_code_13 rfl rfl rfl ?_
  refine k_getfield C X d_prog_5_method_5_code_14 rfl (host := "") (Or.inl (hw _ (List.mem_of_getElem? (i := 12) rfl))) (own_fL (ix := 5) (j := 1) rfl rfl) (fun T X => ?_)
  refine k_arraylength C X d_prog_5_method_5_code_17 rfl (ix := 4) rfl (z := (1)) rfl ?_
  refine k_icmp_ge C X d_prog_5_method_5_code_18 rfl (tpc := 43) rfl (fun hc => (absurd hc (by decide) : False).elim) (fun _ => ?_)
  refine k_aloadN C X d_prog_5_method_5_code_21 rfl rfl rfl ?_
  refine k_aloadN C X d_prog_5_method_5_code_22 rfl rfl rfl ?_
  refine k_getfield C X d_prog_5_method_5_code_23 rfl (host := "") (Or.inl (hw _ (List.mem_of_getElem? (i := 12) rfl))) (own_fL (ix := 5) (j := 1) rfl rfl) (fun T X => ?_)
  refine k_iload C X d_prog_5_method_5_code_26 rfl rfl ?_
  refine k_iaload C X d_prog_5_method_5_code_28 rfl (ix := 4) (i := 0) rfl (by decide) (by decide) rfl ?_
  refine k_dup2 C X d_prog_5_method_5_code_29 rfl rfl rfl ?_
  refine k_daload C X d_prog_5_method_5_code_30 rfl (ix := 0) (i := 2) rfl (by decide) (by decide) rfl ?_
  refine k_aloadN C X d_prog_5_method_5_code_31 rfl rfl rfl ?_
  refine k_iload C X d_prog_5_method_5_code_32 rfl rfl ?_
  refine k_daload C X d_prog_5_method_5_code_34 rfl (ix := 1) (i := 0) rfl (by decide) (by decide) rfl ?_
  refine k_daddE C X d_prog_5_method_5_code_35 rfl (by assumption) ?_
  refine k_dastore C X d_prog_5_method_5_code_36 rfl (ix := 0) (i := 2) rfl (by decide) (by decide) (Nat.le_of_ble_eq_true rfl) (vs' := [(.double y0), (.double y1), (.double (FP.dadd y2 c0_))]) rfl (L' := (o1, own_ar Z .double [(.double y0), (.double y1), (.double (FP.dadd y2 c0_))]) :: (qc, own_ar Z .double [(.double c0_)]) :: (qs, own_ar Z .double us) :: (qa, own_ar Z .double [(.double y0), (.double y1), (.double y2)]) :: (qi, own_ar Z .int [(.int (2))]) :: (a, own_ob Z "com/example/residuum/residuum/FreeParameters" [("total", "I", (.int (3))), ("indices", "[I", (.ref qi))]) :: L) rfl (fun T X => ?_)
  refine k_iinc C X d_prog_5_method_5_code_37 rfl (v := 1) rfl rfl (l' := #[.val (.ref a), .val (.ref qa), .val (.ref qc), .val (.ref o1), .val (.int (1))]) rfl ?_
  refine k_goto C X d_prog_5_method_5_code_40 (tpc := 11) rfl ?_
  refine k_iload C X d_prog_5_method_5_code_11 rfl rfl ?_
  refine k_aloadN C X d_prog_5_method_5_code_13 rfl rfl rfl ?_
  refine k_getfield C X d_prog_5_method_5_code_14 rfl (host := "") (Or.inl (hw _ (List.mem_of_getElem? (i := 12) rfl))) (own_fL (ix := 5) (j := 1) rfl rfl) (fun T X => ?_)
  refine k_arraylength C X d_prog_5_method_5_code_17 rfl (ix := 4) rfl (z := (1)) rfl ?_
  refine k_icmp_ge C X d_prog_5_method_5_code_18 rfl (tpc := 43) rfl (fun _ => ?_) (fun hc => (absurd hc (by decide) : False).elim)
  refine k_aloadN C X d_prog_5_method_5_code_43 rfl rfl rfl ?_
  exact k_areturn C X d_prog_5_method_5_code_44 rfl rfl rfl ⟨_, rfl, rfl⟩ (by decide) (by decide)
def rm_own_init_02 : Room := { frames := 1, cells := 1, slots := 1, locals := 12 }
set_option maxRecDepth 65536 in
set_option maxHeartbeats 40000000 in
theorem own_init_02 (l : Launch) (Z : State) (a0 : Array Value) (hw : ∀ d ∈ tables_1, d.before a0 Z = true) (a qf : Addr) (L : List (Addr × (Cell → Prop))) :
    own_Con l Z (⟨"com/example/residuum/residuum/FreeParameters", "<init>", "(I[I)V"⟩ : MethodName) prog_5_method_1_code 6 none rm_own_init_02 #[(.ref a), (.int (3)), (.ref qf)] ((a, own_ob Z "com/example/residuum/residuum/FreeParameters" [("total", "I", (.int (0))), ("indices", "[I", .null)]) :: (qf, own_ar Z .int [(.int (0)), (.int (2))]) :: L) (fun v M => v = none ∧ ∃ qi, M = (qi, own_ar Z .int [(.int (1))]) :: (a, own_ob Z "com/example/residuum/residuum/FreeParameters" [("total", "I", (.int (3))), ("indices", "[I", (.ref qi))]) :: (qf, own_ar Z .int [(.int (0)), (.int (2))]) :: L) := by
  refine own_con (ls := #[.val (.ref a), .val (.int (3)), .val (.ref qf), .unset, .unset, .unset]) (plainFor_of_name own_pn0) (fun m => own_ent m rfl) ?_
  intro p e s m below meth c T C X
  refine k_aloadN C X d_prog_5_method_1_code_0 rfl rfl rfl ?_
  refine k_initO C X d_prog_5_method_1_code_1 rfl (hw _ (List.mem_of_getElem? (i := 7) rfl)) (hw _ (List.mem_of_getElem? (i := 8) rfl)) (hw _ (List.mem_of_getElem? (i := 9) rfl)) rfl (W := 0) (Nat.le_of_eq rfl) (by decide) (by decide) (fun T X => ?_)
  refine k_aloadN C X d_prog_5_method_1_code_4 rfl rfl rfl ?_
  refine k_iloadN C X d_prog_5_method_1_code_5 rfl rfl ?_
  refine k_putfield C X d_prog_5_method_1_code_6 rfl (host := "") (Or.inl (hw _ (List.mem_of_getElem? (i := 10) rfl))) (hw _ (List.mem_of_getElem? (i := 2) rfl)) (Or.inr ⟨(hw _ (List.mem_of_getElem? (i := 11) rfl)), rfl, rfl⟩) (own_lay_FreeParameters hw) own_lay_FreeParameters_nd (ix := 0) (j := 0) rfl rfl rfl (fs' := [("total", "I", (.int (3))), ("indices", "[I", .null)]) rfl (ty := .int) (by decide) rfl rfl (L' := (a, own_ob Z "com/example/residuum/residuum/FreeParameters" [("total", "I", (.int (3))), ("indices", "[I", .null)]) :: (qf, own_ar Z .int [(.int (0)), (.int (2))]) :: L) rfl (fun T X => ?_)
  refine k_aloadN C X d_prog_5_method_1_code_9 rfl rfl rfl ?_
  refine k_iloadN C X d_prog_5_method_1_code_10 rfl rfl ?_
  refine k_aloadN C X d_prog_5_method_1_code_11 rfl rfl rfl ?_
  refine k_arraylength C X d_prog_5_method_1_code_12 rfl (ix := 1) rfl (z := (2)) rfl ?_
  refine k_isub C X d_prog_5_method_1_code_13 rfl ?_
  refine k_newarray C X d_prog_5_method_1_code_14 rfl (ty := .int) rfl (hw _ (List.mem_of_getElem? (i := 0) rfl)) (by decide) (cap := 1) (by decide) (by decide) (by decide) (by decide) (vs := [(.int 0)]) rfl (fun T o14 X => ?_)
  refine k_putfield C X d_prog_5_method_1_code_16 rfl (host := "") (Or.inl (hw _ (List.mem_of_getElem? (i := 12) rfl))) (hw _ (List.mem_of_getElem? (i := 2) rfl)) (Or.inr ⟨(hw _ (List.mem_of_getElem? (i := 13) rfl)), rfl, rfl⟩) (own_lay_FreeParameters hw) own_lay_FreeParameters_nd (ix := 1) (j := 1) rfl rfl rfl (fs' := [("total", "I", (.int (3))), ("indices", "[I", (.ref o14))]) rfl (ty := (.array .int)) (by decide) rfl rfl (L' := (o14, own_ar Z .int [(.int 0)]) :: (a, own_ob Z "com/example/residuum/residuum/FreeParameters" [("total", "I", (.int (3))), ("indices", "[I", (.ref o14))]) :: (qf, own_ar Z .int [(.int (0)), (.int (2))]) :: L) rfl (fun T X => ?_)
  refine k_iconst C X d_prog_5_method_1_code_19 rfl (v := 0) rfl ?_
  refine k_istoreN C X d_prog_5_method_1_code_20 rfl (l' := #[.val (.ref a), .val (.int (3)), .val (.ref qf), .val (.int (0)), .unset, .unset]) rfl ?_
  refine k_iconst C X d_prog_5_method_1_code_21 rfl (v := 0) rfl ?_
  refine k_istore C X d_prog_5_method_1_code_22 rfl (l' := #[.val (.ref a), .val (.int (3)), .val (.ref qf), .val (.int (0)), .val (.int (0)), .unset]) rfl ?_
  refine k_iconst C X d_prog_5_method_1_code_24 rfl (v := 0) rfl ?_
  refine k_istore C X d_prog_5_method_1_code_25 rfl (l' := #[.val (.ref a), .val (.int (3)), .val (.ref qf), .val (.int (0)), .val (.int (0)), .val (.int (0))]) rfl ?_
  refine k_iload C X d_prog_5_method_1_code_27 rfl rfl ?_
  refine k_iloadN C X d_prog_5_method_1_code_29 rfl rfl ?_
  refine k_icmp_ge C X d_prog_5_method_1_code_30 rfl (tpc := 71) rfl (fun hc => (absurd hc (by decide) : False).elim) (fun _ => ?_)
  refine k_iloadN C X d_prog_5_method_1_code_33 rfl rfl ?_
  refine k_aloadN C X d_prog_5_method_1_code_34 rfl rfl rfl ?_
  refine k_arraylength C X d_prog_5_method_1_code_35 rfl (ix := 2) rfl (z := (2)) rfl ?_
  refine k_icmp_ge C X d_prog_5_method_1_code_36 rfl (tpc := 53) rfl (fun hc => (absurd hc (by decide) : False).elim) (fun _ => ?_)
  refine k_aloadN C X d_prog_5_method_1_code_39 rfl rfl rfl ?_
  refine k_iloadN C X d_prog_5_method_1_code_40 rfl rfl ?_
  refine k_iaload C X d_prog_5_method_1_code_41 rfl (ix := 2) (i := 0) rfl (by decide) (by decide) rfl ?_
  refine k_iload C X d_prog_5_method_1_code_42 rfl rfl ?_
  refine k_icmp_ne C X d_prog_5_method_1_code_44 rfl (tpc := 53) rfl (fun hc => (absurd hc (by decide) : False).elim) (fun _ => ?_)
  refine k_iinc C X d_prog_5_method_1_code_47 rfl (v := 1) rfl rfl (l' := #[.val (.ref a), .val (.int (3)), .val (.ref qf), .val (.int (1)), .val (.int (0)), .val (.int (0))]) rfl ?_
  refine k_goto C X d_prog_5_method_1_code_50 (tpc := 65) rfl ?_
  refine k_iinc C X d_prog_5_method_1_code_65 rfl (v := 1) rfl rfl (l' := #[.val (.ref a), .val (.int (3)), .val (.ref qf), .val (.int (1)), .val (.int (0)), .val (.int (1))]) rfl ?_
  refine k_goto C X d_prog_5_method_1_code_68 (tpc := 27) rfl ?_
  refine k_iload C X d_prog_5_method_1_code_27 rfl rfl ?_
  refine k_iloadN C X d_prog_5_method_1_code_29 rfl rfl ?_
  refine k_icmp_ge C X d_prog_5_method_1_code_30 rfl (tpc := 71) rfl (fun hc => (absurd hc (by decide) : False).elim) (fun _ => ?_)
  refine k_iloadN C X d_prog_5_method_1_code_33 rfl rfl ?_
  refine k_aloadN C X d_prog_5_method_1_code_34 rfl rfl rfl ?_
  refine k_arraylength C X d_prog_5_method_1_code_35 rfl (ix := 2) rfl (z := (2)) rfl ?_
  refine k_icmp_ge C X d_prog_5_method_1_code_36 rfl (tpc := 53) rfl (fun hc => (absurd hc (by decide) : False).elim) (fun _ => ?_)
  refine k_aloadN C X d_prog_5_method_1_code_39 rfl rfl rfl ?_
  refine k_iloadN C X d_prog_5_method_1_code_40 rfl rfl ?_
  refine k_iaload C X d_prog_5_method_1_code_41 rfl (ix := 2) (i := 1) rfl (by decide) (by decide) rfl ?_
  refine k_iload C X d_prog_5_method_1_code_42 rfl rfl ?_
  refine k_icmp_ne C X d_prog_5_method_1_code_44 rfl (tpc := 53) rfl (fun _ => ?_) (fun hc => (absurd hc (by decide) : False).elim)
  refine k_aloadN C X d_prog_5_method_1_code_53 rfl rfl rfl ?_
  refine k_getfield C X d_prog_5_method_1_code_54 rfl (host := "") (Or.inl (hw _ (List.mem_of_getElem? (i := 12) rfl))) (own_fL (ix := 1) (j := 1) rfl rfl) (fun T X => ?_)
  refine k_iload C X d_prog_5_method_1_code_57 rfl rfl ?_
  refine k_iinc C X d_prog_5_method_1_code_59 rfl (v := 1) rfl rfl (l' := #[.val (.ref a), .val (.int (3)), .val (.ref qf), .val (.int (1)), .val (.int (1)), .val (.int (1))]) rfl ?_
  refine k_iload C X d_prog_5_method_1_code_62 rfl rfl ?_
  refine k_iastore C X d_prog_5_method_1_code_64 rfl (ix := 0) (i := 0) rfl (by decide) (by decide) (Nat.le_of_ble_eq_true rfl) (vs' := [(.int (1))]) rfl (L' := (o14, own_ar Z .int [(.int (1))]) :: (a, own_ob Z "com/example/residuum/residuum/FreeParameters" [("total", "I", (.int (3))), ("indices", "[I", (.ref o14))]) :: (qf, own_ar Z .int [(.int (0)), (.int (2))]) :: L) rfl (fun T X => ?_)
  refine k_iinc C X d_prog_5_method_1_code_65 rfl (v := 1) rfl rfl (l' := #[.val (.ref a), .val (.int (3)), .val (.ref qf), .val (.int (1)), .val (.int (1)), .val (.int (2))]) rfl ?_
  refine k_goto C X d_prog_5_method_1_code_68 (tpc := 27) rfl ?_
  refine k_iload C X d_prog_5_method_1_code_27 rfl rfl ?_
  refine k_iloadN C X d_prog_5_method_1_code_29 rfl rfl ?_
  refine k_icmp_ge C X d_prog_5_method_1_code_30 rfl (tpc := 71) rfl (fun hc => (absurd hc (by decide) : False).elim) (fun _ => ?_)
  refine k_iloadN C X d_prog_5_method_1_code_33 rfl rfl ?_
  refine k_aloadN C X d_prog_5_method_1_code_34 rfl rfl rfl ?_
  refine k_arraylength C X d_prog_5_method_1_code_35 rfl (ix := 2) rfl (z := (2)) rfl ?_
  refine k_icmp_ge C X d_prog_5_method_1_code_36 rfl (tpc := 53) rfl (fun hc => (absurd hc (by decide) : False).elim) (fun _ => ?_)
  refine k_aloadN C X d_prog_5_method_1_code_39 rfl rfl rfl ?_
  refine k_iloadN C X d_prog_5_method_1_code_40 rfl rfl ?_
  refine k_iaload C X d_prog_5_method_1_code_41 rfl (ix := 2) (i := 1) rfl (by decide) (by decide) rfl ?_
  refine k_iload C X d_prog_5_method_1_code_42 rfl rfl ?_
  refine k_icmp_ne C X d_prog_5_method_1_code_44 rfl (tpc := 53) rfl (fun hc => (absurd hc (by decide) : False).elim) (fun _ => ?_)
  refine k_iinc C X d_prog_5_method_1_code_47 rfl (v := 1) rfl rfl (l' := #[.val (.ref a), .val (.int (3)), .val (.ref qf), .val (.int (2)), .val (.int (1)), .val (.int (2))]) rfl ?_
  refine k_goto C X d_prog_5_method_1_code_50 (tpc := 65) rfl ?_
  refine k_iinc C X d_prog_5_method_1_code_65 rfl (v := 1) rfl rfl (l' := #[.val (.ref a), .val (.int (3)), .val (.ref qf), .val (.int (2)), .val (.int (1)), .val (.int (3))]) rfl ?_
  refine k_goto C X d_prog_5_method_1_code_68 (tpc := 27) rfl ?_
  refine k_iload C X d_prog_5_method_1_code_27 rfl rfl ?_
  refine k_iloadN C X d_prog_5_method_1_code_29 rfl rfl ?_
  refine k_icmp_ge C X d_prog_5_method_1_code_30 rfl (tpc := 71) rfl (fun _ => ?_) (fun hc => (absurd hc (by decide) : False).elim)
  exact k_return C X d_prog_5_method_1_code_71 ⟨rfl, _, rfl⟩ (by decide) (by decide)
def rm_own_moved_02 : Room := { frames := 1, cells := 1, slots := 3, locals := 14 }
set_option maxRecDepth 65536 in
set_option maxHeartbeats 40000000 in
theorem own_moved_02 (l : Launch) (Z : State) (a0 : Array Value) (hw : ∀ d ∈ tables_1, d.before a0 Z = true) (a qa qc qs qi : Addr) (us : List Value) (y0 y1 y2 c0_ : UInt64) (n0 : Jvm.Free.Fl.NoNaN64 (FP.dadd y1 c0_)) (L : List (Addr × (Cell → Prop))) :
    own_Con l Z (⟨"com/example/residuum/residuum/FreeParameters", "moved", "([D[D)[D"⟩ : MethodName) prog_5_method_5_code 5 (some (.array .double)) rm_own_moved_02 #[(.ref a), (.ref qa), (.ref qc)] ((qc, own_ar Z .double [(.double c0_)]) :: (qs, own_ar Z .double us) :: (qa, own_ar Z .double [(.double y0), (.double y1), (.double y2)]) :: (qi, own_ar Z .int [(.int (1))]) :: (a, own_ob Z "com/example/residuum/residuum/FreeParameters" [("total", "I", (.int (3))), ("indices", "[I", (.ref qi))]) :: L) (fun v M => ∃ r, v = some (.ref r) ∧ M = (r, own_ar Z .double [(.double y0), (.double (FP.dadd y1 c0_)), (.double y2)]) :: (qc, own_ar Z .double [(.double c0_)]) :: (qs, own_ar Z .double us) :: (qa, own_ar Z .double [(.double y0), (.double y1), (.double y2)]) :: (qi, own_ar Z .int [(.int (1))]) :: (a, own_ob Z "com/example/residuum/residuum/FreeParameters" [("total", "I", (.int (3))), ("indices", "[I", (.ref qi))]) :: L) := by
  refine own_con (ls := #[.val (.ref a), .val (.ref qa), .val (.ref qc), .unset, .unset]) (plainFor_of_name own_pn0) (fun m => own_ent m rfl) ?_
  intro p e s m below meth c T C X
  refine k_aloadN C X d_prog_5_method_5_code_0 rfl rfl rfl ?_
  refine k_clone C X d_prog_5_method_5_code_1 rfl (hw _ (List.mem_of_getElem? (i := 20) rfl)) (hw _ (List.mem_of_getElem? (i := 21) rfl)) (hw _ (List.mem_of_getElem? (i := 25) rfl)) (hw _ (List.mem_of_getElem? (i := 23) rfl)) (hw _ (List.mem_of_getElem? (i := 24) rfl)) (hw _ (List.mem_of_getElem? (i := 26) rfl)) (ix := 2) rfl rfl (own_fitsD [y0, y1, y2]) rfl (W := 0) (Nat.le_of_eq rfl) (by decide) (by decide) (cap := 3) (Nat.le_of_eq rfl) (by decide) (by decide) (fun T o1 X => ?_)
  refine k_checkcast C X d_prog_5_method_5_code_4 rfl (hw _ (List.mem_of_getElem? (i := 27) rfl)) (own_iA (ix := 0) rfl rfl) (fun T X => ?_)
  refine k_astoreN C X d_prog_5_method_5_code_7 rfl rfl (l' := #[.val (.ref a), .val (.ref qa), .val (.ref qc), .val (.ref o1), .unset]) rfl ?_
  refine k_iconst C X d_prog_5_method_5_code_8 rfl (v := 0) rfl ?_
  refine k_istore C X d_prog_5_method_5_code_9 rfl (l' := #[.val (.ref a), .val (.ref qa), .val (.ref qc), .val (.ref o1), .val (.int (0))]) rfl ?_
  refine k_iload C X d_prog_5_method_5_code_11 rfl rfl ?_
  refine k_aloadN C X d_prog_5_method_5_code_13 rfl rfl rfl ?_
  refine k_getfield C X d_prog_5_method_5_code_14 rfl (host := "") (Or.inl (hw _ (List.mem_of_getElem? (i := 12) rfl))) (own_fL (ix := 5) (j := 1) rfl rfl) (fun T X => ?_)
  refine k_arraylength C X d_prog_5_method_5_code_17 rfl (ix := 4) rfl (z := (1)) rfl ?_
  refine k_icmp_ge C X d_prog_5_method_5_code_18 rfl (tpc := 43) rfl (fun hc => (absurd hc (by decide) : False).elim) (fun _ => ?_)
  refine k_aloadN C X d_prog_5_method_5_code_21 rfl rfl rfl ?_
  refine k_aloadN C X d_prog_5_method_5_code_22 rfl rfl rfl ?_
  refine k_getfield C X d_prog_5_method_5_code_23 rfl (host := "") (Or.inl (hw _ (List.mem_of_getElem? (i := 12) rfl))) (own_fL (ix := 5) (j := 1) rfl rfl) (fun T X => ?_)
  refine k_iload C X d_prog_5_method_5_code_26 rfl rfl ?_
  refine k_iaload C X d_prog_5_method_5_code_28 rfl (ix := 4) (i := 0) rfl (by decide) (by decide) rfl ?_
  refine k_dup2 C X d_prog_5_method_5_code_29 rfl rfl rfl ?_
  refine k_daload C X d_prog_5_method_5_code_30 rfl (ix := 0) (i := 1) rfl (by decide) (by decide) rfl ?_
  refine k_aloadN C X d_prog_5_method_5_code_31 rfl rfl rfl ?_
  refine k_iload C X d_prog_5_method_5_code_32 rfl rfl ?_
  refine k_daload C X d_prog_5_method_5_code_34 rfl (ix := 1) (i := 0) rfl (by decide) (by decide) rfl ?_
  refine k_daddE C X d_prog_5_method_5_code_35 rfl (by assumption) ?_
  refine k_dastore C X d_prog_5_method_5_code_36 rfl (ix := 0) (i := 1) rfl (by decide) (by decide) (Nat.le_of_ble_eq_true rfl) (vs' := [(.double y0), (.double (FP.dadd y1 c0_)), (.double y2)]) rfl (L' := (o1, own_ar Z .double [(.double y0), (.double (FP.dadd y1 c0_)), (.double y2)]) :: (qc, own_ar Z .double [(.double c0_)]) :: (qs, own_ar Z .double us) :: (qa, own_ar Z .double [(.double y0), (.double y1), (.double y2)]) :: (qi, own_ar Z .int [(.int (1))]) :: (a, own_ob Z "com/example/residuum/residuum/FreeParameters" [("total", "I", (.int (3))), ("indices", "[I", (.ref qi))]) :: L) rfl (fun T X => ?_)
  refine k_iinc C X d_prog_5_method_5_code_37 rfl (v := 1) rfl rfl (l' := #[.val (.ref a), .val (.ref qa), .val (.ref qc), .val (.ref o1), .val (.int (1))]) rfl ?_
  refine k_goto C X d_prog_5_method_5_code_40 (tpc := 11) rfl ?_
  refine k_iload C X d_prog_5_method_5_code_11 rfl rfl ?_
  refine k_aloadN C X d_prog_5_method_5_code_13 rfl rfl rfl ?_
  refine k_getfield C X d_prog_5_method_5_code_14 rfl (host := "") (Or.inl (hw _ (List.mem_of_getElem? (i := 12) rfl))) (own_fL (ix := 5) (j := 1) rfl rfl) (fun T X => ?_)
  refine k_arraylength C X d_prog_5_method_5_code_17 rfl (ix := 4) rfl (z := (1)) rfl ?_
  refine k_icmp_ge C X d_prog_5_method_5_code_18 rfl (tpc := 43) rfl (fun _ => ?_) (fun hc => (absurd hc (by decide) : False).elim)
  refine k_aloadN C X d_prog_5_method_5_code_43 rfl rfl rfl ?_
  exact k_areturn C X d_prog_5_method_5_code_44 rfl rfl rfl ⟨_, rfl, rfl⟩ (by decide) (by decide)
def rm_own_init_12 : Room := { frames := 1, cells := 1, slots := 1, locals := 12 }
set_option maxRecDepth 65536 in
set_option maxHeartbeats 40000000 in
theorem own_init_12 (l : Launch) (Z : State) (a0 : Array Value) (hw : ∀ d ∈ tables_1, d.before a0 Z = true) (a qf : Addr) (L : List (Addr × (Cell → Prop))) :
    own_Con l Z (⟨"com/example/residuum/residuum/FreeParameters", "<init>", "(I[I)V"⟩ : MethodName) prog_5_method_1_code 6 none rm_own_init_12 #[(.ref a), (.int (3)), (.ref qf)] ((a, own_ob Z "com/example/residuum/residuum/FreeParameters" [("total", "I", (.int (0))), ("indices", "[I", .null)]) :: (qf, own_ar Z .int [(.int (1)), (.int (2))]) :: L) (fun v M => v = none ∧ ∃ qi, M = (qi, own_ar Z .int [(.int (0))]) :: (a, own_ob Z "com/example/residuum/residuum/FreeParameters" [("total", "I", (.int (3))), ("indices", "[I", (.ref qi))]) :: (qf, own_ar Z .int [(.int (1)), (.int (2))]) :: L) := by
  refine own_con (ls := #[.val (.ref a), .val (.int (3)), .val (.ref qf), .unset, .unset, .unset]) (plainFor_of_name own_pn0) (fun m => own_ent m rfl) ?_
  intro p e s m below meth c T C X
  refine k_aloadN C X d_prog_5_method_1_code_0 rfl rfl rfl ?_
  refine k_initO C X d_prog_5_method_1_code_1 rfl (hw _ (List.mem_of_getElem? (i := 7) rfl)) (hw _ (List.mem_of_getElem? (i := 8) rfl)) (hw _ (List.mem_of_getElem? (i := 9) rfl)) rfl (W := 0) (Nat.le_of_eq rfl) (by decide) (by decide) (fun T X => ?_)
  refine k_aloadN C X d_prog_5_method_1_code_4 rfl rfl rfl ?_
  refine k_iloadN C X d_prog_5_method_1_code_5 rfl rfl ?_
  refine k_putfield C X d_prog_5_method_1_code_6 rfl (host := "") (Or.inl (hw _ (List.mem_of_getElem? (i := 10) rfl))) (hw _ (List.mem_of_getElem? (i := 2) rfl)) (Or.inr ⟨(hw _ (List.mem_of_getElem? (i := 11) rfl)), rfl, rfl⟩) (own_lay_FreeParameters hw) own_lay_FreeParameters_nd (ix := 0) (j := 0) rfl rfl rfl (fs' := [("total", "I", (.int (3))), ("indices", "[I", .null)]) rfl (ty := .int) (by decide) rfl rfl (L' := (a, own_ob Z "com/example/residuum/residuum/FreeParameters" [("total", "I", (.int (3))), ("indices", "[I", .null)]) :: (qf, own_ar Z .int [(.int (1)), (.int (2))]) :: L) rfl (fun T X => ?_)
  refine k_aloadN C X d_prog_5_method_1_code_9 rfl rfl rfl ?_
  refine k_iloadN C X d_prog_5_method_1_code_10 rfl rfl ?_
  refine k_aloadN C X d_prog_5_method_1_code_11 rfl rfl rfl ?_
  refine k_arraylength C X d_prog_5_method_1_code_12 rfl (ix := 1) rfl (z := (2)) rfl ?_
  refine k_isub C X d_prog_5_method_1_code_13 rfl ?_
  refine k_newarray C X d_prog_5_method_1_code_14 rfl (ty := .int) rfl (hw _ (List.mem_of_getElem? (i := 0) rfl)) (by decide) (cap := 1) (by decide) (by decide) (by decide) (by decide) (vs := [(.int 0)]) rfl (fun T o14 X => ?_)
  refine k_putfield C X d_prog_5_method_1_code_16 rfl (host := "") (Or.inl (hw _ (List.mem_of_getElem? (i := 12) rfl))) (hw _ (List.mem_of_getElem? (i := 2) rfl)) (Or.inr ⟨(hw _ (List.mem_of_getElem? (i := 13) rfl)), rfl, rfl⟩) (own_lay_FreeParameters hw) own_lay_FreeParameters_nd (ix := 1) (j := 1) rfl rfl rfl (fs' := [("total", "I", (.int (3))), ("indices", "[I", (.ref o14))]) rfl (ty := (.array .int)) (by decide) rfl rfl (L' := (o14, own_ar Z .int [(.int 0)]) :: (a, own_ob Z "com/example/residuum/residuum/FreeParameters" [("total", "I", (.int (3))), ("indices", "[I", (.ref o14))]) :: (qf, own_ar Z .int [(.int (1)), (.int (2))]) :: L) rfl (fun T X => ?_)
  refine k_iconst C X d_prog_5_method_1_code_19 rfl (v := 0) rfl ?_
  refine k_istoreN C X d_prog_5_method_1_code_20 rfl (l' := #[.val (.ref a), .val (.int (3)), .val (.ref qf), .val (.int (0)), .unset, .unset]) rfl ?_
  refine k_iconst C X d_prog_5_method_1_code_21 rfl (v := 0) rfl ?_
  refine k_istore C X d_prog_5_method_1_code_22 rfl (l' := #[.val (.ref a), .val (.int (3)), .val (.ref qf), .val (.int (0)), .val (.int (0)), .unset]) rfl ?_
  refine k_iconst C X d_prog_5_method_1_code_24 rfl (v := 0) rfl ?_
  refine k_istore C X d_prog_5_method_1_code_25 rfl (l' := #[.val (.ref a), .val (.int (3)), .val (.ref qf), .val (.int (0)), .val (.int (0)), .val (.int (0))]) rfl ?_
  refine k_iload C X d_prog_5_method_1_code_27 rfl rfl ?_
  refine k_iloadN C X d_prog_5_method_1_code_29 rfl rfl ?_
  refine k_icmp_ge C X d_prog_5_method_1_code_30 rfl (tpc := 71) rfl (fun hc => (absurd hc (by decide) : False).elim) (fun _ => ?_)
  refine k_iloadN C X d_prog_5_method_1_code_33 rfl rfl ?_
  refine k_aloadN C X d_prog_5_method_1_code_34 rfl rfl rfl ?_
  refine k_arraylength C X d_prog_5_method_1_code_35 rfl (ix := 2) rfl (z := (2)) rfl ?_
  refine k_icmp_ge C X d_prog_5_method_1_code_36 rfl (tpc := 53) rfl (fun hc => (absurd hc (by decide) : False).elim) (fun _ => ?_)
  refine k_aloadN C X d_prog_5_method_1_code_39 rfl rfl rfl ?_
  refine k_iloadN C X d_prog_5_method_1_code_40 rfl rfl ?_
  refine k_iaload C X d_prog_5_method_1_code_41 rfl (ix := 2) (i := 0) rfl (by decide) (by decide) rfl ?_
  refine k_iload C X d_prog_5_method_1_code_42 rfl rfl ?_
  refine k_icmp_ne C X d_prog_5_method_1_code_44 rfl (tpc := 53) rfl (fun _ => ?_) (fun hc => (absurd hc (by decide) : False).elim)
  refine k_aloadN C X d_prog_5_method_1_code_53 rfl rfl rfl ?_
  refine k_getfield C X d_prog_5_method_1_code_54 rfl (host := "") (Or.inl (hw _ (List.mem_of_getElem? (i := 12) rfl))) (own_fL (ix := 1) (j := 1) rfl rfl) (fun T X => ?_)
  refine k_iload C X d_prog_5_method_1_code_57 rfl rfl ?_
  refine k_iinc C X d_prog_5_method_1_code_59 rfl (v := 1) rfl rfl (l' := #[.val (.ref a), .val (.int (3)), .val (.ref qf), .val (.int (0)), .val (.int (1)), .val (.int (0))]) rfl ?_
  refine k_iload C X d_prog_5_method_1_code_62 rfl rfl ?_
  refine k_iastore C X d_prog_5_method_1_code_64 rfl (ix := 0) (i := 0) rfl (by decide) (by decide) (Nat.le_of_ble_eq_true rfl) (vs' := [(.int (0))]) rfl (L' := (o14, own_ar Z .int [(.int (0))]) :: (a, own_ob Z "com/example/residuum/residuum/FreeParameters" [("total", "I", (.int (3))), ("indices", "[I", (.ref o14))]) :: (qf, own_ar Z .int [(.int (1)), (.int (2))]) :: L) rfl (fun T X => ?_)
  refine k_iinc C X d_prog_5_method_1_code_65 rfl (v := 1) rfl rfl (l' := #[.val (.ref a), .val (.int (3)), .val (.ref qf), .val (.int (0)), .val (.int (1)), .val (.int (1))]) rfl ?_
  refine k_goto C X d_prog_5_method_1_code_68 (tpc := 27) rfl ?_
  refine k_iload C X d_prog_5_method_1_code_27 rfl rfl ?_
  refine k_iloadN C X d_prog_5_method_1_code_29 rfl rfl ?_
  refine k_icmp_ge C X d_prog_5_method_1_code_30 rfl (tpc := 71) rfl (fun hc => (absurd hc (by decide) : False).elim) (fun _ => ?_)
  refine k_iloadN C X d_prog_5_method_1_code_33 rfl rfl ?_
  refine k_aloadN C X d_prog_5_method_1_code_34 rfl rfl rfl ?_
  refine k_arraylength C X d_prog_5_method_1_code_35 rfl (ix := 2) rfl (z := (2)) rfl ?_
  refine k_icmp_ge C X d_prog_5_method_1_code_36 rfl (tpc := 53) rfl (fun hc => (absurd hc (by decide) : False).elim) (fun _ => ?_)
  refine k_aloadN C X d_prog_5_method_1_code_39 rfl rfl rfl ?_
  refine k_iloadN C X d_prog_5_method_1_code_40 rfl rfl ?_
  refine k_iaload C X d_prog_5_method_1_code_41 rfl (ix := 2) (i := 0) rfl (by decide) (by decide) rfl ?_
  refine k_iload C X d_prog_5_method_1_code_42 rfl rfl ?_
  refine k_icmp_ne C X d_prog_5_method_1_code_44 rfl (tpc := 53) rfl (fun hc => (absurd hc (by decide) : False).elim) (fun _ => ?_)
  refine k_iinc C X d_prog_5_method_1_code_47 rfl (v := 1) rfl rfl (l' := #[.val (.ref a), .val (.int (3)), .val (.ref qf), .val (.int (1)), .val (.int (1)), .val (.int (1))]) rfl ?_
  refine k_goto C X d_prog_5_method_1_code_50 (tpc := 65) rfl ?_
  refine k_iinc C X d_prog_5_method_1_code_65 rfl (v := 1) rfl rfl (l' := #[.val (.ref a), .val (.int (3)), .val (.ref qf), .val (.int (1)), .val (.int (1)), .val (.int (2))]) rfl ?_
  refine k_goto C X d_prog_5_method_1_code_68 (tpc := 27) rfl ?_
  refine k_iload C X d_prog_5_method_1_code_27 rfl rfl ?_
  refine k_iloadN C X d_prog_5_method_1_code_29 rfl rfl ?_
  refine k_icmp_ge C X d_prog_5_method_1_code_30 rfl (tpc := 71) rfl (fun hc => (absurd hc (by decide) : False).elim) (fun _ => ?_)
  refine k_iloadN C X d_prog_5_method_1_code_33 rfl rfl ?_
  refine k_aloadN C X d_prog_5_method_1_code_34 rfl rfl rfl ?_
  refine k_arraylength C X d_prog_5_method_1_code_35 rfl (ix := 2) rfl (z := (2)) rfl ?_
  refine k_icmp_ge C X d_prog_5_method_1_code_36 rfl (tpc := 53) rfl (fun hc => (absurd hc (by decide) : False).elim) (fun _ => ?_)
  refine k_aloadN C X d_prog_5_method_1_code_39 rfl rfl rfl ?_
  refine k_iloadN C X d_prog_5_method_1_code_40 rfl rfl ?_
  refine k_iaload C X d_prog_5_method_1_code_41 rfl (ix := 2) (i := 1) rfl (by decide) (by decide) rfl ?_
  refine k_iload C X d_prog_5_method_1_code_42 rfl rfl ?_
  refine k_icmp_ne C X d_prog_5_method_1_code_44 rfl (tpc := 53) rfl (fun hc => (absurd hc (by decide) : False).elim) (fun _ => ?_)
  refine k_iinc C X d_prog_5_method_1_code_47 rfl (v := 1) rfl rfl (l' := #[.val (.ref a), .val (.int (3)), .val (.ref qf), .val (.int (2)), .val (.int (1)), .val (.int (2))]) rfl ?_
  refine k_goto C X d_prog_5_method_1_code_50 (tpc := 65) rfl ?_
  refine k_iinc C X d_prog_5_method_1_code_65 rfl (v := 1) rfl rfl (l' := #[.val (.ref a), .val (.int (3)), .val (.ref qf), .val (.int (2)), .val (.int (1)), .val (.int (3))]) rfl ?_
  refine k_goto C X d_prog_5_method_1_code_68 (tpc := 27) rfl ?_
  refine k_iload C X d_prog_5_method_1_code_27 rfl rfl ?_
  refine k_iloadN C X d_prog_5_method_1_code_29 rfl rfl ?_
  refine k_icmp_ge C X d_prog_5_method_1_code_30 rfl (tpc := 71) rfl (fun _ => ?_) (fun hc => (absurd hc (by decide) : False).elim)
  exact k_return C X d_prog_5_method_1_code_71 ⟨rfl, _, rfl⟩ (by decide) (by decide)
def rm_own_moved_12 : Room := { frames := 1, cells := 1, slots := 3, locals := 14 }
set_option maxRecDepth 65536 in
set_option maxHeartbeats 40000000 in
theorem own_moved_12 (l : Launch) (Z : State) (a0 : Array Value) (hw : ∀ d ∈ tables_1, d.before a0 Z = true) (a qa qc qs qi : Addr) (us : List Value) (y0 y1 y2 c0_ : UInt64) (n0 : Jvm.Free.Fl.NoNaN64 (FP.dadd y0 c0_)) (L : List (Addr × (Cell → Prop))) :
    own_Con l Z (⟨"com/example/residuum/residuum/FreeParameters", "moved", "([D[D)[D"⟩ : MethodName) prog_5_method_5_code 5 (some (.array .double)) rm_own_moved_12 #[(.ref a), (.ref qa), (.ref qc)] ((qc, own_ar Z .double [(.double c0_)]) :: (qs, own_ar Z .double us) :: (qa, own_ar Z .double [(.double y0), (.double y1), (.double y2)]) :: (qi, own_ar Z .int [(.int (0))]) :: (a, own_ob Z "com/example/residuum/residuum/FreeParameters" [("total", "I", (.int (3))), ("indices", "[I", (.ref qi))]) :: L) (fun v M => ∃ r, v = some (.ref r) ∧ M = (r, own_ar Z .double [(.double (FP.dadd y0 c0_)), (.double y1), (.double y2)]) :: (qc, own_ar Z .double [(.double c0_)]) :: (qs, own_ar Z .double us) :: (qa, own_ar Z .double [(.double y0), (.double y1), (.double y2)]) :: (qi, own_ar Z .int [(.int (0))]) :: (a, own_ob Z "com/example/residuum/residuum/FreeParameters" [("total", "I", (.int (3))), ("indices", "[I", (.ref qi))]) :: L) := by
  refine own_con (ls := #[.val (.ref a), .val (.ref qa), .val (.ref qc), .unset, .unset]) (plainFor_of_name own_pn0) (fun m => own_ent m rfl) ?_
  intro p e s m below meth c T C X
  refine k_aloadN C X d_prog_5_method_5_code_0 rfl rfl rfl ?_
  refine k_clone C X d_prog_5_method_5_code_1 rfl (hw _ (List.mem_of_getElem? (i := 20) rfl)) (hw _ (List.mem_of_getElem? (i := 21) rfl)) (hw _ (List.mem_of_getElem? (i := 25) rfl)) (hw _ (List.mem_of_getElem? (i := 23) rfl)) (hw _ (List.mem_of_getElem? (i := 24) rfl)) (hw _ (List.mem_of_getElem? (i := 26) rfl)) (ix := 2) rfl rfl (own_fitsD [y0, y1, y2]) rfl (W := 0) (Nat.le_of_eq rfl) (by decide) (by decide) (cap := 3) (Nat.le_of_eq rfl) (by decide) (by decide) (fun T o1 X => ?_)
  refine k_checkcast C X d_prog_5_method_5_code_4 rfl (hw _ (List.mem_of_getElem? (i := 27) rfl)) (own_iA (ix := 0) rfl rfl) (fun T X => ?_)
  refine k_astoreN C X d_prog_5_method_5_code_7 rfl rfl (l' := #[.val (.ref a), .val (.ref qa), .val (.ref qc), .val (.ref o1), .unset]) rfl ?_
  refine k_iconst C X d_prog_5_method_5_code_8 rfl (v := 0) rfl ?_
  refine k_istore C X d_prog_5_method_5_code_9 rfl (l' := #[.val (.ref a), .val (.ref qa), .val (.ref qc), .val (.ref o1), .val (.int (0))]) rfl ?_
  refine k_iload C X d_prog_5_method_5_code_11 rfl rfl ?_
  refine k_aloadN C X d_prog_5_method_5_code_13 rfl rfl rfl ?_
  refine k_getfield C X d_prog_5_method_5_code_14 rfl (host := "") (Or.inl (hw _ (List.mem_of_getElem? (i := 12) rfl))) (own_fL (ix := 5) (j := 1) rfl rfl) (fun T X => ?_)
  refine k_arraylength C X d_prog_5_method_5_code_17 rfl (ix := 4) rfl (z := (1)) rfl ?_
  refine k_icmp_ge C X d_prog_5_method_5_code_18 rfl (tpc := 43) rfl (fun hc => (absurd hc (by decide) : False).elim) (fun _ => ?_)
  refine k_aloadN C X d_prog_5_method_5_code_21 rfl rfl rfl ?_
  refine k_aloadN C X d_prog_5_method_5_code_22 rfl rfl rfl ?_
  refine k_getfield C X d_prog_5_method_5_code_23 rfl (host := "") (Or.inl (hw _ (List.mem_of_getElem? (i := 12) rfl))) (own_fL (ix := 5) (j := 1) rfl rfl) (fun T X => ?_)
  refine k_iload C X d_prog_5_method_5_code_26 rfl rfl ?_
  refine k_iaload C X d_prog_5_method_5_code_28 rfl (ix := 4) (i := 0) rfl (by decide) (by decide) rfl ?_
  refine k_dup2 C X d_prog_5_method_5_code_29 rfl rfl rfl ?_
  refine k_daload C X d_prog_5_method_5_code_30 rfl (ix := 0) (i := 0) rfl (by decide) (by decide) rfl ?_
  refine k_aloadN C X d_prog_5_method_5_code_31 rfl rfl rfl ?_
  refine k_iload C X d_prog_5_method_5_code_32 rfl rfl ?_
  refine k_daload C X d_prog_5_method_5_code_34 rfl (ix := 1) (i := 0) rfl (by decide) (by decide) rfl ?_
  refine k_daddE C X d_prog_5_method_5_code_35 rfl (by assumption) ?_
  refine k_dastore C X d_prog_5_method_5_code_36 rfl (ix := 0) (i := 0) rfl (by decide) (by decide) (Nat.le_of_ble_eq_true rfl) (vs' := [(.double (FP.dadd y0 c0_)), (.double y1), (.double y2)]) rfl (L' := (o1, own_ar Z .double [(.double (FP.dadd y0 c0_)), (.double y1), (.double y2)]) :: (qc, own_ar Z .double [(.double c0_)]) :: (qs, own_ar Z .double us) :: (qa, own_ar Z .double [(.double y0), (.double y1), (.double y2)]) :: (qi, own_ar Z .int [(.int (0))]) :: (a, own_ob Z "com/example/residuum/residuum/FreeParameters" [("total", "I", (.int (3))), ("indices", "[I", (.ref qi))]) :: L) rfl (fun T X => ?_)
  refine k_iinc C X d_prog_5_method_5_code_37 rfl (v := 1) rfl rfl (l' := #[.val (.ref a), .val (.ref qa), .val (.ref qc), .val (.ref o1), .val (.int (1))]) rfl ?_
  refine k_goto C X d_prog_5_method_5_code_40 (tpc := 11) rfl ?_
  refine k_iload C X d_prog_5_method_5_code_11 rfl rfl ?_
  refine k_aloadN C X d_prog_5_method_5_code_13 rfl rfl rfl ?_
  refine k_getfield C X d_prog_5_method_5_code_14 rfl (host := "") (Or.inl (hw _ (List.mem_of_getElem? (i := 12) rfl))) (own_fL (ix := 5) (j := 1) rfl rfl) (fun T X => ?_)
  refine k_arraylength C X d_prog_5_method_5_code_17 rfl (ix := 4) rfl (z := (1)) rfl ?_
  refine k_icmp_ge C X d_prog_5_method_5_code_18 rfl (tpc := 43) rfl (fun _ => ?_) (fun hc => (absurd hc (by decide) : False).elim)
  refine k_aloadN C X d_prog_5_method_5_code_43 rfl rfl rfl ?_
  exact k_areturn C X d_prog_5_method_5_code_44 rfl rfl rfl ⟨_, rfl, rfl⟩ (by decide) (by decide)
def rm_own_init_012 : Room := { frames := 1, cells := 1, slots := 0, locals := 12 }
set_option maxRecDepth 65536 in
set_option maxHeartbeats 40000000 in
theorem own_init_012 (l : Launch) (Z : State) (a0 : Array Value) (hw : ∀ d ∈ tables_1, d.before a0 Z = true) (a qf : Addr) (L : List (Addr × (Cell → Prop))) :
    own_Con l Z (⟨"com/example/residuum/residuum/FreeParameters", "<init>", "(I[I)V"⟩ : MethodName) prog_5_method_1_code 6 none rm_own_init_012 #[(.ref a), (.int (3)), (.ref qf)] ((a, own_ob Z "com/example/residuum/residuum/FreeParameters" [("total", "I", (.int (0))), ("indices", "[I", .null)]) :: (qf, own_ar Z .int [(.int (0)), (.int (1)), (.int (2))]) :: L) (fun v M => v = none ∧ ∃ qi, M = (qi, own_ar Z .int []) :: (a, own_ob Z "com/example/residuum/residuum/FreeParameters" [("total", "I", (.int (3))), ("indices", "[I", (.ref qi))]) :: (qf, own_ar Z .int [(.int (0)), (.int (1)), (.int (2))]) :: L) := by
  refine own_con (ls := #[.val (.ref a), .val (.int (3)), .val (.ref qf), .unset, .unset, .unset]) (plainFor_of_name own_pn0) (fun m => own_ent m rfl) ?_
  intro p e s m below meth c T C X
  refine k_aloadN C X d_prog_5_method_1_code_0 rfl rfl rfl ?_
  refine k_initO C X d_prog_5_method_1_code_1 rfl (hw _ (List.mem_of_getElem? (i := 7) rfl)) (hw _ (List.mem_of_getElem? (i := 8) rfl)) (hw _ (List.mem_of_getElem? (i := 9) rfl)) rfl (W := 0) (Nat.le_of_eq rfl) (by decide) (by decide) (fun T X => ?_)
  refine k_aloadN C X d_prog_5_method_1_code_4 rfl rfl rfl ?_
  refine k_iloadN C X d_prog_5_method_1_code_5 rfl rfl ?_
  refine k_putfield C X d_prog_5_method_1_code_6 rfl (host := "") (Or.inl (hw _ (List.mem_of_getElem? (i := 10) rfl))) (hw _ (List.mem_of_getElem? (i := 2) rfl)) (Or.inr ⟨(hw _ (List.mem_of_getElem? (i := 11) rfl)), rfl, rfl⟩) (own_lay_FreeParameters hw) own_lay_FreeParameters_nd (ix := 0) (j := 0) rfl rfl rfl (fs' := [("total", "I", (.int (3))), ("indices", "[I", .null)]) rfl (ty := .int) (by decide) rfl rfl (L' := (a, own_ob Z "com/example/residuum/residuum/FreeParameters" [("total", "I", (.int (3))), ("indices", "[I", .null)]) :: (qf, own_ar Z .int [(.int (0)), (.int (1)), (.int (2))]) :: L) rfl (fun T X => ?_)
  refine k_aloadN C X d_prog_5_method_1_code_9 rfl rfl rfl ?_
  refine k_iloadN C X d_prog_5_method_1_code_10 rfl rfl ?_
  refine k_aloadN C X d_prog_5_method_1_code_11 rfl rfl rfl ?_
  refine k_arraylength C X d_prog_5_method_1_code_12 rfl (ix := 1) rfl (z := (3)) rfl ?_
  refine k_isub C X d_prog_5_method_1_code_13 rfl ?_
  refine k_newarray C X d_prog_5_method_1_code_14 rfl (ty := .int) rfl (hw _ (List.mem_of_getElem? (i := 0) rfl)) (by decide) (cap := 0) (by decide) (by decide) (by decide) (by decide) (vs := []) rfl (fun T o14 X => ?_)
  refine k_putfield C X d_prog_5_method_1_code_16 rfl (host := "") (Or.inl (hw _ (List.mem_of_getElem? (i := 12) rfl))) (hw _ (List.mem_of_getElem? (i := 2) rfl)) (Or.inr ⟨(hw _ (List.mem_of_getElem? (i := 13) rfl)), rfl, rfl⟩) (own_lay_FreeParameters hw) own_lay_FreeParameters_nd (ix := 1) (j := 1) rfl rfl rfl (fs' := [("total", "I", (.int (3))), ("indices", "[I", (.ref o14))]) rfl (ty := (.array .int)) (by decide) rfl rfl (L' := (o14, own_ar Z .int []) :: (a, own_ob Z "com/example/residuum/residuum/FreeParameters" [("total", "I", (.int (3))), ("indices", "[I", (.ref o14))]) :: (qf, own_ar Z .int [(.int (0)), (.int (1)), (.int (2))]) :: L) rfl (fun T X => ?_)
  refine k_iconst C X d_prog_5_method_1_code_19 rfl (v := 0) rfl ?_
  refine k_istoreN C X d_prog_5_method_1_code_20 rfl (l' := #[.val (.ref a), .val (.int (3)), .val (.ref qf), .val (.int (0)), .unset, .unset]) rfl ?_
  refine k_iconst C X d_prog_5_method_1_code_21 rfl (v := 0) rfl ?_
  refine k_istore C X d_prog_5_method_1_code_22 rfl (l' := #[.val (.ref a), .val (.int (3)), .val (.ref qf), .val (.int (0)), .val (.int (0)), .unset]) rfl ?_
  refine k_iconst C X d_prog_5_method_1_code_24 rfl (v := 0) rfl ?_
  refine k_istore C X d_prog_5_method_1_code_25 rfl (l' := #[.val (.ref a), .val (.int (3)), .val (.ref qf), .val (.int (0)), .val (.int (0)), .val (.int (0))]) rfl ?_
  refine k_iload C X d_prog_5_method_1_code_27 rfl rfl ?_
  refine k_iloadN C X d_prog_5_method_1_code_29 rfl rfl ?_
  refine k_icmp_ge C X d_prog_5_method_1_code_30 rfl (tpc := 71) rfl (fun hc => (absurd hc (by decide) : False).elim) (fun _ => ?_)
  refine k_iloadN C X d_prog_5_method_1_code_33 rfl rfl ?_
  refine k_aloadN C X d_prog_5_method_1_code_34 rfl rfl rfl ?_
  refine k_arraylength C X d_prog_5_method_1_code_35 rfl (ix := 2) rfl (z := (3)) rfl ?_
  refine k_icmp_ge C X d_prog_5_method_1_code_36 rfl (tpc := 53) rfl (fun hc => (absurd hc (by decide) : False).elim) (fun _ => ?_)
  refine k_aloadN C X d_prog_5_method_1_code_39 rfl rfl rfl ?_
  refine k_iloadN C X d_prog_5_method_1_code_40 rfl rfl ?_
  refine k_iaload C X d_prog_5_method_1_code_41 rfl (ix := 2) (i := 0) rfl (by decide) (by decide) rfl ?_
  refine k_iload C X d_prog_5_method_1_code_42 rfl rfl ?_
  refine k_icmp_ne C X d_prog_5_method_1_code_44 rfl (tpc := 53) rfl (fun hc => (absurd hc (by decide) : False).elim) (fun _ => ?_)
  refine k_iinc C X d_prog_5_method_1_code_47 rfl (v := 1) rfl rfl (l' := #[.val (.ref a), .val (.int (3)), .val (.ref qf), .val (.int (1)), .val (.int (0)), .val (.int (0))]) rfl ?_
  refine k_goto C X d_prog_5_method_1_code_50 (tpc := 65) rfl ?_
  refine k_iinc C X d_prog_5_method_1_code_65 rfl (v := 1) rfl rfl (l' := #[.val (.ref a), .val (.int (3)), .val (.ref qf), .val (.int (1)), .val (.int (0)), .val (.int (1))]) rfl ?_
  refine k_goto C X d_prog_5_method_1_code_68 (tpc := 27) rfl ?_
  refine k_iload C X d_prog_5_method_1_code_27 rfl rfl ?_
  refine k_iloadN C X d_prog_5_method_1_code_29 rfl rfl ?_
  refine k_icmp_ge C X d_prog_5_method_1_code_30 rfl (tpc := 71) rfl (fun hc => (absurd hc (by decide) : False).elim) (fun _ => ?_)
  refine k_iloadN C X d_prog_5_method_1_code_33 rfl rfl ?_
  refine k_aloadN C X d_prog_5_method_1_code_34 rfl rfl rfl ?_
  refine k_arraylength C X d_prog_5_method_1_code_35 rfl (ix := 2) rfl (z := (3)) rfl ?_
  refine k_icmp_ge C X d_prog_5_method_1_code_36 rfl (tpc := 53) rfl (fun hc => (absurd hc (by decide) : False).elim) (fun _ => ?_)
  refine k_aloadN C X d_prog_5_method_1_code_39 rfl rfl rfl ?_
  refine k_iloadN C X d_prog_5_method_1_code_40 rfl rfl ?_
  refine k_iaload C X d_prog_5_method_1_code_41 rfl (ix := 2) (i := 1) rfl (by decide) (by decide) rfl ?_
  refine k_iload C X d_prog_5_method_1_code_42 rfl rfl ?_
  refine k_icmp_ne C X d_prog_5_method_1_code_44 rfl (tpc := 53) rfl (fun hc => (absurd hc (by decide) : False).elim) (fun _ => ?_)
  refine k_iinc C X d_prog_5_method_1_code_47 rfl (v := 1) rfl rfl (l' := #[.val (.ref a), .val (.int (3)), .val (.ref qf), .val (.int (2)), .val (.int (0)), .val (.int (1))]) rfl ?_
  refine k_goto C X d_prog_5_method_1_code_50 (tpc := 65) rfl ?_
  refine k_iinc C X d_prog_5_method_1_code_65 rfl (v := 1) rfl rfl (l' := #[.val (.ref a), .val (.int (3)), .val (.ref qf), .val (.int (2)), .val (.int (0)), .val (.int (2))]) rfl ?_
  refine k_goto C X d_prog_5_method_1_code_68 (tpc := 27) rfl ?_
  refine k_iload C X d_prog_5_method_1_code_27 rfl rfl ?_
  refine k_iloadN C X d_prog_5_method_1_code_29 rfl rfl ?_
  refine k_icmp_ge C X d_prog_5_method_1_code_30 rfl (tpc := 71) rfl (fun hc => (absurd hc (by decide) : False).elim) (fun _ => ?_)
  refine k_iloadN C X d_prog_5_method_1_code_33 rfl rfl ?_
  refine k_aloadN C X d_prog_5_method_1_code_34 rfl rfl rfl ?_
  refine k_arraylength C X d_prog_5_method_1_code_35 rfl (ix := 2) rfl (z := (3)) rfl ?_
  refine k_icmp_ge C X d_prog_5_method_1_code_36 rfl (tpc := 53) rfl (fun hc => (absurd hc (by decide) : False).elim) (fun _ => ?_)
  refine k_aloadN C X d_prog_5_method_1_code_39 rfl rfl rfl ?_
  refine k_iloadN C X d_prog_5_method_1_code_40 rfl rfl ?_
  refine k_iaload C X d_prog_5_method_1_code_41 rfl (ix := 2) (i := 2) rfl (by decide) (by decide) rfl ?_
  refine k_iload C X d_prog_5_method_1_code_42 rfl rfl ?_
  refine k_icmp_ne C X d_prog_5_method_1_code_44 rfl (tpc := 53) rfl (fun hc => (absurd hc (by decide) : False).elim) (fun _ => ?_)
  refine k_iinc C X d_prog_5_method_1_code_47 rfl (v := 1) rfl rfl (l' := #[.val (.ref a), .val (.int (3)), .val (.ref qf), .val (.int (3)), .val (.int (0)), .val (.int (2))]) rfl ?_
  refine k_goto C X d_prog_5_method_1_code_50 (tpc := 65) rfl ?_
  refine k_iinc C X d_prog_5_method_1_code_65 rfl (v := 1) rfl rfl (l' := #[.val (.ref a), .val (.int (3)), .val (.ref qf), .val (.int (3)), .val (.int (0)), .val (.int (3))]) rfl ?_
  refine k_goto C X d_prog_5_method_1_code_68 (tpc := 27) rfl ?_
  refine k_iload C X d_prog_5_method_1_code_27 rfl rfl ?_
  refine k_iloadN C X d_prog_5_method_1_code_29 rfl rfl ?_
  refine k_icmp_ge C X d_prog_5_method_1_code_30 rfl (tpc := 71) rfl (fun _ => ?_) (fun hc => (absurd hc (by decide) : False).elim)
  exact k_return C X d_prog_5_method_1_code_71 ⟨rfl, _, rfl⟩ (by decide) (by decide)
def rm_own_moved_012 : Room := { frames := 1, cells := 1, slots := 3, locals := 14 }
set_option maxRecDepth 65536 in
set_option maxHeartbeats 40000000 in
theorem own_moved_012 (l : Launch) (Z : State) (a0 : Array Value) (hw : ∀ d ∈ tables_1, d.before a0 Z = true) (a qa qc qs qi : Addr) (us : List Value) (y0 y1 y2  : UInt64)  (L : List (Addr × (Cell → Prop))) :
    own_Con l Z (⟨"com/example/residuum/residuum/FreeParameters", "moved", "([D[D)[D"⟩ : MethodName) prog_5_method_5_code 5 (some (.array .double)) rm_own_moved_012 #[(.ref a), (.ref qa), (.ref qc)] ((qc, own_ar Z .double []) :: (qs, own_ar Z .double us) :: (qa, own_ar Z .double [(.double y0), (.double y1), (.double y2)]) :: (qi, own_ar Z .int []) :: (a, own_ob Z "com/example/residuum/residuum/FreeParameters" [("total", "I", (.int (3))), ("indices", "[I", (.ref qi))]) :: L) (fun v M => ∃ r, v = some (.ref r) ∧ M = (r, own_ar Z .double [(.double y0), (.double y1), (.double y2)]) :: (qc, own_ar Z .double []) :: (qs, own_ar Z .double us) :: (qa, own_ar Z .double [(.double y0), (.double y1), (.double y2)]) :: (qi, own_ar Z .int []) :: (a, own_ob Z "com/example/residuum/residuum/FreeParameters" [("total", "I", (.int (3))), ("indices", "[I", (.ref qi))]) :: L) := by
  refine own_con (ls := #[.val (.ref a), .val (.ref qa), .val (.ref qc), .unset, .unset]) (plainFor_of_name own_pn0) (fun m => own_ent m rfl) ?_
  intro p e s m below meth c T C X
  refine k_aloadN C X d_prog_5_method_5_code_0 rfl rfl rfl ?_
  refine k_clone C X d_prog_5_method_5_code_1 rfl (hw _ (List.mem_of_getElem? (i := 20) rfl)) (hw _ (List.mem_of_getElem? (i := 21) rfl)) (hw _ (List.mem_of_getElem? (i := 25) rfl)) (hw _ (List.mem_of_getElem? (i := 23) rfl)) (hw _ (List.mem_of_getElem? (i := 24) rfl)) (hw _ (List.mem_of_getElem? (i := 26) rfl)) (ix := 2) rfl rfl (own_fitsD [y0, y1, y2]) rfl (W := 0) (Nat.le_of_eq rfl) (by decide) (by decide) (cap := 3) (Nat.le_of_eq rfl) (by decide) (by decide) (fun T o1 X => ?_)
  refine k_checkcast C X d_prog_5_method_5_code_4 rfl (hw _ (List.mem_of_getElem? (i := 27) rfl)) (own_iA (ix := 0) rfl rfl) (fun T X => ?_)
  refine k_astoreN C X d_prog_5_method_5_code_7 rfl rfl (l' := #[.val (.ref a), .val (.ref qa), .val (.ref qc), .val (.ref o1), .unset]) rfl ?_
  refine k_iconst C X d_prog_5_method_5_code_8 rfl (v := 0) rfl ?_
  refine k_istore C X d_prog_5_method_5_code_9 rfl (l' := #[.val (.ref a), .val (.ref qa), .val (.ref qc), .val (.ref o1), .val (.int (0))]) rfl ?_
  refine k_iload C X d_prog_5_method_5_code_11 rfl rfl ?_
  refine k_aloadN C X d_prog_5_method_5_code_13 rfl rfl rfl ?_
  refine k_getfield C X d_prog_5_method_5_code_14 rfl (host := "") (Or.inl (hw _ (List.mem_of_getElem? (i := 12) rfl))) (own_fL (ix := 5) (j := 1) rfl rfl) (fun T X => ?_)
  refine k_arraylength C X d_prog_5_method_5_code_17 rfl (ix := 4) rfl (z := (0)) rfl ?_
  refine k_icmp_ge C X d_prog_5_method_5_code_18 rfl (tpc := 43) rfl (fun _ => ?_) (fun hc => (absurd hc (by decide) : False).elim)
  refine k_aloadN C X d_prog_5_method_5_code_43 rfl rfl rfl ?_
  exact k_areturn C X d_prog_5_method_5_code_44 rfl rfl rfl ⟨_, rfl, rfl⟩ (by decide) (by decide)
theorem own_pd0 : parseMethodDescriptor "(I[I)V" = some ⟨[.int, (.array .int)], none⟩ := by decide +kernel
theorem own_pd1 : parseMethodDescriptor "([D[D)[D" = some ⟨[(.array .double), (.array .double)], some (.array .double)⟩ := by decide +kernel
theorem own_pn1 : plainName "com/example/residuum/residuum/FreeParametersMovedPinLaw" = true := by first | (simp [plainName, overriddenIn]; done) | decide +kernel
set_option maxRecDepth 65536 in
set_option maxHeartbeats 40000000 in
theorem own_law (l : Launch) (Z : State) (a0 : Array Value) (hw : ∀ d ∈ tables_1, d.before a0 Z = true) (x0 x1 x2 x3 x4 x5 : Int32) :
    own_Con l Z x code maxLocals ret room_1 #[(.int x0), (.int x1), (.int x2), (.int x3), (.int x4), (.int x5)] ([]) (fun v M => v = some (.int 1)) := by
  refine own_con (ls := #[.val (.int x0), .val (.int x1), .val (.int x2), .val (.int x3), .val (.int x4), .val (.int x5), .unset, .unset, .unset, .unset, .unset, .unset, .unset, .unset, .unset, .unset, .unset, .unset, .unset, .unset, .unset, .unset, .unset, .unset, .unset, .unset, .unset, .unset, .unset]) (plainFor_of_name own_pn1) (fun m => own_ent m rfl) ?_
  intro p e s m below meth c T C X
  refine k_iloadN C X at_0 rfl rfl ?_
  refine k_bipush C X at_1 rfl (v := 7) rfl ?_
  refine k_iand C X at_3 rfl ?_
  refine k_istore C X at_4 rfl (l' := #[.val (.int x0), .val (.int x1), .val (.int x2), .val (.int x3), .val (.int x4), .val (.int x5), .val (.int (x0 &&& (7))), .unset, .unset, .unset, .unset, .unset, .unset, .unset, .unset, .unset, .unset, .unset, .unset, .unset, .unset, .unset, .unset, .unset, .unset, .unset, .unset, .unset, .unset]) rfl ?_
  refine k_iloadN C X at_6 rfl rfl ?_
  refine k_iconst C X at_7 rfl (v := 3) rfl ?_
  refine k_ishr C X at_8 rfl ?_
  refine k_istore C X at_9 rfl (l' := #[.val (.int x0), .val (.int x1), .val (.int x2), .val (.int x3), .val (.int x4), .val (.int x5), .val (.int (x0 &&& (7))), .val (.int (x0 >>> ((3) &&& 31 : Int32) : Int32)), .unset, .unset, .unset, .unset, .unset, .unset, .unset, .unset, .unset, .unset, .unset, .unset, .unset, .unset, .unset, .unset, .unset, .unset, .unset, .unset, .unset]) rfl ?_
  obtain ⟨c2, e_c2⟩ : ∃ z, z = ((x0 >>> ((3) &&& 31 : Int32) : Int32) : Int32) := ⟨_, rfl⟩
  rw [← e_c2]
  refine k_iload C X at_11 rfl rfl ?_
  refine k_iconst C X at_13 rfl (v := 1) rfl ?_
  refine k_iand C X at_14 rfl ?_
  refine k_if_eq C X at_15 rfl (tpc := 22) rfl (fun h15 => ?_) (fun h15 => ?_)
  · skip
    refine k_iconst C X at_22 rfl (v := 0) rfl ?_
    refine k_istore C X at_23 rfl (l' := #[.val (.int x0), .val (.int x1), .val (.int x2), .val (.int x3), .val (.int x4), .val (.int x5), .val (.int (x0 &&& (7))), .val (.int c2), .val (.int (0)), .unset, .unset, .unset, .unset, .unset, .unset, .unset, .unset, .unset, .unset, .unset, .unset, .unset, .unset, .unset, .unset, .unset, .unset, .unset, .unset]) rfl ?_
    refine k_iload C X at_25 rfl rfl ?_
    refine k_iconst C X at_27 rfl (v := 2) rfl ?_
    refine k_iand C X at_28 rfl ?_
    refine k_if_eq C X at_29 rfl (tpc := 36) rfl (fun h29 => ?_) (fun h29 => ?_)
    · skip
      refine k_iconst C X at_36 rfl (v := 0) rfl ?_
      refine k_istore C X at_37 rfl (l' := #[.val (.int x0), .val (.int x1), .val (.int x2), .val (.int x3), .val (.int x4), .val (.int x5), .val (.int (x0 &&& (7))), .val (.int c2), .val (.int (0)), .val (.int (0)), .unset, .unset, .unset, .unset, .unset, .unset, .unset, .unset, .unset, .unset, .unset, .unset, .unset, .unset, .unset, .unset, .unset, .unset, .unset]) rfl ?_
      refine k_iload C X at_39 rfl rfl ?_
      refine k_iconst C X at_41 rfl (v := 4) rfl ?_
      refine k_iand C X at_42 rfl ?_
      refine k_if_eq C X at_43 rfl (tpc := 50) rfl (fun h43 => ?_) (fun h43 => ?_)
      · skip
        refine k_iconst C X at_50 rfl (v := 0) rfl ?_
        refine k_istore C X at_51 rfl (l' := #[.val (.int x0), .val (.int x1), .val (.int x2), .val (.int x3), .val (.int x4), .val (.int x5), .val (.int (x0 &&& (7))), .val (.int c2), .val (.int (0)), .val (.int (0)), .val (.int (0)), .unset, .unset, .unset, .unset, .unset, .unset, .unset, .unset, .unset, .unset, .unset, .unset, .unset, .unset, .unset, .unset, .unset, .unset]) rfl ?_
        refine k_iload C X at_53 rfl rfl ?_
        refine k_if_eq C X at_55 rfl (tpc := 62) rfl (fun _ => ?_) (fun hc => (absurd hc (by decide) : False).elim)
        refine k_iconst C X at_62 rfl (v := 0) rfl ?_
        refine k_iload C X at_63 rfl rfl ?_
        refine k_if_eq C X at_65 rfl (tpc := 72) rfl (fun _ => ?_) (fun hc => (absurd hc (by decide) : False).elim)
        refine k_iconst C X at_72 rfl (v := 0) rfl ?_
        refine k_iadd C X at_73 rfl ?_
        refine k_iload C X at_74 rfl rfl ?_
        refine k_if_eq C X at_76 rfl (tpc := 83) rfl (fun _ => ?_) (fun hc => (absurd hc (by decide) : False).elim)
        refine k_iconst C X at_83 rfl (v := 0) rfl ?_
        refine k_iadd C X at_84 rfl ?_
        refine k_istore C X at_85 rfl (l' := #[.val (.int x0), .val (.int x1), .val (.int x2), .val (.int x3), .val (.int x4), .val (.int x5), .val (.int (x0 &&& (7))), .val (.int c2), .val (.int (0)), .val (.int (0)), .val (.int (0)), .val (.int (0)), .unset, .unset, .unset, .unset, .unset, .unset, .unset, .unset, .unset, .unset, .unset, .unset, .unset, .unset, .unset, .unset, .unset]) rfl ?_
        refine k_iload C X at_87 rfl rfl ?_
        refine k_newarray C X at_89 rfl (ty := .int) rfl (hw _ (List.mem_of_getElem? (i := 0) rfl)) (by decide) (cap := 0) (by decide) (by decide) (by decide) (by decide) (vs := []) rfl (fun T o89 X => ?_)
        refine k_astore C X at_91 rfl rfl (l' := #[.val (.int x0), .val (.int x1), .val (.int x2), .val (.int x3), .val (.int x4), .val (.int x5), .val (.int (x0 &&& (7))), .val (.int c2), .val (.int (0)), .val (.int (0)), .val (.int (0)), .val (.int (0)), .val (.ref o89), .unset, .unset, .unset, .unset, .unset, .unset, .unset, .unset, .unset, .unset, .unset, .unset, .unset, .unset, .unset, .unset]) rfl ?_
        refine k_iconst C X at_93 rfl (v := 0) rfl ?_
        refine k_istore C X at_94 rfl (l' := #[.val (.int x0), .val (.int x1), .val (.int x2), .val (.int x3), .val (.int x4), .val (.int x5), .val (.int (x0 &&& (7))), .val (.int c2), .val (.int (0)), .val (.int (0)), .val (.int (0)), .val (.int (0)), .val (.ref o89), .val (.int (0)), .unset, .unset, .unset, .unset, .unset, .unset, .unset, .unset, .unset, .unset, .unset, .unset, .unset, .unset, .unset]) rfl ?_
        refine k_iload C X at_96 rfl rfl ?_
        refine k_if_eq C X at_98 rfl (tpc := 110) rfl (fun _ => ?_) (fun hc => (absurd hc (by decide) : False).elim)
        refine k_iload C X at_110 rfl rfl ?_
        refine k_if_eq C X at_112 rfl (tpc := 124) rfl (fun _ => ?_) (fun hc => (absurd hc (by decide) : False).elim)
        refine k_iload C X at_124 rfl rfl ?_
        refine k_if_eq C X at_126 rfl (tpc := 138) rfl (fun _ => ?_) (fun hc => (absurd hc (by decide) : False).elim)
        refine k_new C X at_138 rfl (hw _ (List.mem_of_getElem? (i := 1) rfl)) (hw _ (List.mem_of_getElem? (i := 2) rfl)) (hw _ (List.mem_of_getElem? (i := 3) rfl)) (own_lay_FreeParameters hw) (fs := [("total", "I", (.int (0))), ("indices", "[I", .null)]) rfl (by decide) (by decide) (fun T o138 X => ?_)
        refine k_dup C X at_141 rfl rfl ?_
        refine k_iconst C X at_142 rfl (v := 3) rfl ?_
        refine k_aload C X at_143 rfl rfl rfl ?_
        refine k_init C X at_145 rfl rfl (hw _ (List.mem_of_getElem? (i := 4) rfl)) (hw _ (List.mem_of_getElem? (i := 5) rfl)) (hw _ (List.mem_of_getElem? (i := 3) rfl)) (hw _ (List.mem_of_getElem? (i := 6) rfl)) (by decide) (own_init_n l Z a0 hw o138 o89 ([])) (W := 1) (argsL := [(.int (3)), (.ref o89)]) (rest := [(.ref o138)]) rfl rfl rfl own_pd0 rfl (Nat.le_of_eq rfl) (by decide) (by decide) (by decide) (by decide) (fun v T M hQ X => ?_)
        obtain ⟨rfl, qi, rfl⟩ := hQ
        refine k_astore C X at_148 rfl rfl (l' := #[.val (.int x0), .val (.int x1), .val (.int x2), .val (.int x3), .val (.int x4), .val (.int x5), .val (.int (x0 &&& (7))), .val (.int c2), .val (.int (0)), .val (.int (0)), .val (.int (0)), .val (.int (0)), .val (.ref o89), .val (.int (0)), .val (.ref o138), .unset, .unset, .unset, .unset, .unset, .unset, .unset, .unset, .unset, .unset, .unset, .unset, .unset, .unset]) rfl ?_
        refine k_iconst C X at_150 rfl (v := 3) rfl ?_
        refine k_newarray C X at_151 rfl (ty := .double) rfl (hw _ (List.mem_of_getElem? (i := 14) rfl)) (by decide) (cap := 3) (by decide) (by decide) (by decide) (by decide) (vs := [(.double 0), (.double 0), (.double 0)]) rfl (fun T o151 X => ?_)
        refine k_astore C X at_153 rfl rfl (l' := #[.val (.int x0), .val (.int x1), .val (.int x2), .val (.int x3), .val (.int x4), .val (.int x5), .val (.int (x0 &&& (7))), .val (.int c2), .val (.int (0)), .val (.int (0)), .val (.int (0)), .val (.int (0)), .val (.ref o89), .val (.int (0)), .val (.ref o138), .val (.ref o151), .unset, .unset, .unset, .unset, .unset, .unset, .unset, .unset, .unset, .unset, .unset, .unset, .unset]) rfl ?_
        refine k_aload C X at_155 rfl rfl rfl ?_
        refine k_iconst C X at_157 rfl (v := 0) rfl ?_
        refine k_iloadN C X at_158 rfl rfl ?_
        refine k_i2d C X at_159 rfl ?_
        refine k_dastore C X at_160 rfl (ix := 0) (i := 0) rfl (by decide) (by decide) (Nat.le_of_ble_eq_true rfl) (vs' := [(.double (FP.i2d x1)), (.double 0), (.double 0)]) rfl (L' := [(o151, own_ar Z .double [(.double (FP.i2d x1)), (.double 0), (.double 0)]), (qi, own_ar Z .int [(.int (0)), (.int (1)), (.int (2))]), (o138, own_ob Z "com/example/residuum/residuum/FreeParameters" [("total", "I", (.int (3))), ("indices", "[I", (.ref qi))]), (o89, own_ar Z .int [])]) rfl (fun T X => ?_)
        refine k_aload C X at_161 rfl rfl rfl ?_
        refine k_iconst C X at_163 rfl (v := 1) rfl ?_
        refine k_iloadN C X at_164 rfl rfl ?_
        refine k_i2d C X at_165 rfl ?_
        refine k_dastore C X at_166 rfl (ix := 0) (i := 1) rfl (by decide) (by decide) (Nat.le_of_ble_eq_true rfl) (vs' := [(.double (FP.i2d x1)), (.double (FP.i2d x2)), (.double 0)]) rfl (L' := [(o151, own_ar Z .double [(.double (FP.i2d x1)), (.double (FP.i2d x2)), (.double 0)]), (qi, own_ar Z .int [(.int (0)), (.int (1)), (.int (2))]), (o138, own_ob Z "com/example/residuum/residuum/FreeParameters" [("total", "I", (.int (3))), ("indices", "[I", (.ref qi))]), (o89, own_ar Z .int [])]) rfl (fun T X => ?_)
        refine k_aload C X at_167 rfl rfl rfl ?_
        refine k_iconst C X at_169 rfl (v := 2) rfl ?_
        refine k_iloadN C X at_170 rfl rfl ?_
        refine k_i2d C X at_171 rfl ?_
        refine k_dastore C X at_172 rfl (ix := 0) (i := 2) rfl (by decide) (by decide) (Nat.le_of_ble_eq_true rfl) (vs' := [(.double (FP.i2d x1)), (.double (FP.i2d x2)), (.double (FP.i2d x3))]) rfl (L' := [(o151, own_ar Z .double [(.double (FP.i2d x1)), (.double (FP.i2d x2)), (.double (FP.i2d x3))]), (qi, own_ar Z .int [(.int (0)), (.int (1)), (.int (2))]), (o138, own_ob Z "com/example/residuum/residuum/FreeParameters" [("total", "I", (.int (3))), ("indices", "[I", (.ref qi))]), (o89, own_ar Z .int [])]) rfl (fun T X => ?_)
        refine k_iconst C X at_173 rfl (v := 3) rfl ?_
        refine k_newarray C X at_174 rfl (ty := .double) rfl (hw _ (List.mem_of_getElem? (i := 14) rfl)) (by decide) (cap := 3) (by decide) (by decide) (by decide) (by decide) (vs := [(.double 0), (.double 0), (.double 0)]) rfl (fun T o174 X => ?_)
        refine k_astore C X at_176 rfl rfl (l' := #[.val (.int x0), .val (.int x1), .val (.int x2), .val (.int x3), .val (.int x4), .val (.int x5), .val (.int (x0 &&& (7))), .val (.int c2), .val (.int (0)), .val (.int (0)), .val (.int (0)), .val (.int (0)), .val (.ref o89), .val (.int (0)), .val (.ref o138), .val (.ref o151), .val (.ref o174), .unset, .unset, .unset, .unset, .unset, .unset, .unset, .unset, .unset, .unset, .unset, .unset]) rfl ?_
        refine k_aload C X at_178 rfl rfl rfl ?_
        refine k_iconst C X at_180 rfl (v := 0) rfl ?_
        refine k_iload C X at_181 rfl rfl ?_
        refine k_i2d C X at_183 rfl ?_
        refine k_dastore C X at_184 rfl (ix := 0) (i := 0) rfl (by decide) (by decide) (Nat.le_of_ble_eq_true rfl) (vs' := [(.double (FP.i2d x4)), (.double 0), (.double 0)]) rfl (L' := [(o174, own_ar Z .double [(.double (FP.i2d x4)), (.double 0), (.double 0)]), (o151, own_ar Z .double [(.double (FP.i2d x1)), (.double (FP.i2d x2)), (.double (FP.i2d x3))]), (qi, own_ar Z .int [(.int (0)), (.int (1)), (.int (2))]), (o138, own_ob Z "com/example/residuum/residuum/FreeParameters" [("total", "I", (.int (3))), ("indices", "[I", (.ref qi))]), (o89, own_ar Z .int [])]) rfl (fun T X => ?_)
        refine k_aload C X at_185 rfl rfl rfl ?_
        refine k_iconst C X at_187 rfl (v := 1) rfl ?_
        refine k_iload C X at_188 rfl rfl ?_
        refine k_i2d C X at_190 rfl ?_
        refine k_dastore C X at_191 rfl (ix := 0) (i := 1) rfl (by decide) (by decide) (Nat.le_of_ble_eq_true rfl) (vs' := [(.double (FP.i2d x4)), (.double (FP.i2d x5)), (.double 0)]) rfl (L' := [(o174, own_ar Z .double [(.double (FP.i2d x4)), (.double (FP.i2d x5)), (.double 0)]), (o151, own_ar Z .double [(.double (FP.i2d x1)), (.double (FP.i2d x2)), (.double (FP.i2d x3))]), (qi, own_ar Z .int [(.int (0)), (.int (1)), (.int (2))]), (o138, own_ob Z "com/example/residuum/residuum/FreeParameters" [("total", "I", (.int (3))), ("indices", "[I", (.ref qi))]), (o89, own_ar Z .int [])]) rfl (fun T X => ?_)
        refine k_aload C X at_192 rfl rfl rfl ?_
        refine k_iconst C X at_194 rfl (v := 2) rfl ?_
        refine k_iload C X at_195 rfl rfl ?_
        refine k_i2d C X at_197 rfl ?_
        refine k_dastore C X at_198 rfl (ix := 0) (i := 2) rfl (by decide) (by decide) (Nat.le_of_ble_eq_true rfl) (vs' := [(.double (FP.i2d x4)), (.double (FP.i2d x5)), (.double (FP.i2d c2))]) rfl (L' := [(o174, own_ar Z .double [(.double (FP.i2d x4)), (.double (FP.i2d x5)), (.double (FP.i2d c2))]), (o151, own_ar Z .double [(.double (FP.i2d x1)), (.double (FP.i2d x2)), (.double (FP.i2d x3))]), (qi, own_ar Z .int [(.int (0)), (.int (1)), (.int (2))]), (o138, own_ob Z "com/example/residuum/residuum/FreeParameters" [("total", "I", (.int (3))), ("indices", "[I", (.ref qi))]), (o89, own_ar Z .int [])]) rfl (fun T X => ?_)
        refine k_iconst C X at_199 rfl (v := 3) rfl ?_
        refine k_iload C X at_200 rfl rfl ?_
        refine k_isub C X at_202 rfl ?_
        refine k_istore C X at_203 rfl (l' := #[.val (.int x0), .val (.int x1), .val (.int x2), .val (.int x3), .val (.int x4), .val (.int x5), .val (.int (x0 &&& (7))), .val (.int c2), .val (.int (0)), .val (.int (0)), .val (.int (0)), .val (.int (0)), .val (.ref o89), .val (.int (0)), .val (.ref o138), .val (.ref o151), .val (.ref o174), .val (.int (3)), .unset, .unset, .unset, .unset, .unset, .unset, .unset, .unset, .unset, .unset, .unset]) rfl ?_
        refine k_iload C X at_205 rfl rfl ?_
        refine k_newarray C X at_207 rfl (ty := .double) rfl (hw _ (List.mem_of_getElem? (i := 14) rfl)) (by decide) (cap := 3) (by decide) (by decide) (by decide) (by decide) (vs := [(.double 0), (.double 0), (.double 0)]) rfl (fun T o207 X => ?_)
        refine k_astore C X at_209 rfl rfl (l' := #[.val (.int x0), .val (.int x1), .val (.int x2), .val (.int x3), .val (.int x4), .val (.int x5), .val (.int (x0 &&& (7))), .val (.int c2), .val (.int (0)), .val (.int (0)), .val (.int (0)), .val (.int (0)), .val (.ref o89), .val (.int (0)), .val (.ref o138), .val (.ref o151), .val (.ref o174), .val (.int (3)), .val (.ref o207), .unset, .unset, .unset, .unset, .unset, .unset, .unset, .unset, .unset, .unset]) rfl ?_
        refine k_iload C X at_211 rfl rfl ?_
        refine k_if_le C X at_213 rfl (tpc := 224) rfl (fun hc => (absurd hc (by decide) : False).elim) (fun _ => ?_)
        refine k_aload C X at_216 rfl rfl rfl ?_
        refine k_iconst C X at_218 rfl (v := 0) rfl ?_
        refine k_aload C X at_219 rfl rfl rfl ?_
        refine k_iconst C X at_221 rfl (v := 0) rfl ?_
        refine k_daload C X at_222 rfl (ix := 1) (i := 0) rfl (by decide) (by decide) rfl ?_
        refine k_dastore C X at_223 rfl (ix := 0) (i := 0) rfl (by decide) (by decide) (Nat.le_of_ble_eq_true rfl) (vs' := [(.double (FP.i2d x4)), (.double 0), (.double 0)]) rfl (L' := [(o207, own_ar Z .double [(.double (FP.i2d x4)), (.double 0), (.double 0)]), (o174, own_ar Z .double [(.double (FP.i2d x4)), (.double (FP.i2d x5)), (.double (FP.i2d c2))]), (o151, own_ar Z .double [(.double (FP.i2d x1)), (.double (FP.i2d x2)), (.double (FP.i2d x3))]), (qi, own_ar Z .int [(.int (0)), (.int (1)), (.int (2))]), (o138, own_ob Z "com/example/residuum/residuum/FreeParameters" [("total", "I", (.int (3))), ("indices", "[I", (.ref qi))]), (o89, own_ar Z .int [])]) rfl (fun T X => ?_)
        refine k_iload C X at_224 rfl rfl ?_
        refine k_iconst C X at_226 rfl (v := 1) rfl ?_
        refine k_icmp_le C X at_227 rfl (tpc := 238) rfl (fun hc => (absurd hc (by decide) : False).elim) (fun _ => ?_)
        refine k_aload C X at_230 rfl rfl rfl ?_
        refine k_iconst C X at_232 rfl (v := 1) rfl ?_
        refine k_aload C X at_233 rfl rfl rfl ?_
        refine k_iconst C X at_235 rfl (v := 1) rfl ?_
        refine k_daload C X at_236 rfl (ix := 1) (i := 1) rfl (by decide) (by decide) rfl ?_
        refine k_dastore C X at_237 rfl (ix := 0) (i := 1) rfl (by decide) (by decide) (Nat.le_of_ble_eq_true rfl) (vs' := [(.double (FP.i2d x4)), (.double (FP.i2d x5)), (.double 0)]) rfl (L' := [(o207, own_ar Z .double [(.double (FP.i2d x4)), (.double (FP.i2d x5)), (.double 0)]), (o174, own_ar Z .double [(.double (FP.i2d x4)), (.double (FP.i2d x5)), (.double (FP.i2d c2))]), (o151, own_ar Z .double [(.double (FP.i2d x1)), (.double (FP.i2d x2)), (.double (FP.i2d x3))]), (qi, own_ar Z .int [(.int (0)), (.int (1)), (.int (2))]), (o138, own_ob Z "com/example/residuum/residuum/FreeParameters" [("total", "I", (.int (3))), ("indices", "[I", (.ref qi))]), (o89, own_ar Z .int [])]) rfl (fun T X => ?_)
        refine k_iload C X at_238 rfl rfl ?_
        refine k_iconst C X at_240 rfl (v := 2) rfl ?_
        refine k_icmp_le C X at_241 rfl (tpc := 252) rfl (fun hc => (absurd hc (by decide) : False).elim) (fun _ => ?_)
        refine k_aload C X at_244 rfl rfl rfl ?_
        refine k_iconst C X at_246 rfl (v := 2) rfl ?_
        refine k_aload C X at_247 rfl rfl rfl ?_
        refine k_iconst C X at_249 rfl (v := 2) rfl ?_
        refine k_daload C X at_250 rfl (ix := 1) (i := 2) rfl (by decide) (by decide) rfl ?_
        refine k_dastore C X at_251 rfl (ix := 0) (i := 2) rfl (by decide) (by decide) (Nat.le_of_ble_eq_true rfl) (vs' := [(.double (FP.i2d x4)), (.double (FP.i2d x5)), (.double (FP.i2d c2))]) rfl (L' := [(o207, own_ar Z .double [(.double (FP.i2d x4)), (.double (FP.i2d x5)), (.double (FP.i2d c2))]), (o174, own_ar Z .double [(.double (FP.i2d x4)), (.double (FP.i2d x5)), (.double (FP.i2d c2))]), (o151, own_ar Z .double [(.double (FP.i2d x1)), (.double (FP.i2d x2)), (.double (FP.i2d x3))]), (qi, own_ar Z .int [(.int (0)), (.int (1)), (.int (2))]), (o138, own_ob Z "com/example/residuum/residuum/FreeParameters" [("total", "I", (.int (3))), ("indices", "[I", (.ref qi))]), (o89, own_ar Z .int [])]) rfl (fun T X => ?_)
        refine k_aload C X at_252 rfl rfl rfl ?_
        refine k_aload C X at_254 rfl rfl rfl ?_
        refine k_aload C X at_256 rfl rfl rfl ?_
        refine k_virtual C X at_258 rfl (hw _ (List.mem_of_getElem? (i := 15) rfl)) (hw _ (List.mem_of_getElem? (i := 16) rfl)) (hw _ (List.mem_of_getElem? (i := 3) rfl)) (hw _ (List.mem_of_getElem? (i := 19) rfl)) (hw _ (List.mem_of_getElem? (i := 18) rfl)) (hw _ (List.mem_of_getElem? (i := 17) rfl)) (by decide) (own_nf C.2.2.2.1 (hw _ (List.mem_of_getElem? (i := 18) rfl))) (own_eL (ix := 4) rfl) (own_moved_n l Z a0 hw o138 o151 o207 o174 qi [(.double (FP.i2d x4)), (.double (FP.i2d x5)), (.double (FP.i2d c2))] (FP.i2d x1) (FP.i2d x2) (FP.i2d x3) (FP.i2d x4) (FP.i2d x5) (FP.i2d c2) (own_dd _ _) (own_dd _ _) (own_dd _ _) ([(o89, own_ar Z .int [])])) (W := 0) (argsL := [(.ref o151), (.ref o207)]) (rest := []) rfl rfl rfl own_pd1 rfl (Nat.le_of_eq rfl) (by decide) (by decide) (by decide) (by decide) (fun v T M hQ X => ?_)
        obtain ⟨rr, rfl, rfl⟩ := hQ
        refine k_astore C X at_261 rfl rfl (l' := #[.val (.int x0), .val (.int x1), .val (.int x2), .val (.int x3), .val (.int x4), .val (.int x5), .val (.int (x0 &&& (7))), .val (.int c2), .val (.int (0)), .val (.int (0)), .val (.int (0)), .val (.int (0)), .val (.ref o89), .val (.int (0)), .val (.ref o138), .val (.ref o151), .val (.ref o174), .val (.int (3)), .val (.ref o207), .val (.ref rr), .unset, .unset, .unset, .unset, .unset, .unset, .unset, .unset, .unset]) rfl ?_
        refine k_aload C X at_263 rfl rfl rfl ?_
        refine k_aload C X at_265 rfl rfl rfl ?_
        have hne := X.heap.ne (i := 0) (j := 3) rfl rfl (by decide)
        refine k_acmp_eq C X at_267 rfl (tpc := 277) rfl rfl rfl (fun hc => (hne (Value.ref.inj hc) : False).elim) (fun _ => ?_)
        refine k_aload C X at_270 rfl rfl rfl ?_
        refine k_arraylength C X at_272 rfl (ix := 0) rfl (z := (3)) rfl ?_
        refine k_iconst C X at_273 rfl (v := 3) rfl ?_
        refine k_icmp_eq C X at_274 rfl (tpc := 279) rfl (fun _ => ?_) (fun hc => (absurd hc (by decide) : False).elim)
        refine k_aload C X at_279 rfl rfl rfl ?_
        refine k_iconst C X at_281 rfl (v := 0) rfl ?_
        refine k_daload C X at_282 rfl (ix := 3) (i := 0) rfl (by decide) (by decide) rfl ?_
        refine k_iloadN C X at_283 rfl rfl ?_
        refine k_i2d C X at_284 rfl ?_
        refine k_dcmpl C X at_285 rfl ?_
        refine k_ifdl_ne C X at_286 rfl (tpc := 309) rfl (fun hc => (hc (own_eq (Jvm.FP.Core.i2d_int _) (Jvm.FP.Core.i2d_int _) rfl) : False).elim) (fun _ => ?_)
        refine k_aload C X at_289 rfl rfl rfl ?_
        refine k_iconst C X at_291 rfl (v := 1) rfl ?_
        refine k_daload C X at_292 rfl (ix := 3) (i := 1) rfl (by decide) (by decide) rfl ?_
        refine k_iloadN C X at_293 rfl rfl ?_
        refine k_i2d C X at_294 rfl ?_
        refine k_dcmpl C X at_295 rfl ?_
        refine k_ifdl_ne C X at_296 rfl (tpc := 309) rfl (fun hc => (hc (own_eq (Jvm.FP.Core.i2d_int _) (Jvm.FP.Core.i2d_int _) rfl) : False).elim) (fun _ => ?_)
        refine k_aload C X at_299 rfl rfl rfl ?_
        refine k_iconst C X at_301 rfl (v := 2) rfl ?_
        refine k_daload C X at_302 rfl (ix := 3) (i := 2) rfl (by decide) (by decide) rfl ?_
        refine k_iloadN C X at_303 rfl rfl ?_
        refine k_i2d C X at_304 rfl ?_
        refine k_dcmpl C X at_305 rfl ?_
        refine k_ifdl_eq C X at_306 rfl (tpc := 311) rfl (fun _ => ?_) (fun hc => (hc (own_eq (Jvm.FP.Core.i2d_int _) (Jvm.FP.Core.i2d_int _) rfl) : False).elim)
        refine k_iconst C X at_311 rfl (v := 0) rfl ?_
        refine k_istore C X at_312 rfl (l' := #[.val (.int x0), .val (.int x1), .val (.int x2), .val (.int x3), .val (.int x4), .val (.int x5), .val (.int (x0 &&& (7))), .val (.int c2), .val (.int (0)), .val (.int (0)), .val (.int (0)), .val (.int (0)), .val (.ref o89), .val (.int (0)), .val (.ref o138), .val (.ref o151), .val (.ref o174), .val (.int (3)), .val (.ref o207), .val (.ref rr), .val (.int (0)), .unset, .unset, .unset, .unset, .unset, .unset, .unset, .unset]) rfl ?_
        refine k_iload C X at_314 rfl rfl ?_
        refine k_if_eq C X at_316 rfl (tpc := 323) rfl (fun _ => ?_) (fun hc => (absurd hc (by decide) : False).elim)
        refine k_iconst C X at_323 rfl (v := 1) rfl ?_
        refine k_istore C X at_324 rfl (l' := #[.val (.int x0), .val (.int x1), .val (.int x2), .val (.int x3), .val (.int x4), .val (.int x5), .val (.int (x0 &&& (7))), .val (.int c2), .val (.int (0)), .val (.int (0)), .val (.int (0)), .val (.int (0)), .val (.ref o89), .val (.int (0)), .val (.ref o138), .val (.ref o151), .val (.ref o174), .val (.int (3)), .val (.ref o207), .val (.ref rr), .val (.int (0)), .val (.int (1)), .unset, .unset, .unset, .unset, .unset, .unset, .unset]) rfl ?_
        refine k_iload C X at_326 rfl rfl ?_
        refine k_if_eq C X at_328 rfl (tpc := 335) rfl (fun _ => ?_) (fun hc => (absurd hc (by decide) : False).elim)
        refine k_iconst C X at_335 rfl (v := 1) rfl ?_
        refine k_iload C X at_336 rfl rfl ?_
        refine k_if_eq C X at_338 rfl (tpc := 345) rfl (fun _ => ?_) (fun hc => (absurd hc (by decide) : False).elim)
        refine k_iconst C X at_345 rfl (v := 1) rfl ?_
        refine k_iadd C X at_346 rfl ?_
        refine k_istore C X at_347 rfl (l' := #[.val (.int x0), .val (.int x1), .val (.int x2), .val (.int x3), .val (.int x4), .val (.int x5), .val (.int (x0 &&& (7))), .val (.int c2), .val (.int (0)), .val (.int (0)), .val (.int (0)), .val (.int (0)), .val (.ref o89), .val (.int (0)), .val (.ref o138), .val (.ref o151), .val (.ref o174), .val (.int (3)), .val (.ref o207), .val (.ref rr), .val (.int (0)), .val (.int (1)), .val (.int (2)), .unset, .unset, .unset, .unset, .unset, .unset]) rfl ?_
        refine k_iload C X at_349 rfl rfl ?_
        refine k_if_eq C X at_351 rfl (tpc := 359) rfl (fun _ => ?_) (fun hc => (absurd hc (by decide) : False).elim)
        refine k_iloadN C X at_359 rfl rfl ?_
        refine k_i2d C X at_360 rfl ?_
        refine k_aload C X at_361 rfl rfl rfl ?_
        refine k_iload C X at_363 rfl rfl ?_
        refine k_daload C X at_365 rfl (ix := 2) (i := 0) rfl (by decide) (by decide) rfl ?_
        refine k_daddE C X at_366 rfl (own_dd _ _) ?_
        refine k_dstore C X at_367 rfl (l' := #[.val (.int x0), .val (.int x1), .val (.int x2), .val (.int x3), .val (.int x4), .val (.int x5), .val (.int (x0 &&& (7))), .val (.int c2), .val (.int (0)), .val (.int (0)), .val (.int (0)), .val (.int (0)), .val (.ref o89), .val (.int (0)), .val (.ref o138), .val (.ref o151), .val (.ref o174), .val (.int (3)), .val (.ref o207), .val (.ref rr), .val (.int (0)), .val (.int (1)), .val (.int (2)), .val (.double (FP.dadd (FP.i2d x1) (FP.i2d x4))), .second, .unset, .unset, .unset, .unset]) rfl ?_
        refine k_iload C X at_369 rfl rfl ?_
        refine k_if_eq C X at_371 rfl (tpc := 379) rfl (fun _ => ?_) (fun hc => (absurd hc (by decide) : False).elim)
        refine k_iloadN C X at_379 rfl rfl ?_
        refine k_i2d C X at_380 rfl ?_
        refine k_aload C X at_381 rfl rfl rfl ?_
        refine k_iload C X at_383 rfl rfl ?_
        refine k_daload C X at_385 rfl (ix := 2) (i := 1) rfl (by decide) (by decide) rfl ?_
        refine k_daddE C X at_386 rfl (own_dd _ _) ?_
        refine k_dstore C X at_387 rfl (l' := #[.val (.int x0), .val (.int x1), .val (.int x2), .val (.int x3), .val (.int x4), .val (.int x5), .val (.int (x0 &&& (7))), .val (.int c2), .val (.int (0)), .val (.int (0)), .val (.int (0)), .val (.int (0)), .val (.ref o89), .val (.int (0)), .val (.ref o138), .val (.ref o151), .val (.ref o174), .val (.int (3)), .val (.ref o207), .val (.ref rr), .val (.int (0)), .val (.int (1)), .val (.int (2)), .val (.double (FP.dadd (FP.i2d x1) (FP.i2d x4))), .second, .val (.double (FP.dadd (FP.i2d x2) (FP.i2d x5))), .second, .unset, .unset]) rfl ?_
        refine k_iload C X at_389 rfl rfl ?_
        refine k_if_eq C X at_391 rfl (tpc := 399) rfl (fun _ => ?_) (fun hc => (absurd hc (by decide) : False).elim)
        refine k_iloadN C X at_399 rfl rfl ?_
        refine k_i2d C X at_400 rfl ?_
        refine k_aload C X at_401 rfl rfl rfl ?_
        refine k_iload C X at_403 rfl rfl ?_
        refine k_daload C X at_405 rfl (ix := 2) (i := 2) rfl (by decide) (by decide) rfl ?_
        refine k_daddE C X at_406 rfl (own_dd _ _) ?_
        refine k_dstore C X at_407 rfl (l' := #[.val (.int x0), .val (.int x1), .val (.int x2), .val (.int x3), .val (.int x4), .val (.int x5), .val (.int (x0 &&& (7))), .val (.int c2), .val (.int (0)), .val (.int (0)), .val (.int (0)), .val (.int (0)), .val (.ref o89), .val (.int (0)), .val (.ref o138), .val (.ref o151), .val (.ref o174), .val (.int (3)), .val (.ref o207), .val (.ref rr), .val (.int (0)), .val (.int (1)), .val (.int (2)), .val (.double (FP.dadd (FP.i2d x1) (FP.i2d x4))), .second, .val (.double (FP.dadd (FP.i2d x2) (FP.i2d x5))), .second, .val (.double (FP.dadd (FP.i2d x3) (FP.i2d c2))), .second]) rfl ?_
        refine k_aload C X at_409 rfl rfl rfl ?_
        refine k_iconst C X at_411 rfl (v := 0) rfl ?_
        refine k_daload C X at_412 rfl (ix := 0) (i := 0) rfl (by decide) (by decide) rfl ?_
        refine k_dload C X at_413 rfl rfl ?_
        refine k_dcmpl C X at_415 rfl ?_
        refine k_ifdl_ne C X at_416 rfl (tpc := 443) rfl (fun hc => (hc (own_self (own_dd _ _)) : False).elim) (fun _ => ?_)
        refine k_aload C X at_419 rfl rfl rfl ?_
        refine k_iconst C X at_421 rfl (v := 1) rfl ?_
        refine k_daload C X at_422 rfl (ix := 0) (i := 1) rfl (by decide) (by decide) rfl ?_
        refine k_dload C X at_423 rfl rfl ?_
        refine k_dcmpl C X at_425 rfl ?_
        refine k_ifdl_ne C X at_426 rfl (tpc := 443) rfl (fun hc => (hc (own_self (own_dd _ _)) : False).elim) (fun _ => ?_)
        refine k_aload C X at_429 rfl rfl rfl ?_
        refine k_iconst C X at_431 rfl (v := 2) rfl ?_
        refine k_daload C X at_432 rfl (ix := 0) (i := 2) rfl (by decide) (by decide) rfl ?_
        refine k_dload C X at_433 rfl rfl ?_
        refine k_dcmpl C X at_435 rfl ?_
        refine k_ifdl_ne C X at_436 rfl (tpc := 443) rfl (fun hc => (hc (own_self (own_dd _ _)) : False).elim) (fun _ => ?_)
        refine k_iconst C X at_439 rfl (v := 1) rfl ?_
        refine k_goto C X at_440 (tpc := 444) rfl ?_
        exact k_ireturn C X at_444 (by simp) rfl rfl (by decide) (by decide)
      · skip
        refine k_iconst C X at_46 rfl (v := 1) rfl ?_
        refine k_goto C X at_47 (tpc := 51) rfl ?_
        refine k_istore C X at_51 rfl (l' := #[.val (.int x0), .val (.int x1), .val (.int x2), .val (.int x3), .val (.int x4), .val (.int x5), .val (.int (x0 &&& (7))), .val (.int c2), .val (.int (0)), .val (.int (0)), .val (.int (1)), .unset, .unset, .unset, .unset, .unset, .unset, .unset, .unset, .unset, .unset, .unset, .unset, .unset, .unset, .unset, .unset, .unset, .unset]) rfl ?_
        refine k_iload C X at_53 rfl rfl ?_
        refine k_if_eq C X at_55 rfl (tpc := 62) rfl (fun _ => ?_) (fun hc => (absurd hc (by decide) : False).elim)
        refine k_iconst C X at_62 rfl (v := 0) rfl ?_
        refine k_iload C X at_63 rfl rfl ?_
        refine k_if_eq C X at_65 rfl (tpc := 72) rfl (fun _ => ?_) (fun hc => (absurd hc (by decide) : False).elim)
        refine k_iconst C X at_72 rfl (v := 0) rfl ?_
        refine k_iadd C X at_73 rfl ?_
        refine k_iload C X at_74 rfl rfl ?_
        refine k_if_eq C X at_76 rfl (tpc := 83) rfl (fun hc => (absurd hc (by decide) : False).elim) (fun _ => ?_)
        refine k_iconst C X at_79 rfl (v := 1) rfl ?_
        refine k_goto C X at_80 (tpc := 84) rfl ?_
        refine k_iadd C X at_84 rfl ?_
        refine k_istore C X at_85 rfl (l' := #[.val (.int x0), .val (.int x1), .val (.int x2), .val (.int x3), .val (.int x4), .val (.int x5), .val (.int (x0 &&& (7))), .val (.int c2), .val (.int (0)), .val (.int (0)), .val (.int (1)), .val (.int (1)), .unset, .unset, .unset, .unset, .unset, .unset, .unset, .unset, .unset, .unset, .unset, .unset, .unset, .unset, .unset, .unset, .unset]) rfl ?_
        refine k_iload C X at_87 rfl rfl ?_
        refine k_newarray C X at_89 rfl (ty := .int) rfl (hw _ (List.mem_of_getElem? (i := 0) rfl)) (by decide) (cap := 1) (by decide) (by decide) (by decide) (by decide) (vs := [(.int 0)]) rfl (fun T o89 X => ?_)
        refine k_astore C X at_91 rfl rfl (l' := #[.val (.int x0), .val (.int x1), .val (.int x2), .val (.int x3), .val (.int x4), .val (.int x5), .val (.int (x0 &&& (7))), .val (.int c2), .val (.int (0)), .val (.int (0)), .val (.int (1)), .val (.int (1)), .val (.ref o89), .unset, .unset, .unset, .unset, .unset, .unset, .unset, .unset, .unset, .unset, .unset, .unset, .unset, .unset, .unset, .unset]) rfl ?_
        refine k_iconst C X at_93 rfl (v := 0) rfl ?_
        refine k_istore C X at_94 rfl (l' := #[.val (.int x0), .val (.int x1), .val (.int x2), .val (.int x3), .val (.int x4), .val (.int x5), .val (.int (x0 &&& (7))), .val (.int c2), .val (.int (0)), .val (.int (0)), .val (.int (1)), .val (.int (1)), .val (.ref o89), .val (.int (0)), .unset, .unset, .unset, .unset, .unset, .unset, .unset, .unset, .unset, .unset, .unset, .unset, .unset, .unset, .unset]) rfl ?_
        refine k_iload C X at_96 rfl rfl ?_
        refine k_if_eq C X at_98 rfl (tpc := 110) rfl (fun _ => ?_) (fun hc => (absurd hc (by decide) : False).elim)
        refine k_iload C X at_110 rfl rfl ?_
        refine k_if_eq C X at_112 rfl (tpc := 124) rfl (fun _ => ?_) (fun hc => (absurd hc (by decide) : False).elim)
        refine k_iload C X at_124 rfl rfl ?_
        refine k_if_eq C X at_126 rfl (tpc := 138) rfl (fun hc => (absurd hc (by decide) : False).elim) (fun _ => ?_)
        refine k_aload C X at_129 rfl rfl rfl ?_
        refine k_iload C X at_131 rfl rfl ?_
        refine k_iconst C X at_133 rfl (v := 2) rfl ?_
        refine k_iastore C X at_134 rfl (ix := 0) (i := 0) rfl (by decide) (by decide) (Nat.le_of_ble_eq_true rfl) (vs' := [(.int (2))]) rfl (L' := [(o89, own_ar Z .int [(.int (2))])]) rfl (fun T X => ?_)
        refine k_iinc C X at_135 rfl (v := 1) rfl rfl (l' := #[.val (.int x0), .val (.int x1), .val (.int x2), .val (.int x3), .val (.int x4), .val (.int x5), .val (.int (x0 &&& (7))), .val (.int c2), .val (.int (0)), .val (.int (0)), .val (.int (1)), .val (.int (1)), .val (.ref o89), .val (.int (1)), .unset, .unset, .unset, .unset, .unset, .unset, .unset, .unset, .unset, .unset, .unset, .unset, .unset, .unset, .unset]) rfl ?_
        refine k_new C X at_138 rfl (hw _ (List.mem_of_getElem? (i := 1) rfl)) (hw _ (List.mem_of_getElem? (i := 2) rfl)) (hw _ (List.mem_of_getElem? (i := 3) rfl)) (own_lay_FreeParameters hw) (fs := [("total", "I", (.int (0))), ("indices", "[I", .null)]) rfl (by decide) (by decide) (fun T o138 X => ?_)
        refine k_dup C X at_141 rfl rfl ?_
        refine k_iconst C X at_142 rfl (v := 3) rfl ?_
        refine k_aload C X at_143 rfl rfl rfl ?_
        refine k_init C X at_145 rfl rfl (hw _ (List.mem_of_getElem? (i := 4) rfl)) (hw _ (List.mem_of_getElem? (i := 5) rfl)) (hw _ (List.mem_of_getElem? (i := 3) rfl)) (hw _ (List.mem_of_getElem? (i := 6) rfl)) (by decide) (own_init_2 l Z a0 hw o138 o89 ([])) (W := 1) (argsL := [(.int (3)), (.ref o89)]) (rest := [(.ref o138)]) rfl rfl rfl own_pd0 rfl (Nat.le_of_eq rfl) (by decide) (by decide) (by decide) (by decide) (fun v T M hQ X => ?_)
        obtain ⟨rfl, qi, rfl⟩ := hQ
        refine k_astore C X at_148 rfl rfl (l' := #[.val (.int x0), .val (.int x1), .val (.int x2), .val (.int x3), .val (.int x4), .val (.int x5), .val (.int (x0 &&& (7))), .val (.int c2), .val (.int (0)), .val (.int (0)), .val (.int (1)), .val (.int (1)), .val (.ref o89), .val (.int (1)), .val (.ref o138), .unset, .unset, .unset, .unset, .unset, .unset, .unset, .unset, .unset, .unset, .unset, .unset, .unset, .unset]) rfl ?_
        refine k_iconst C X at_150 rfl (v := 3) rfl ?_
        refine k_newarray C X at_151 rfl (ty := .double) rfl (hw _ (List.mem_of_getElem? (i := 14) rfl)) (by decide) (cap := 3) (by decide) (by decide) (by decide) (by decide) (vs := [(.double 0), (.double 0), (.double 0)]) rfl (fun T o151 X => ?_)
        refine k_astore C X at_153 rfl rfl (l' := #[.val (.int x0), .val (.int x1), .val (.int x2), .val (.int x3), .val (.int x4), .val (.int x5), .val (.int (x0 &&& (7))), .val (.int c2), .val (.int (0)), .val (.int (0)), .val (.int (1)), .val (.int (1)), .val (.ref o89), .val (.int (1)), .val (.ref o138), .val (.ref o151), .unset, .unset, .unset, .unset, .unset, .unset, .unset, .unset, .unset, .unset, .unset, .unset, .unset]) rfl ?_
        refine k_aload C X at_155 rfl rfl rfl ?_
        refine k_iconst C X at_157 rfl (v := 0) rfl ?_
        refine k_iloadN C X at_158 rfl rfl ?_
        refine k_i2d C X at_159 rfl ?_
        refine k_dastore C X at_160 rfl (ix := 0) (i := 0) rfl (by decide) (by decide) (Nat.le_of_ble_eq_true rfl) (vs' := [(.double (FP.i2d x1)), (.double 0), (.double 0)]) rfl (L' := [(o151, own_ar Z .double [(.double (FP.i2d x1)), (.double 0), (.double 0)]), (qi, own_ar Z .int [(.int (0)), (.int (1))]), (o138, own_ob Z "com/example/residuum/residuum/FreeParameters" [("total", "I", (.int (3))), ("indices", "[I", (.ref qi))]), (o89, own_ar Z .int [(.int (2))])]) rfl (fun T X => ?_)
        refine k_aload C X at_161 rfl rfl rfl ?_
        refine k_iconst C X at_163 rfl (v := 1) rfl ?_
        refine k_iloadN C X at_164 rfl rfl ?_
        refine k_i2d C X at_165 rfl ?_
        refine k_dastore C X at_166 rfl (ix := 0) (i := 1) rfl (by decide) (by decide) (Nat.le_of_ble_eq_true rfl) (vs' := [(.double (FP.i2d x1)), (.double (FP.i2d x2)), (.double 0)]) rfl (L' := [(o151, own_ar Z .double [(.double (FP.i2d x1)), (.double (FP.i2d x2)), (.double 0)]), (qi, own_ar Z .int [(.int (0)), (.int (1))]), (o138, own_ob Z "com/example/residuum/residuum/FreeParameters" [("total", "I", (.int (3))), ("indices", "[I", (.ref qi))]), (o89, own_ar Z .int [(.int (2))])]) rfl (fun T X => ?_)
        refine k_aload C X at_167 rfl rfl rfl ?_
        refine k_iconst C X at_169 rfl (v := 2) rfl ?_
        refine k_iloadN C X at_170 rfl rfl ?_
        refine k_i2d C X at_171 rfl ?_
        refine k_dastore C X at_172 rfl (ix := 0) (i := 2) rfl (by decide) (by decide) (Nat.le_of_ble_eq_true rfl) (vs' := [(.double (FP.i2d x1)), (.double (FP.i2d x2)), (.double (FP.i2d x3))]) rfl (L' := [(o151, own_ar Z .double [(.double (FP.i2d x1)), (.double (FP.i2d x2)), (.double (FP.i2d x3))]), (qi, own_ar Z .int [(.int (0)), (.int (1))]), (o138, own_ob Z "com/example/residuum/residuum/FreeParameters" [("total", "I", (.int (3))), ("indices", "[I", (.ref qi))]), (o89, own_ar Z .int [(.int (2))])]) rfl (fun T X => ?_)
        refine k_iconst C X at_173 rfl (v := 3) rfl ?_
        refine k_newarray C X at_174 rfl (ty := .double) rfl (hw _ (List.mem_of_getElem? (i := 14) rfl)) (by decide) (cap := 3) (by decide) (by decide) (by decide) (by decide) (vs := [(.double 0), (.double 0), (.double 0)]) rfl (fun T o174 X => ?_)
        refine k_astore C X at_176 rfl rfl (l' := #[.val (.int x0), .val (.int x1), .val (.int x2), .val (.int x3), .val (.int x4), .val (.int x5), .val (.int (x0 &&& (7))), .val (.int c2), .val (.int (0)), .val (.int (0)), .val (.int (1)), .val (.int (1)), .val (.ref o89), .val (.int (1)), .val (.ref o138), .val (.ref o151), .val (.ref o174), .unset, .unset, .unset, .unset, .unset, .unset, .unset, .unset, .unset, .unset, .unset, .unset]) rfl ?_
        refine k_aload C X at_178 rfl rfl rfl ?_
        refine k_iconst C X at_180 rfl (v := 0) rfl ?_
        refine k_iload C X at_181 rfl rfl ?_
        refine k_i2d C X at_183 rfl ?_
        refine k_dastore C X at_184 rfl (ix := 0) (i := 0) rfl (by decide) (by decide) (Nat.le_of_ble_eq_true rfl) (vs' := [(.double (FP.i2d x4)), (.double 0), (.double 0)]) rfl (L' := [(o174, own_ar Z .double [(.double (FP.i2d x4)), (.double 0), (.double 0)]), (o151, own_ar Z .double [(.double (FP.i2d x1)), (.double (FP.i2d x2)), (.double (FP.i2d x3))]), (qi, own_ar Z .int [(.int (0)), (.int (1))]), (o138, own_ob Z "com/example/residuum/residuum/FreeParameters" [("total", "I", (.int (3))), ("indices", "[I", (.ref qi))]), (o89, own_ar Z .int [(.int (2))])]) rfl (fun T X => ?_)
        refine k_aload C X at_185 rfl rfl rfl ?_
        refine k_iconst C X at_187 rfl (v := 1) rfl ?_
        refine k_iload C X at_188 rfl rfl ?_
        refine k_i2d C X at_190 rfl ?_
        refine k_dastore C X at_191 rfl (ix := 0) (i := 1) rfl (by decide) (by decide) (Nat.le_of_ble_eq_true rfl) (vs' := [(.double (FP.i2d x4)), (.double (FP.i2d x5)), (.double 0)]) rfl (L' := [(o174, own_ar Z .double [(.double (FP.i2d x4)), (.double (FP.i2d x5)), (.double 0)]), (o151, own_ar Z .double [(.double (FP.i2d x1)), (.double (FP.i2d x2)), (.double (FP.i2d x3))]), (qi, own_ar Z .int [(.int (0)), (.int (1))]), (o138, own_ob Z "com/example/residuum/residuum/FreeParameters" [("total", "I", (.int (3))), ("indices", "[I", (.ref qi))]), (o89, own_ar Z .int [(.int (2))])]) rfl (fun T X => ?_)
        refine k_aload C X at_192 rfl rfl rfl ?_
        refine k_iconst C X at_194 rfl (v := 2) rfl ?_
        refine k_iload C X at_195 rfl rfl ?_
        refine k_i2d C X at_197 rfl ?_
        refine k_dastore C X at_198 rfl (ix := 0) (i := 2) rfl (by decide) (by decide) (Nat.le_of_ble_eq_true rfl) (vs' := [(.double (FP.i2d x4)), (.double (FP.i2d x5)), (.double (FP.i2d c2))]) rfl (L' := [(o174, own_ar Z .double [(.double (FP.i2d x4)), (.double (FP.i2d x5)), (.double (FP.i2d c2))]), (o151, own_ar Z .double [(.double (FP.i2d x1)), (.double (FP.i2d x2)), (.double (FP.i2d x3))]), (qi, own_ar Z .int [(.int (0)), (.int (1))]), (o138, own_ob Z "com/example/residuum/residuum/FreeParameters" [("total", "I", (.int (3))), ("indices", "[I", (.ref qi))]), (o89, own_ar Z .int [(.int (2))])]) rfl (fun T X => ?_)
        refine k_iconst C X at_199 rfl (v := 3) rfl ?_
        refine k_iload C X at_200 rfl rfl ?_
        refine k_isub C X at_202 rfl ?_
        refine k_istore C X at_203 rfl (l' := #[.val (.int x0), .val (.int x1), .val (.int x2), .val (.int x3), .val (.int x4), .val (.int x5), .val (.int (x0 &&& (7))), .val (.int c2), .val (.int (0)), .val (.int (0)), .val (.int (1)), .val (.int (1)), .val (.ref o89), .val (.int (1)), .val (.ref o138), .val (.ref o151), .val (.ref o174), .val (.int (2)), .unset, .unset, .unset, .unset, .unset, .unset, .unset, .unset, .unset, .unset, .unset]) rfl ?_
        refine k_iload C X at_205 rfl rfl ?_
        refine k_newarray C X at_207 rfl (ty := .double) rfl (hw _ (List.mem_of_getElem? (i := 14) rfl)) (by decide) (cap := 2) (by decide) (by decide) (by decide) (by decide) (vs := [(.double 0), (.double 0)]) rfl (fun T o207 X => ?_)
        refine k_astore C X at_209 rfl rfl (l' := #[.val (.int x0), .val (.int x1), .val (.int x2), .val (.int x3), .val (.int x4), .val (.int x5), .val (.int (x0 &&& (7))), .val (.int c2), .val (.int (0)), .val (.int (0)), .val (.int (1)), .val (.int (1)), .val (.ref o89), .val (.int (1)), .val (.ref o138), .val (.ref o151), .val (.ref o174), .val (.int (2)), .val (.ref o207), .unset, .unset, .unset, .unset, .unset, .unset, .unset, .unset, .unset, .unset]) rfl ?_
        refine k_iload C X at_211 rfl rfl ?_
        refine k_if_le C X at_213 rfl (tpc := 224) rfl (fun hc => (absurd hc (by decide) : False).elim) (fun _ => ?_)
        refine k_aload C X at_216 rfl rfl rfl ?_
        refine k_iconst C X at_218 rfl (v := 0) rfl ?_
        refine k_aload C X at_219 rfl rfl rfl ?_
        refine k_iconst C X at_221 rfl (v := 0) rfl ?_
        refine k_daload C X at_222 rfl (ix := 1) (i := 0) rfl (by decide) (by decide) rfl ?_
        refine k_dastore C X at_223 rfl (ix := 0) (i := 0) rfl (by decide) (by decide) (Nat.le_of_ble_eq_true rfl) (vs' := [(.double (FP.i2d x4)), (.double 0)]) rfl (L' := [(o207, own_ar Z .double [(.double (FP.i2d x4)), (.double 0)]), (o174, own_ar Z .double [(.double (FP.i2d x4)), (.double (FP.i2d x5)), (.double (FP.i2d c2))]), (o151, own_ar Z .double [(.double (FP.i2d x1)), (.double (FP.i2d x2)), (.double (FP.i2d x3))]), (qi, own_ar Z .int [(.int (0)), (.int (1))]), (o138, own_ob Z "com/example/residuum/residuum/FreeParameters" [("total", "I", (.int (3))), ("indices", "[I", (.ref qi))]), (o89, own_ar Z .int [(.int (2))])]) rfl (fun T X => ?_)
        refine k_iload C X at_224 rfl rfl ?_
        refine k_iconst C X at_226 rfl (v := 1) rfl ?_
        refine k_icmp_le C X at_227 rfl (tpc := 238) rfl (fun hc => (absurd hc (by decide) : False).elim) (fun _ => ?_)
        refine k_aload C X at_230 rfl rfl rfl ?_
        refine k_iconst C X at_232 rfl (v := 1) rfl ?_
        refine k_aload C X at_233 rfl rfl rfl ?_
        refine k_iconst C X at_235 rfl (v := 1) rfl ?_
        refine k_daload C X at_236 rfl (ix := 1) (i := 1) rfl (by decide) (by decide) rfl ?_
        refine k_dastore C X at_237 rfl (ix := 0) (i := 1) rfl (by decide) (by decide) (Nat.le_of_ble_eq_true rfl) (vs' := [(.double (FP.i2d x4)), (.double (FP.i2d x5))]) rfl (L' := [(o207, own_ar Z .double [(.double (FP.i2d x4)), (.double (FP.i2d x5))]), (o174, own_ar Z .double [(.double (FP.i2d x4)), (.double (FP.i2d x5)), (.double (FP.i2d c2))]), (o151, own_ar Z .double [(.double (FP.i2d x1)), (.double (FP.i2d x2)), (.double (FP.i2d x3))]), (qi, own_ar Z .int [(.int (0)), (.int (1))]), (o138, own_ob Z "com/example/residuum/residuum/FreeParameters" [("total", "I", (.int (3))), ("indices", "[I", (.ref qi))]), (o89, own_ar Z .int [(.int (2))])]) rfl (fun T X => ?_)
        refine k_iload C X at_238 rfl rfl ?_
        refine k_iconst C X at_240 rfl (v := 2) rfl ?_
        refine k_icmp_le C X at_241 rfl (tpc := 252) rfl (fun _ => ?_) (fun hc => (absurd hc (by decide) : False).elim)
        refine k_aload C X at_252 rfl rfl rfl ?_
        refine k_aload C X at_254 rfl rfl rfl ?_
        refine k_aload C X at_256 rfl rfl rfl ?_
        refine k_virtual C X at_258 rfl (hw _ (List.mem_of_getElem? (i := 15) rfl)) (hw _ (List.mem_of_getElem? (i := 16) rfl)) (hw _ (List.mem_of_getElem? (i := 3) rfl)) (hw _ (List.mem_of_getElem? (i := 19) rfl)) (hw _ (List.mem_of_getElem? (i := 18) rfl)) (hw _ (List.mem_of_getElem? (i := 17) rfl)) (by decide) (own_nf C.2.2.2.1 (hw _ (List.mem_of_getElem? (i := 18) rfl))) (own_eL (ix := 4) rfl) (own_moved_2 l Z a0 hw o138 o151 o207 o174 qi [(.double (FP.i2d x4)), (.double (FP.i2d x5)), (.double (FP.i2d c2))] (FP.i2d x1) (FP.i2d x2) (FP.i2d x3) (FP.i2d x4) (FP.i2d x5) (own_dd _ _) (own_dd _ _) ([(o89, own_ar Z .int [(.int (2))])])) (W := 0) (argsL := [(.ref o151), (.ref o207)]) (rest := []) rfl rfl rfl own_pd1 rfl (Nat.le_of_eq rfl) (by decide) (by decide) (by decide) (by decide) (fun v T M hQ X => ?_)
        obtain ⟨rr, rfl, rfl⟩ := hQ
        refine k_astore C X at_261 rfl rfl (l' := #[.val (.int x0), .val (.int x1), .val (.int x2), .val (.int x3), .val (.int x4), .val (.int x5), .val (.int (x0 &&& (7))), .val (.int c2), .val (.int (0)), .val (.int (0)), .val (.int (1)), .val (.int (1)), .val (.ref o89), .val (.int (1)), .val (.ref o138), .val (.ref o151), .val (.ref o174), .val (.int (2)), .val (.ref o207), .val (.ref rr), .unset, .unset, .unset, .unset, .unset, .unset, .unset, .unset, .unset]) rfl ?_
        refine k_aload C X at_263 rfl rfl rfl ?_
        refine k_aload C X at_265 rfl rfl rfl ?_
        have hne := X.heap.ne (i := 0) (j := 3) rfl rfl (by decide)
        refine k_acmp_eq C X at_267 rfl (tpc := 277) rfl rfl rfl (fun hc => (hne (Value.ref.inj hc) : False).elim) (fun _ => ?_)
        refine k_aload C X at_270 rfl rfl rfl ?_
        refine k_arraylength C X at_272 rfl (ix := 0) rfl (z := (3)) rfl ?_
        refine k_iconst C X at_273 rfl (v := 3) rfl ?_
        refine k_icmp_eq C X at_274 rfl (tpc := 279) rfl (fun _ => ?_) (fun hc => (absurd hc (by decide) : False).elim)
        refine k_aload C X at_279 rfl rfl rfl ?_
        refine k_iconst C X at_281 rfl (v := 0) rfl ?_
        refine k_daload C X at_282 rfl (ix := 3) (i := 0) rfl (by decide) (by decide) rfl ?_
        refine k_iloadN C X at_283 rfl rfl ?_
        refine k_i2d C X at_284 rfl ?_
        refine k_dcmpl C X at_285 rfl ?_
        refine k_ifdl_ne C X at_286 rfl (tpc := 309) rfl (fun hc => (hc (own_eq (Jvm.FP.Core.i2d_int _) (Jvm.FP.Core.i2d_int _) rfl) : False).elim) (fun _ => ?_)
        refine k_aload C X at_289 rfl rfl rfl ?_
        refine k_iconst C X at_291 rfl (v := 1) rfl ?_
        refine k_daload C X at_292 rfl (ix := 3) (i := 1) rfl (by decide) (by decide) rfl ?_
        refine k_iloadN C X at_293 rfl rfl ?_
        refine k_i2d C X at_294 rfl ?_
        refine k_dcmpl C X at_295 rfl ?_
        refine k_ifdl_ne C X at_296 rfl (tpc := 309) rfl (fun hc => (hc (own_eq (Jvm.FP.Core.i2d_int _) (Jvm.FP.Core.i2d_int _) rfl) : False).elim) (fun _ => ?_)
        refine k_aload C X at_299 rfl rfl rfl ?_
        refine k_iconst C X at_301 rfl (v := 2) rfl ?_
        refine k_daload C X at_302 rfl (ix := 3) (i := 2) rfl (by decide) (by decide) rfl ?_
        refine k_iloadN C X at_303 rfl rfl ?_
        refine k_i2d C X at_304 rfl ?_
        refine k_dcmpl C X at_305 rfl ?_
        refine k_ifdl_eq C X at_306 rfl (tpc := 311) rfl (fun _ => ?_) (fun hc => (hc (own_eq (Jvm.FP.Core.i2d_int _) (Jvm.FP.Core.i2d_int _) rfl) : False).elim)
        refine k_iconst C X at_311 rfl (v := 0) rfl ?_
        refine k_istore C X at_312 rfl (l' := #[.val (.int x0), .val (.int x1), .val (.int x2), .val (.int x3), .val (.int x4), .val (.int x5), .val (.int (x0 &&& (7))), .val (.int c2), .val (.int (0)), .val (.int (0)), .val (.int (1)), .val (.int (1)), .val (.ref o89), .val (.int (1)), .val (.ref o138), .val (.ref o151), .val (.ref o174), .val (.int (2)), .val (.ref o207), .val (.ref rr), .val (.int (0)), .unset, .unset, .unset, .unset, .unset, .unset, .unset, .unset]) rfl ?_
        refine k_iload C X at_314 rfl rfl ?_
        refine k_if_eq C X at_316 rfl (tpc := 323) rfl (fun _ => ?_) (fun hc => (absurd hc (by decide) : False).elim)
        refine k_iconst C X at_323 rfl (v := 1) rfl ?_
        refine k_istore C X at_324 rfl (l' := #[.val (.int x0), .val (.int x1), .val (.int x2), .val (.int x3), .val (.int x4), .val (.int x5), .val (.int (x0 &&& (7))), .val (.int c2), .val (.int (0)), .val (.int (0)), .val (.int (1)), .val (.int (1)), .val (.ref o89), .val (.int (1)), .val (.ref o138), .val (.ref o151), .val (.ref o174), .val (.int (2)), .val (.ref o207), .val (.ref rr), .val (.int (0)), .val (.int (1)), .unset, .unset, .unset, .unset, .unset, .unset, .unset]) rfl ?_
        refine k_iload C X at_326 rfl rfl ?_
        refine k_if_eq C X at_328 rfl (tpc := 335) rfl (fun _ => ?_) (fun hc => (absurd hc (by decide) : False).elim)
        refine k_iconst C X at_335 rfl (v := 1) rfl ?_
        refine k_iload C X at_336 rfl rfl ?_
        refine k_if_eq C X at_338 rfl (tpc := 345) rfl (fun _ => ?_) (fun hc => (absurd hc (by decide) : False).elim)
        refine k_iconst C X at_345 rfl (v := 1) rfl ?_
        refine k_iadd C X at_346 rfl ?_
        refine k_istore C X at_347 rfl (l' := #[.val (.int x0), .val (.int x1), .val (.int x2), .val (.int x3), .val (.int x4), .val (.int x5), .val (.int (x0 &&& (7))), .val (.int c2), .val (.int (0)), .val (.int (0)), .val (.int (1)), .val (.int (1)), .val (.ref o89), .val (.int (1)), .val (.ref o138), .val (.ref o151), .val (.ref o174), .val (.int (2)), .val (.ref o207), .val (.ref rr), .val (.int (0)), .val (.int (1)), .val (.int (2)), .unset, .unset, .unset, .unset, .unset, .unset]) rfl ?_
        refine k_iload C X at_349 rfl rfl ?_
        refine k_if_eq C X at_351 rfl (tpc := 359) rfl (fun _ => ?_) (fun hc => (absurd hc (by decide) : False).elim)
        refine k_iloadN C X at_359 rfl rfl ?_
        refine k_i2d C X at_360 rfl ?_
        refine k_aload C X at_361 rfl rfl rfl ?_
        refine k_iload C X at_363 rfl rfl ?_
        refine k_daload C X at_365 rfl (ix := 2) (i := 0) rfl (by decide) (by decide) rfl ?_
        refine k_daddE C X at_366 rfl (own_dd _ _) ?_
        refine k_dstore C X at_367 rfl (l' := #[.val (.int x0), .val (.int x1), .val (.int x2), .val (.int x3), .val (.int x4), .val (.int x5), .val (.int (x0 &&& (7))), .val (.int c2), .val (.int (0)), .val (.int (0)), .val (.int (1)), .val (.int (1)), .val (.ref o89), .val (.int (1)), .val (.ref o138), .val (.ref o151), .val (.ref o174), .val (.int (2)), .val (.ref o207), .val (.ref rr), .val (.int (0)), .val (.int (1)), .val (.int (2)), .val (.double (FP.dadd (FP.i2d x1) (FP.i2d x4))), .second, .unset, .unset, .unset, .unset]) rfl ?_
        refine k_iload C X at_369 rfl rfl ?_
        refine k_if_eq C X at_371 rfl (tpc := 379) rfl (fun _ => ?_) (fun hc => (absurd hc (by decide) : False).elim)
        refine k_iloadN C X at_379 rfl rfl ?_
        refine k_i2d C X at_380 rfl ?_
        refine k_aload C X at_381 rfl rfl rfl ?_
        refine k_iload C X at_383 rfl rfl ?_
        refine k_daload C X at_385 rfl (ix := 2) (i := 1) rfl (by decide) (by decide) rfl ?_
        refine k_daddE C X at_386 rfl (own_dd _ _) ?_
        refine k_dstore C X at_387 rfl (l' := #[.val (.int x0), .val (.int x1), .val (.int x2), .val (.int x3), .val (.int x4), .val (.int x5), .val (.int (x0 &&& (7))), .val (.int c2), .val (.int (0)), .val (.int (0)), .val (.int (1)), .val (.int (1)), .val (.ref o89), .val (.int (1)), .val (.ref o138), .val (.ref o151), .val (.ref o174), .val (.int (2)), .val (.ref o207), .val (.ref rr), .val (.int (0)), .val (.int (1)), .val (.int (2)), .val (.double (FP.dadd (FP.i2d x1) (FP.i2d x4))), .second, .val (.double (FP.dadd (FP.i2d x2) (FP.i2d x5))), .second, .unset, .unset]) rfl ?_
        refine k_iload C X at_389 rfl rfl ?_
        refine k_if_eq C X at_391 rfl (tpc := 399) rfl (fun hc => (absurd hc (by decide) : False).elim) (fun _ => ?_)
        refine k_iloadN C X at_394 rfl rfl ?_
        refine k_i2d C X at_395 rfl ?_
        refine k_goto C X at_396 (tpc := 407) rfl ?_
        refine k_dstore C X at_407 rfl (l' := #[.val (.int x0), .val (.int x1), .val (.int x2), .val (.int x3), .val (.int x4), .val (.int x5), .val (.int (x0 &&& (7))), .val (.int c2), .val (.int (0)), .val (.int (0)), .val (.int (1)), .val (.int (1)), .val (.ref o89), .val (.int (1)), .val (.ref o138), .val (.ref o151), .val (.ref o174), .val (.int (2)), .val (.ref o207), .val (.ref rr), .val (.int (0)), .val (.int (1)), .val (.int (2)), .val (.double (FP.dadd (FP.i2d x1) (FP.i2d x4))), .second, .val (.double (FP.dadd (FP.i2d x2) (FP.i2d x5))), .second, .val (.double (FP.i2d x3)), .second]) rfl ?_
        refine k_aload C X at_409 rfl rfl rfl ?_
        refine k_iconst C X at_411 rfl (v := 0) rfl ?_
        refine k_daload C X at_412 rfl (ix := 0) (i := 0) rfl (by decide) (by decide) rfl ?_
        refine k_dload C X at_413 rfl rfl ?_
        refine k_dcmpl C X at_415 rfl ?_
        refine k_ifdl_ne C X at_416 rfl (tpc := 443) rfl (fun hc => (hc (own_self (own_dd _ _)) : False).elim) (fun _ => ?_)
        refine k_aload C X at_419 rfl rfl rfl ?_
        refine k_iconst C X at_421 rfl (v := 1) rfl ?_
        refine k_daload C X at_422 rfl (ix := 0) (i := 1) rfl (by decide) (by decide) rfl ?_
        refine k_dload C X at_423 rfl rfl ?_
        refine k_dcmpl C X at_425 rfl ?_
        refine k_ifdl_ne C X at_426 rfl (tpc := 443) rfl (fun hc => (hc (own_self (own_dd _ _)) : False).elim) (fun _ => ?_)
        refine k_aload C X at_429 rfl rfl rfl ?_
        refine k_iconst C X at_431 rfl (v := 2) rfl ?_
        refine k_daload C X at_432 rfl (ix := 0) (i := 2) rfl (by decide) (by decide) rfl ?_
        refine k_dload C X at_433 rfl rfl ?_
        refine k_dcmpl C X at_435 rfl ?_
        refine k_ifdl_ne C X at_436 rfl (tpc := 443) rfl (fun hc => (hc (own_self (own_nn (Jvm.FP.Core.i2d_int _))) : False).elim) (fun _ => ?_)
        refine k_iconst C X at_439 rfl (v := 1) rfl ?_
        refine k_goto C X at_440 (tpc := 444) rfl ?_
        exact k_ireturn C X at_444 (by simp) rfl rfl (by decide) (by decide)
    · skip
      refine k_iconst C X at_32 rfl (v := 1) rfl ?_
      refine k_goto C X at_33 (tpc := 37) rfl ?_
      refine k_istore C X at_37 rfl (l' := #[.val (.int x0), .val (.int x1), .val (.int x2), .val (.int x3), .val (.int x4), .val (.int x5), .val (.int (x0 &&& (7))), .val (.int c2), .val (.int (0)), .val (.int (1)), .unset, .unset, .unset, .unset, .unset, .unset, .unset, .unset, .unset, .unset, .unset, .unset, .unset, .unset, .unset, .unset, .unset, .unset, .unset]) rfl ?_
      refine k_iload C X at_39 rfl rfl ?_
      refine k_iconst C X at_41 rfl (v := 4) rfl ?_
      refine k_iand C X at_42 rfl ?_
      refine k_if_eq C X at_43 rfl (tpc := 50) rfl (fun h43 => ?_) (fun h43 => ?_)
      · skip
        refine k_iconst C X at_50 rfl (v := 0) rfl ?_
        refine k_istore C X at_51 rfl (l' := #[.val (.int x0), .val (.int x1), .val (.int x2), .val (.int x3), .val (.int x4), .val (.int x5), .val (.int (x0 &&& (7))), .val (.int c2), .val (.int (0)), .val (.int (1)), .val (.int (0)), .unset, .unset, .unset, .unset, .unset, .unset, .unset, .unset, .unset, .unset, .unset, .unset, .unset, .unset, .unset, .unset, .unset, .unset]) rfl ?_
        refine k_iload C X at_53 rfl rfl ?_
        refine k_if_eq C X at_55 rfl (tpc := 62) rfl (fun _ => ?_) (fun hc => (absurd hc (by decide) : False).elim)
        refine k_iconst C X at_62 rfl (v := 0) rfl ?_
        refine k_iload C X at_63 rfl rfl ?_
        refine k_if_eq C X at_65 rfl (tpc := 72) rfl (fun hc => (absurd hc (by decide) : False).elim) (fun _ => ?_)
        refine k_iconst C X at_68 rfl (v := 1) rfl ?_
        refine k_goto C X at_69 (tpc := 73) rfl ?_
        refine k_iadd C X at_73 rfl ?_
        refine k_iload C X at_74 rfl rfl ?_
        refine k_if_eq C X at_76 rfl (tpc := 83) rfl (fun _ => ?_) (fun hc => (absurd hc (by decide) : False).elim)
        refine k_iconst C X at_83 rfl (v := 0) rfl ?_
        refine k_iadd C X at_84 rfl ?_
        refine k_istore C X at_85 rfl (l' := #[.val (.int x0), .val (.int x1), .val (.int x2), .val (.int x3), .val (.int x4), .val (.int x5), .val (.int (x0 &&& (7))), .val (.int c2), .val (.int (0)), .val (.int (1)), .val (.int (0)), .val (.int (1)), .unset, .unset, .unset, .unset, .unset, .unset, .unset, .unset, .unset, .unset, .unset, .unset, .unset, .unset, .unset, .unset, .unset]) rfl ?_
        refine k_iload C X at_87 rfl rfl ?_
        refine k_newarray C X at_89 rfl (ty := .int) rfl (hw _ (List.mem_of_getElem? (i := 0) rfl)) (by decide) (cap := 1) (by decide) (by decide) (by decide) (by decide) (vs := [(.int 0)]) rfl (fun T o89 X => ?_)
        refine k_astore C X at_91 rfl rfl (l' := #[.val (.int x0), .val (.int x1), .val (.int x2), .val (.int x3), .val (.int x4), .val (.int x5), .val (.int (x0 &&& (7))), .val (.int c2), .val (.int (0)), .val (.int (1)), .val (.int (0)), .val (.int (1)), .val (.ref o89), .unset, .unset, .unset, .unset, .unset, .unset, .unset, .unset, .unset, .unset, .unset, .unset, .unset, .unset, .unset, .unset]) rfl ?_
        refine k_iconst C X at_93 rfl (v := 0) rfl ?_
        refine k_istore C X at_94 rfl (l' := #[.val (.int x0), .val (.int x1), .val (.int x2), .val (.int x3), .val (.int x4), .val (.int x5), .val (.int (x0 &&& (7))), .val (.int c2), .val (.int (0)), .val (.int (1)), .val (.int (0)), .val (.int (1)), .val (.ref o89), .val (.int (0)), .unset, .unset, .unset, .unset, .unset, .unset, .unset, .unset, .unset, .unset, .unset, .unset, .unset, .unset, .unset]) rfl ?_
        refine k_iload C X at_96 rfl rfl ?_
        refine k_if_eq C X at_98 rfl (tpc := 110) rfl (fun _ => ?_) (fun hc => (absurd hc (by decide) : False).elim)
        refine k_iload C X at_110 rfl rfl ?_
        refine k_if_eq C X at_112 rfl (tpc := 124) rfl (fun hc => (absurd hc (by decide) : False).elim) (fun _ => ?_)
        refine k_aload C X at_115 rfl rfl rfl ?_
        refine k_iload C X at_117 rfl rfl ?_
        refine k_iconst C X at_119 rfl (v := 1) rfl ?_
        refine k_iastore C X at_120 rfl (ix := 0) (i := 0) rfl (by decide) (by decide) (Nat.le_of_ble_eq_true rfl) (vs' := [(.int (1))]) rfl (L' := [(o89, own_ar Z .int [(.int (1))])]) rfl (fun T X => ?_)
        refine k_iinc C X at_121 rfl (v := 1) rfl rfl (l' := #[.val (.int x0), .val (.int x1), .val (.int x2), .val (.int x3), .val (.int x4), .val (.int x5), .val (.int (x0 &&& (7))), .val (.int c2), .val (.int (0)), .val (.int (1)), .val (.int (0)), .val (.int (1)), .val (.ref o89), .val (.int (1)), .unset, .unset, .unset, .unset, .unset, .unset, .unset, .unset, .unset, .unset, .unset, .unset, .unset, .unset, .unset]) rfl ?_
        refine k_iload C X at_124 rfl rfl ?_
        refine k_if_eq C X at_126 rfl (tpc := 138) rfl (fun _ => ?_) (fun hc => (absurd hc (by decide) : False).elim)
        refine k_new C X at_138 rfl (hw _ (List.mem_of_getElem? (i := 1) rfl)) (hw _ (List.mem_of_getElem? (i := 2) rfl)) (hw _ (List.mem_of_getElem? (i := 3) rfl)) (own_lay_FreeParameters hw) (fs := [("total", "I", (.int (0))), ("indices", "[I", .null)]) rfl (by decide) (by decide) (fun T o138 X => ?_)
        refine k_dup C X at_141 rfl rfl ?_
        refine k_iconst C X at_142 rfl (v := 3) rfl ?_
        refine k_aload C X at_143 rfl rfl rfl ?_
        refine k_init C X at_145 rfl rfl (hw _ (List.mem_of_getElem? (i := 4) rfl)) (hw _ (List.mem_of_getElem? (i := 5) rfl)) (hw _ (List.mem_of_getElem? (i := 3) rfl)) (hw _ (List.mem_of_getElem? (i := 6) rfl)) (by decide) (own_init_1 l Z a0 hw o138 o89 ([])) (W := 1) (argsL := [(.int (3)), (.ref o89)]) (rest := [(.ref o138)]) rfl rfl rfl own_pd0 rfl (Nat.le_of_eq rfl) (by decide) (by decide) (by decide) (by decide) (fun v T M hQ X => ?_)
        obtain ⟨rfl, qi, rfl⟩ := hQ
        refine k_astore C X at_148 rfl rfl (l' := #[.val (.int x0), .val (.int x1), .val (.int x2), .val (.int x3), .val (.int x4), .val (.int x5), .val (.int (x0 &&& (7))), .val (.int c2), .val (.int (0)), .val (.int (1)), .val (.int (0)), .val (.int (1)), .val (.ref o89), .val (.int (1)), .val (.ref o138), .unset, .unset, .unset, .unset, .unset, .unset, .unset, .unset, .unset, .unset, .unset, .unset, .unset, .unset]) rfl ?_
        refine k_iconst C X at_150 rfl (v := 3) rfl ?_
        refine k_newarray C X at_151 rfl (ty := .double) rfl (hw _ (List.mem_of_getElem? (i := 14) rfl)) (by decide) (cap := 3) (by decide) (by decide) (by decide) (by decide) (vs := [(.double 0), (.double 0), (.double 0)]) rfl (fun T o151 X => ?_)
        refine k_astore C X at_153 rfl rfl (l' := #[.val (.int x0), .val (.int x1), .val (.int x2), .val (.int x3), .val (.int x4), .val (.int x5), .val (.int (x0 &&& (7))), .val (.int c2), .val (.int (0)), .val (.int (1)), .val (.int (0)), .val (.int (1)), .val (.ref o89), .val (.int (1)), .val (.ref o138), .val (.ref o151), .unset, .unset, .unset, .unset, .unset, .unset, .unset, .unset, .unset, .unset, .unset, .unset, .unset]) rfl ?_
        refine k_aload C X at_155 rfl rfl rfl ?_
        refine k_iconst C X at_157 rfl (v := 0) rfl ?_
        refine k_iloadN C X at_158 rfl rfl ?_
        refine k_i2d C X at_159 rfl ?_
        refine k_dastore C X at_160 rfl (ix := 0) (i := 0) rfl (by decide) (by decide) (Nat.le_of_ble_eq_true rfl) (vs' := [(.double (FP.i2d x1)), (.double 0), (.double 0)]) rfl (L' := [(o151, own_ar Z .double [(.double (FP.i2d x1)), (.double 0), (.double 0)]), (qi, own_ar Z .int [(.int (0)), (.int (2))]), (o138, own_ob Z "com/example/residuum/residuum/FreeParameters" [("total", "I", (.int (3))), ("indices", "[I", (.ref qi))]), (o89, own_ar Z .int [(.int (1))])]) rfl (fun T X => ?_)
        refine k_aload C X at_161 rfl rfl rfl ?_
        refine k_iconst C X at_163 rfl (v := 1) rfl ?_
        refine k_iloadN C X at_164 rfl rfl ?_
        refine k_i2d C X at_165 rfl ?_
        refine k_dastore C X at_166 rfl (ix := 0) (i := 1) rfl (by decide) (by decide) (Nat.le_of_ble_eq_true rfl) (vs' := [(.double (FP.i2d x1)), (.double (FP.i2d x2)), (.double 0)]) rfl (L' := [(o151, own_ar Z .double [(.double (FP.i2d x1)), (.double (FP.i2d x2)), (.double 0)]), (qi, own_ar Z .int [(.int (0)), (.int (2))]), (o138, own_ob Z "com/example/residuum/residuum/FreeParameters" [("total", "I", (.int (3))), ("indices", "[I", (.ref qi))]), (o89, own_ar Z .int [(.int (1))])]) rfl (fun T X => ?_)
        refine k_aload C X at_167 rfl rfl rfl ?_
        refine k_iconst C X at_169 rfl (v := 2) rfl ?_
        refine k_iloadN C X at_170 rfl rfl ?_
        refine k_i2d C X at_171 rfl ?_
        refine k_dastore C X at_172 rfl (ix := 0) (i := 2) rfl (by decide) (by decide) (Nat.le_of_ble_eq_true rfl) (vs' := [(.double (FP.i2d x1)), (.double (FP.i2d x2)), (.double (FP.i2d x3))]) rfl (L' := [(o151, own_ar Z .double [(.double (FP.i2d x1)), (.double (FP.i2d x2)), (.double (FP.i2d x3))]), (qi, own_ar Z .int [(.int (0)), (.int (2))]), (o138, own_ob Z "com/example/residuum/residuum/FreeParameters" [("total", "I", (.int (3))), ("indices", "[I", (.ref qi))]), (o89, own_ar Z .int [(.int (1))])]) rfl (fun T X => ?_)
        refine k_iconst C X at_173 rfl (v := 3) rfl ?_
        refine k_newarray C X at_174 rfl (ty := .double) rfl (hw _ (List.mem_of_getElem? (i := 14) rfl)) (by decide) (cap := 3) (by decide) (by decide) (by decide) (by decide) (vs := [(.double 0), (.double 0), (.double 0)]) rfl (fun T o174 X => ?_)
        refine k_astore C X at_176 rfl rfl (l' := #[.val (.int x0), .val (.int x1), .val (.int x2), .val (.int x3), .val (.int x4), .val (.int x5), .val (.int (x0 &&& (7))), .val (.int c2), .val (.int (0)), .val (.int (1)), .val (.int (0)), .val (.int (1)), .val (.ref o89), .val (.int (1)), .val (.ref o138), .val (.ref o151), .val (.ref o174), .unset, .unset, .unset, .unset, .unset, .unset, .unset, .unset, .unset, .unset, .unset, .unset]) rfl ?_
        refine k_aload C X at_178 rfl rfl rfl ?_
        refine k_iconst C X at_180 rfl (v := 0) rfl ?_
        refine k_iload C X at_181 rfl rfl ?_
        refine k_i2d C X at_183 rfl ?_
        refine k_dastore C X at_184 rfl (ix := 0) (i := 0) rfl (by decide) (by decide) (Nat.le_of_ble_eq_true rfl) (vs' := [(.double (FP.i2d x4)), (.double 0), (.double 0)]) rfl (L' := [(o174, own_ar Z .double [(.double (FP.i2d x4)), (.double 0), (.double 0)]), (o151, own_ar Z .double [(.double (FP.i2d x1)), (.double (FP.i2d x2)), (.double (FP.i2d x3))]), (qi, own_ar Z .int [(.int (0)), (.int (2))]), (o138, own_ob Z "com/example/residuum/residuum/FreeParameters" [("total", "I", (.int (3))), ("indices", "[I", (.ref qi))]), (o89, own_ar Z .int [(.int (1))])]) rfl (fun T X => ?_)
        refine k_aload C X at_185 rfl rfl rfl ?_
        refine k_iconst C X at_187 rfl (v := 1) rfl ?_
        refine k_iload C X at_188 rfl rfl ?_
        refine k_i2d C X at_190 rfl ?_
        refine k_dastore C X at_191 rfl (ix := 0) (i := 1) rfl (by decide) (by decide) (Nat.le_of_ble_eq_true rfl) (vs' := [(.double (FP.i2d x4)), (.double (FP.i2d x5)), (.double 0)]) rfl (L' := [(o174, own_ar Z .double [(.double (FP.i2d x4)), (.double (FP.i2d x5)), (.double 0)]), (o151, own_ar Z .double [(.double (FP.i2d x1)), (.double (FP.i2d x2)), (.double (FP.i2d x3))]), (qi, own_ar Z .int [(.int (0)), (.int (2))]), (o138, own_ob Z "com/example/residuum/residuum/FreeParameters" [("total", "I", (.int (3))), ("indices", "[I", (.ref qi))]), (o89, own_ar Z .int [(.int (1))])]) rfl (fun T X => ?_)
        refine k_aload C X at_192 rfl rfl rfl ?_
        refine k_iconst C X at_194 rfl (v := 2) rfl ?_
        refine k_iload C X at_195 rfl rfl ?_
        refine k_i2d C X at_197 rfl ?_
        refine k_dastore C X at_198 rfl (ix := 0) (i := 2) rfl (by decide) (by decide) (Nat.le_of_ble_eq_true rfl) (vs' := [(.double (FP.i2d x4)), (.double (FP.i2d x5)), (.double (FP.i2d c2))]) rfl (L' := [(o174, own_ar Z .double [(.double (FP.i2d x4)), (.double (FP.i2d x5)), (.double (FP.i2d c2))]), (o151, own_ar Z .double [(.double (FP.i2d x1)), (.double (FP.i2d x2)), (.double (FP.i2d x3))]), (qi, own_ar Z .int [(.int (0)), (.int (2))]), (o138, own_ob Z "com/example/residuum/residuum/FreeParameters" [("total", "I", (.int (3))), ("indices", "[I", (.ref qi))]), (o89, own_ar Z .int [(.int (1))])]) rfl (fun T X => ?_)
        refine k_iconst C X at_199 rfl (v := 3) rfl ?_
        refine k_iload C X at_200 rfl rfl ?_
        refine k_isub C X at_202 rfl ?_
        refine k_istore C X at_203 rfl (l' := #[.val (.int x0), .val (.int x1), .val (.int x2), .val (.int x3), .val (.int x4), .val (.int x5), .val (.int (x0 &&& (7))), .val (.int c2), .val (.int (0)), .val (.int (1)), .val (.int (0)), .val (.int (1)), .val (.ref o89), .val (.int (1)), .val (.ref o138), .val (.ref o151), .val (.ref o174), .val (.int (2)), .unset, .unset, .unset, .unset, .unset, .unset, .unset, .unset, .unset, .unset, .unset]) rfl ?_
        refine k_iload C X at_205 rfl rfl ?_
        refine k_newarray C X at_207 rfl (ty := .double) rfl (hw _ (List.mem_of_getElem? (i := 14) rfl)) (by decide) (cap := 2) (by decide) (by decide) (by decide) (by decide) (vs := [(.double 0), (.double 0)]) rfl (fun T o207 X => ?_)
        refine k_astore C X at_209 rfl rfl (l' := #[.val (.int x0), .val (.int x1), .val (.int x2), .val (.int x3), .val (.int x4), .val (.int x5), .val (.int (x0 &&& (7))), .val (.int c2), .val (.int (0)), .val (.int (1)), .val (.int (0)), .val (.int (1)), .val (.ref o89), .val (.int (1)), .val (.ref o138), .val (.ref o151), .val (.ref o174), .val (.int (2)), .val (.ref o207), .unset, .unset, .unset, .unset, .unset, .unset, .unset, .unset, .unset, .unset]) rfl ?_
        refine k_iload C X at_211 rfl rfl ?_
        refine k_if_le C X at_213 rfl (tpc := 224) rfl (fun hc => (absurd hc (by decide) : False).elim) (fun _ => ?_)
        refine k_aload C X at_216 rfl rfl rfl ?_
        refine k_iconst C X at_218 rfl (v := 0) rfl ?_
        refine k_aload C X at_219 rfl rfl rfl ?_
        refine k_iconst C X at_221 rfl (v := 0) rfl ?_
        refine k_daload C X at_222 rfl (ix := 1) (i := 0) rfl (by decide) (by decide) rfl ?_
        refine k_dastore C X at_223 rfl (ix := 0) (i := 0) rfl (by decide) (by decide) (Nat.le_of_ble_eq_true rfl) (vs' := [(.double (FP.i2d x4)), (.double 0)]) rfl (L' := [(o207, own_ar Z .double [(.double (FP.i2d x4)), (.double 0)]), (o174, own_ar Z .double [(.double (FP.i2d x4)), (.double (FP.i2d x5)), (.double (FP.i2d c2))]), (o151, own_ar Z .double [(.double (FP.i2d x1)), (.double (FP.i2d x2)), (.double (FP.i2d x3))]), (qi, own_ar Z .int [(.int (0)), (.int (2))]), (o138, own_ob Z "com/example/residuum/residuum/FreeParameters" [("total", "I", (.int (3))), ("indices", "[I", (.ref qi))]), (o89, own_ar Z .int [(.int (1))])]) rfl (fun T X => ?_)
        refine k_iload C X at_224 rfl rfl ?_
        refine k_iconst C X at_226 rfl (v := 1) rfl ?_
        refine k_icmp_le C X at_227 rfl (tpc := 238) rfl (fun hc => (absurd hc (by decide) : False).elim) (fun _ => ?_)
        refine k_aload C X at_230 rfl rfl rfl ?_
        refine k_iconst C X at_232 rfl (v := 1) rfl ?_
        refine k_aload C X at_233 rfl rfl rfl ?_
        refine k_iconst C X at_235 rfl (v := 1) rfl ?_
        refine k_daload C X at_236 rfl (ix := 1) (i := 1) rfl (by decide) (by decide) rfl ?_
        refine k_dastore C X at_237 rfl (ix := 0) (i := 1) rfl (by decide) (by decide) (Nat.le_of_ble_eq_true rfl) (vs' := [(.double (FP.i2d x4)), (.double (FP.i2d x5))]) rfl (L' := [(o207, own_ar Z .double [(.double (FP.i2d x4)), (.double (FP.i2d x5))]), (o174, own_ar Z .double [(.double (FP.i2d x4)), (.double (FP.i2d x5)), (.double (FP.i2d c2))]), (o151, own_ar Z .double [(.double (FP.i2d x1)), (.double (FP.i2d x2)), (.double (FP.i2d x3))]), (qi, own_ar Z .int [(.int (0)), (.int (2))]), (o138, own_ob Z "com/example/residuum/residuum/FreeParameters" [("total", "I", (.int (3))), ("indices", "[I", (.ref qi))]), (o89, own_ar Z .int [(.int (1))])]) rfl (fun T X => ?_)
        refine k_iload C X at_238 rfl rfl ?_
        refine k_iconst C X at_240 rfl (v := 2) rfl ?_
        refine k_icmp_le C X at_241 rfl (tpc := 252) rfl (fun _ => ?_) (fun hc => (absurd hc (by decide) : False).elim)
        refine k_aload C X at_252 rfl rfl rfl ?_
        refine k_aload C X at_254 rfl rfl rfl ?_
        refine k_aload C X at_256 rfl rfl rfl ?_
        refine k_virtual C X at_258 rfl (hw _ (List.mem_of_getElem? (i := 15) rfl)) (hw _ (List.mem_of_getElem? (i := 16) rfl)) (hw _ (List.mem_of_getElem? (i := 3) rfl)) (hw _ (List.mem_of_getElem? (i := 19) rfl)) (hw _ (List.mem_of_getElem? (i := 18) rfl)) (hw _ (List.mem_of_getElem? (i := 17) rfl)) (by decide) (own_nf C.2.2.2.1 (hw _ (List.mem_of_getElem? (i := 18) rfl))) (own_eL (ix := 4) rfl) (own_moved_1 l Z a0 hw o138 o151 o207 o174 qi [(.double (FP.i2d x4)), (.double (FP.i2d x5)), (.double (FP.i2d c2))] (FP.i2d x1) (FP.i2d x2) (FP.i2d x3) (FP.i2d x4) (FP.i2d x5) (own_dd _ _) (own_dd _ _) ([(o89, own_ar Z .int [(.int (1))])])) (W := 0) (argsL := [(.ref o151), (.ref o207)]) (rest := []) rfl rfl rfl own_pd1 rfl (Nat.le_of_eq rfl) (by decide) (by decide) (by decide) (by decide) (fun v T M hQ X => ?_)
        obtain ⟨rr, rfl, rfl⟩ := hQ
        refine k_astore C X at_261 rfl rfl (l' := #[.val (.int x0), .val (.int x1), .val (.int x2), .val (.int x3), .val (.int x4), .val (.int x5), .val (.int (x0 &&& (7))), .val (.int c2), .val (.int (0)), .val (.int (1)), .val (.int (0)), .val (.int (1)), .val (.ref o89), .val (.int (1)), .val (.ref o138), .val (.ref o151), .val (.ref o174), .val (.int (2)), .val (.ref o207), .val (.ref rr), .unset, .unset, .unset, .unset, .unset, .unset, .unset, .unset, .unset]) rfl ?_
        refine k_aload C X at_263 rfl rfl rfl ?_
        refine k_aload C X at_265 rfl rfl rfl ?_
        have hne := X.heap.ne (i := 0) (j := 3) rfl rfl (by decide)
        refine k_acmp_eq C X at_267 rfl (tpc := 277) rfl rfl rfl (fun hc => (hne (Value.ref.inj hc) : False).elim) (fun _ => ?_)
        refine k_aload C X at_270 rfl rfl rfl ?_
        refine k_arraylength C X at_272 rfl (ix := 0) rfl (z := (3)) rfl ?_
        refine k_iconst C X at_273 rfl (v := 3) rfl ?_
        refine k_icmp_eq C X at_274 rfl (tpc := 279) rfl (fun _ => ?_) (fun hc => (absurd hc (by decide) : False).elim)
        refine k_aload C X at_279 rfl rfl rfl ?_
        refine k_iconst C X at_281 rfl (v := 0) rfl ?_
        refine k_daload C X at_282 rfl (ix := 3) (i := 0) rfl (by decide) (by decide) rfl ?_
        refine k_iloadN C X at_283 rfl rfl ?_
        refine k_i2d C X at_284 rfl ?_
        refine k_dcmpl C X at_285 rfl ?_
        refine k_ifdl_ne C X at_286 rfl (tpc := 309) rfl (fun hc => (hc (own_eq (Jvm.FP.Core.i2d_int _) (Jvm.FP.Core.i2d_int _) rfl) : False).elim) (fun _ => ?_)
        refine k_aload C X at_289 rfl rfl rfl ?_
        refine k_iconst C X at_291 rfl (v := 1) rfl ?_
        refine k_daload C X at_292 rfl (ix := 3) (i := 1) rfl (by decide) (by decide) rfl ?_
        refine k_iloadN C X at_293 rfl rfl ?_
        refine k_i2d C X at_294 rfl ?_
        refine k_dcmpl C X at_295 rfl ?_
        refine k_ifdl_ne C X at_296 rfl (tpc := 309) rfl (fun hc => (hc (own_eq (Jvm.FP.Core.i2d_int _) (Jvm.FP.Core.i2d_int _) rfl) : False).elim) (fun _ => ?_)
        refine k_aload C X at_299 rfl rfl rfl ?_
        refine k_iconst C X at_301 rfl (v := 2) rfl ?_
        refine k_daload C X at_302 rfl (ix := 3) (i := 2) rfl (by decide) (by decide) rfl ?_
        refine k_iloadN C X at_303 rfl rfl ?_
        refine k_i2d C X at_304 rfl ?_
        refine k_dcmpl C X at_305 rfl ?_
        refine k_ifdl_eq C X at_306 rfl (tpc := 311) rfl (fun _ => ?_) (fun hc => (hc (own_eq (Jvm.FP.Core.i2d_int _) (Jvm.FP.Core.i2d_int _) rfl) : False).elim)
        refine k_iconst C X at_311 rfl (v := 0) rfl ?_
        refine k_istore C X at_312 rfl (l' := #[.val (.int x0), .val (.int x1), .val (.int x2), .val (.int x3), .val (.int x4), .val (.int x5), .val (.int (x0 &&& (7))), .val (.int c2), .val (.int (0)), .val (.int (1)), .val (.int (0)), .val (.int (1)), .val (.ref o89), .val (.int (1)), .val (.ref o138), .val (.ref o151), .val (.ref o174), .val (.int (2)), .val (.ref o207), .val (.ref rr), .val (.int (0)), .unset, .unset, .unset, .unset, .unset, .unset, .unset, .unset]) rfl ?_
        refine k_iload C X at_314 rfl rfl ?_
        refine k_if_eq C X at_316 rfl (tpc := 323) rfl (fun _ => ?_) (fun hc => (absurd hc (by decide) : False).elim)
        refine k_iconst C X at_323 rfl (v := 1) rfl ?_
        refine k_istore C X at_324 rfl (l' := #[.val (.int x0), .val (.int x1), .val (.int x2), .val (.int x3), .val (.int x4), .val (.int x5), .val (.int (x0 &&& (7))), .val (.int c2), .val (.int (0)), .val (.int (1)), .val (.int (0)), .val (.int (1)), .val (.ref o89), .val (.int (1)), .val (.ref o138), .val (.ref o151), .val (.ref o174), .val (.int (2)), .val (.ref o207), .val (.ref rr), .val (.int (0)), .val (.int (1)), .unset, .unset, .unset, .unset, .unset, .unset, .unset]) rfl ?_
        refine k_iload C X at_326 rfl rfl ?_
        refine k_if_eq C X at_328 rfl (tpc := 335) rfl (fun _ => ?_) (fun hc => (absurd hc (by decide) : False).elim)
        refine k_iconst C X at_335 rfl (v := 1) rfl ?_
        refine k_iload C X at_336 rfl rfl ?_
        refine k_if_eq C X at_338 rfl (tpc := 345) rfl (fun hc => (absurd hc (by decide) : False).elim) (fun _ => ?_)
        refine k_iconst C X at_341 rfl (v := 0) rfl ?_
        refine k_goto C X at_342 (tpc := 346) rfl ?_
        refine k_iadd C X at_346 rfl ?_
        refine k_istore C X at_347 rfl (l' := #[.val (.int x0), .val (.int x1), .val (.int x2), .val (.int x3), .val (.int x4), .val (.int x5), .val (.int (x0 &&& (7))), .val (.int c2), .val (.int (0)), .val (.int (1)), .val (.int (0)), .val (.int (1)), .val (.ref o89), .val (.int (1)), .val (.ref o138), .val (.ref o151), .val (.ref o174), .val (.int (2)), .val (.ref o207), .val (.ref rr), .val (.int (0)), .val (.int (1)), .val (.int (1)), .unset, .unset, .unset, .unset, .unset, .unset]) rfl ?_
        refine k_iload C X at_349 rfl rfl ?_
        refine k_if_eq C X at_351 rfl (tpc := 359) rfl (fun _ => ?_) (fun hc => (absurd hc (by decide) : False).elim)
        refine k_iloadN C X at_359 rfl rfl ?_
        refine k_i2d C X at_360 rfl ?_
        refine k_aload C X at_361 rfl rfl rfl ?_
        refine k_iload C X at_363 rfl rfl ?_
        refine k_daload C X at_365 rfl (ix := 2) (i := 0) rfl (by decide) (by decide) rfl ?_
        refine k_daddE C X at_366 rfl (own_dd _ _) ?_
        refine k_dstore C X at_367 rfl (l' := #[.val (.int x0), .val (.int x1), .val (.int x2), .val (.int x3), .val (.int x4), .val (.int x5), .val (.int (x0 &&& (7))), .val (.int c2), .val (.int (0)), .val (.int (1)), .val (.int (0)), .val (.int (1)), .val (.ref o89), .val (.int (1)), .val (.ref o138), .val (.ref o151), .val (.ref o174), .val (.int (2)), .val (.ref o207), .val (.ref rr), .val (.int (0)), .val (.int (1)), .val (.int (1)), .val (.double (FP.dadd (FP.i2d x1) (FP.i2d x4))), .second, .unset, .unset, .unset, .unset]) rfl ?_
        refine k_iload C X at_369 rfl rfl ?_
        refine k_if_eq C X at_371 rfl (tpc := 379) rfl (fun hc => (absurd hc (by decide) : False).elim) (fun _ => ?_)
        refine k_iloadN C X at_374 rfl rfl ?_
        refine k_i2d C X at_375 rfl ?_
        refine k_goto C X at_376 (tpc := 387) rfl ?_
        refine k_dstore C X at_387 rfl (l' := #[.val (.int x0), .val (.int x1), .val (.int x2), .val (.int x3), .val (.int x4), .val (.int x5), .val (.int (x0 &&& (7))), .val (.int c2), .val (.int (0)), .val (.int (1)), .val (.int (0)), .val (.int (1)), .val (.ref o89), .val (.int (1)), .val (.ref o138), .val (.ref o151), .val (.ref o174), .val (.int (2)), .val (.ref o207), .val (.ref rr), .val (.int (0)), .val (.int (1)), .val (.int (1)), .val (.double (FP.dadd (FP.i2d x1) (FP.i2d x4))), .second, .val (.double (FP.i2d x2)), .second, .unset, .unset]) rfl ?_
        refine k_iload C X at_389 rfl rfl ?_
        refine k_if_eq C X at_391 rfl (tpc := 399) rfl (fun _ => ?_) (fun hc => (absurd hc (by decide) : False).elim)
        refine k_iloadN C X at_399 rfl rfl ?_
        refine k_i2d C X at_400 rfl ?_
        refine k_aload C X at_401 rfl rfl rfl ?_
        refine k_iload C X at_403 rfl rfl ?_
        refine k_daload C X at_405 rfl (ix := 2) (i := 1) rfl (by decide) (by decide) rfl ?_
        refine k_daddE C X at_406 rfl (own_dd _ _) ?_
        refine k_dstore C X at_407 rfl (l' := #[.val (.int x0), .val (.int x1), .val (.int x2), .val (.int x3), .val (.int x4), .val (.int x5), .val (.int (x0 &&& (7))), .val (.int c2), .val (.int (0)), .val (.int (1)), .val (.int (0)), .val (.int (1)), .val (.ref o89), .val (.int (1)), .val (.ref o138), .val (.ref o151), .val (.ref o174), .val (.int (2)), .val (.ref o207), .val (.ref rr), .val (.int (0)), .val (.int (1)), .val (.int (1)), .val (.double (FP.dadd (FP.i2d x1) (FP.i2d x4))), .second, .val (.double (FP.i2d x2)), .second, .val (.double (FP.dadd (FP.i2d x3) (FP.i2d x5))), .second]) rfl ?_
        refine k_aload C X at_409 rfl rfl rfl ?_
        refine k_iconst C X at_411 rfl (v := 0) rfl ?_
        refine k_daload C X at_412 rfl (ix := 0) (i := 0) rfl (by decide) (by decide) rfl ?_
        refine k_dload C X at_413 rfl rfl ?_
        refine k_dcmpl C X at_415 rfl ?_
        refine k_ifdl_ne C X at_416 rfl (tpc := 443) rfl (fun hc => (hc (own_self (own_dd _ _)) : False).elim) (fun _ => ?_)
        refine k_aload C X at_419 rfl rfl rfl ?_
        refine k_iconst C X at_421 rfl (v := 1) rfl ?_
        refine k_daload C X at_422 rfl (ix := 0) (i := 1) rfl (by decide) (by decide) rfl ?_
        refine k_dload C X at_423 rfl rfl ?_
        refine k_dcmpl C X at_425 rfl ?_
        refine k_ifdl_ne C X at_426 rfl (tpc := 443) rfl (fun hc => (hc (own_self (own_nn (Jvm.FP.Core.i2d_int _))) : False).elim) (fun _ => ?_)
        refine k_aload C X at_429 rfl rfl rfl ?_
        refine k_iconst C X at_431 rfl (v := 2) rfl ?_
        refine k_daload C X at_432 rfl (ix := 0) (i := 2) rfl (by decide) (by decide) rfl ?_
        refine k_dload C X at_433 rfl rfl ?_
        refine k_dcmpl C X at_435 rfl ?_
        refine k_ifdl_ne C X at_436 rfl (tpc := 443) rfl (fun hc => (hc (own_self (own_dd _ _)) : False).elim) (fun _ => ?_)
        refine k_iconst C X at_439 rfl (v := 1) rfl ?_
        refine k_goto C X at_440 (tpc := 444) rfl ?_
        exact k_ireturn C X at_444 (by simp) rfl rfl (by decide) (by decide)
      · skip
        refine k_iconst C X at_46 rfl (v := 1) rfl ?_
        refine k_goto C X at_47 (tpc := 51) rfl ?_
        refine k_istore C X at_51 rfl (l' := #[.val (.int x0), .val (.int x1), .val (.int x2), .val (.int x3), .val (.int x4), .val (.int x5), .val (.int (x0 &&& (7))), .val (.int c2), .val (.int (0)), .val (.int (1)), .val (.int (1)), .unset, .unset, .unset, .unset, .unset, .unset, .unset, .unset, .unset, .unset, .unset, .unset, .unset, .unset, .unset, .unset, .unset, .unset]) rfl ?_
        refine k_iload C X at_53 rfl rfl ?_
        refine k_if_eq C X at_55 rfl (tpc := 62) rfl (fun _ => ?_) (fun hc => (absurd hc (by decide) : False).elim)
        refine k_iconst C X at_62 rfl (v := 0) rfl ?_
        refine k_iload C X at_63 rfl rfl ?_
        refine k_if_eq C X at_65 rfl (tpc := 72) rfl (fun hc => (absurd hc (by decide) : False).elim) (fun _ => ?_)
        refine k_iconst C X at_68 rfl (v := 1) rfl ?_
        refine k_goto C X at_69 (tpc := 73) rfl ?_
        refine k_iadd C X at_73 rfl ?_
        refine k_iload C X at_74 rfl rfl ?_
        refine k_if_eq C X at_76 rfl (tpc := 83) rfl (fun hc => (absurd hc (by decide) : False).elim) (fun _ => ?_)
        refine k_iconst C X at_79 rfl (v := 1) rfl ?_
        refine k_goto C X at_80 (tpc := 84) rfl ?_
        refine k_iadd C X at_84 rfl ?_
        refine k_istore C X at_85 rfl (l' := #[.val (.int x0), .val (.int x1), .val (.int x2), .val (.int x3), .val (.int x4), .val (.int x5), .val (.int (x0 &&& (7))), .val (.int c2), .val (.int (0)), .val (.int (1)), .val (.int (1)), .val (.int (2)), .unset, .unset, .unset, .unset, .unset, .unset, .unset, .unset, .unset, .unset, .unset, .unset, .unset, .unset, .unset, .unset, .unset]) rfl ?_
        refine k_iload C X at_87 rfl rfl ?_
        refine k_newarray C X at_89 rfl (ty := .int) rfl (hw _ (List.mem_of_getElem? (i := 0) rfl)) (by decide) (cap := 2) (by decide) (by decide) (by decide) (by decide) (vs := [(.int 0), (.int 0)]) rfl (fun T o89 X => ?_)
        refine k_astore C X at_91 rfl rfl (l' := #[.val (.int x0), .val (.int x1), .val (.int x2), .val (.int x3), .val (.int x4), .val (.int x5), .val (.int (x0 &&& (7))), .val (.int c2), .val (.int (0)), .val (.int (1)), .val (.int (1)), .val (.int (2)), .val (.ref o89), .unset, .unset, .unset, .unset, .unset, .unset, .unset, .unset, .unset, .unset, .unset, .unset, .unset, .unset, .unset, .unset]) rfl ?_
        refine k_iconst C X at_93 rfl (v := 0) rfl ?_
        refine k_istore C X at_94 rfl (l' := #[.val (.int x0), .val (.int x1), .val (.int x2), .val (.int x3), .val (.int x4), .val (.int x5), .val (.int (x0 &&& (7))), .val (.int c2), .val (.int (0)), .val (.int (1)), .val (.int (1)), .val (.int (2)), .val (.ref o89), .val (.int (0)), .unset, .unset, .unset, .unset, .unset, .unset, .unset, .unset, .unset, .unset, .unset, .unset, .unset, .unset, .unset]) rfl ?_
        refine k_iload C X at_96 rfl rfl ?_
        refine k_if_eq C X at_98 rfl (tpc := 110) rfl (fun _ => ?_) (fun hc => (absurd hc (by decide) : False).elim)
        refine k_iload C X at_110 rfl rfl ?_
        refine k_if_eq C X at_112 rfl (tpc := 124) rfl (fun hc => (absurd hc (by decide) : False).elim) (fun _ => ?_)
        refine k_aload C X at_115 rfl rfl rfl ?_
        refine k_iload C X at_117 rfl rfl ?_
        refine k_iconst C X at_119 rfl (v := 1) rfl ?_
        refine k_iastore C X at_120 rfl (ix := 0) (i := 0) rfl (by decide) (by decide) (Nat.le_of_ble_eq_true rfl) (vs' := [(.int (1)), (.int 0)]) rfl (L' := [(o89, own_ar Z .int [(.int (1)), (.int 0)])]) rfl (fun T X => ?_)
        refine k_iinc C X at_121 rfl (v := 1) rfl rfl (l' := #[.val (.int x0), .val (.int x1), .val (.int x2), .val (.int x3), .val (.int x4), .val (.int x5), .val (.int (x0 &&& (7))), .val (.int c2), .val (.int (0)), .val (.int (1)), .val (.int (1)), .val (.int (2)), .val (.ref o89), .val (.int (1)), .unset, .unset, .unset, .unset, .unset, .unset, .unset, .unset, .unset, .unset, .unset, .unset, .unset, .unset, .unset]) rfl ?_
        refine k_iload C X at_124 rfl rfl ?_
        refine k_if_eq C X at_126 rfl (tpc := 138) rfl (fun hc => (absurd hc (by decide) : False).elim) (fun _ => ?_)
        refine k_aload C X at_129 rfl rfl rfl ?_
        refine k_iload C X at_131 rfl rfl ?_
        refine k_iconst C X at_133 rfl (v := 2) rfl ?_
        refine k_iastore C X at_134 rfl (ix := 0) (i := 1) rfl (by decide) (by decide) (Nat.le_of_ble_eq_true rfl) (vs' := [(.int (1)), (.int (2))]) rfl (L' := [(o89, own_ar Z .int [(.int (1)), (.int (2))])]) rfl (fun T X => ?_)
        refine k_iinc C X at_135 rfl (v := 1) rfl rfl (l' := #[.val (.int x0), .val (.int x1), .val (.int x2), .val (.int x3), .val (.int x4), .val (.int x5), .val (.int (x0 &&& (7))), .val (.int c2), .val (.int (0)), .val (.int (1)), .val (.int (1)), .val (.int (2)), .val (.ref o89), .val (.int (2)), .unset, .unset, .unset, .unset, .unset, .unset, .unset, .unset, .unset, .unset, .unset, .unset, .unset, .unset, .unset]) rfl ?_
        refine k_new C X at_138 rfl (hw _ (List.mem_of_getElem? (i := 1) rfl)) (hw _ (List.mem_of_getElem? (i := 2) rfl)) (hw _ (List.mem_of_getElem? (i := 3) rfl)) (own_lay_FreeParameters hw) (fs := [("total", "I", (.int (0))), ("indices", "[I", .null)]) rfl (by decide) (by decide) (fun T o138 X => ?_)
        refine k_dup C X at_141 rfl rfl ?_
        refine k_iconst C X at_142 rfl (v := 3) rfl ?_
        refine k_aload C X at_143 rfl rfl rfl ?_
        refine k_init C X at_145 rfl rfl (hw _ (List.mem_of_getElem? (i := 4) rfl)) (hw _ (List.mem_of_getElem? (i := 5) rfl)) (hw _ (List.mem_of_getElem? (i := 3) rfl)) (hw _ (List.mem_of_getElem? (i := 6) rfl)) (by decide) (own_init_12 l Z a0 hw o138 o89 ([])) (W := 1) (argsL := [(.int (3)), (.ref o89)]) (rest := [(.ref o138)]) rfl rfl rfl own_pd0 rfl (Nat.le_of_eq rfl) (by decide) (by decide) (by decide) (by decide) (fun v T M hQ X => ?_)
        obtain ⟨rfl, qi, rfl⟩ := hQ
        refine k_astore C X at_148 rfl rfl (l' := #[.val (.int x0), .val (.int x1), .val (.int x2), .val (.int x3), .val (.int x4), .val (.int x5), .val (.int (x0 &&& (7))), .val (.int c2), .val (.int (0)), .val (.int (1)), .val (.int (1)), .val (.int (2)), .val (.ref o89), .val (.int (2)), .val (.ref o138), .unset, .unset, .unset, .unset, .unset, .unset, .unset, .unset, .unset, .unset, .unset, .unset, .unset, .unset]) rfl ?_
        refine k_iconst C X at_150 rfl (v := 3) rfl ?_
        refine k_newarray C X at_151 rfl (ty := .double) rfl (hw _ (List.mem_of_getElem? (i := 14) rfl)) (by decide) (cap := 3) (by decide) (by decide) (by decide) (by decide) (vs := [(.double 0), (.double 0), (.double 0)]) rfl (fun T o151 X => ?_)
        refine k_astore C X at_153 rfl rfl (l' := #[.val (.int x0), .val (.int x1), .val (.int x2), .val (.int x3), .val (.int x4), .val (.int x5), .val (.int (x0 &&& (7))), .val (.int c2), .val (.int (0)), .val (.int (1)), .val (.int (1)), .val (.int (2)), .val (.ref o89), .val (.int (2)), .val (.ref o138), .val (.ref o151), .unset, .unset, .unset, .unset, .unset, .unset, .unset, .unset, .unset, .unset, .unset, .unset, .unset]) rfl ?_
        refine k_aload C X at_155 rfl rfl rfl ?_
        refine k_iconst C X at_157 rfl (v := 0) rfl ?_
        refine k_iloadN C X at_158 rfl rfl ?_
        refine k_i2d C X at_159 rfl ?_
        refine k_dastore C X at_160 rfl (ix := 0) (i := 0) rfl (by decide) (by decide) (Nat.le_of_ble_eq_true rfl) (vs' := [(.double (FP.i2d x1)), (.double 0), (.double 0)]) rfl (L' := [(o151, own_ar Z .double [(.double (FP.i2d x1)), (.double 0), (.double 0)]), (qi, own_ar Z .int [(.int (0))]), (o138, own_ob Z "com/example/residuum/residuum/FreeParameters" [("total", "I", (.int (3))), ("indices", "[I", (.ref qi))]), (o89, own_ar Z .int [(.int (1)), (.int (2))])]) rfl (fun T X => ?_)
        refine k_aload C X at_161 rfl rfl rfl ?_
        refine k_iconst C X at_163 rfl (v := 1) rfl ?_
        refine k_iloadN C X at_164 rfl rfl ?_
        refine k_i2d C X at_165 rfl ?_
        refine k_dastore C X at_166 rfl (ix := 0) (i := 1) rfl (by decide) (by decide) (Nat.le_of_ble_eq_true rfl) (vs' := [(.double (FP.i2d x1)), (.double (FP.i2d x2)), (.double 0)]) rfl (L' := [(o151, own_ar Z .double [(.double (FP.i2d x1)), (.double (FP.i2d x2)), (.double 0)]), (qi, own_ar Z .int [(.int (0))]), (o138, own_ob Z "com/example/residuum/residuum/FreeParameters" [("total", "I", (.int (3))), ("indices", "[I", (.ref qi))]), (o89, own_ar Z .int [(.int (1)), (.int (2))])]) rfl (fun T X => ?_)
        refine k_aload C X at_167 rfl rfl rfl ?_
        refine k_iconst C X at_169 rfl (v := 2) rfl ?_
        refine k_iloadN C X at_170 rfl rfl ?_
        refine k_i2d C X at_171 rfl ?_
        refine k_dastore C X at_172 rfl (ix := 0) (i := 2) rfl (by decide) (by decide) (Nat.le_of_ble_eq_true rfl) (vs' := [(.double (FP.i2d x1)), (.double (FP.i2d x2)), (.double (FP.i2d x3))]) rfl (L' := [(o151, own_ar Z .double [(.double (FP.i2d x1)), (.double (FP.i2d x2)), (.double (FP.i2d x3))]), (qi, own_ar Z .int [(.int (0))]), (o138, own_ob Z "com/example/residuum/residuum/FreeParameters" [("total", "I", (.int (3))), ("indices", "[I", (.ref qi))]), (o89, own_ar Z .int [(.int (1)), (.int (2))])]) rfl (fun T X => ?_)
        refine k_iconst C X at_173 rfl (v := 3) rfl ?_
        refine k_newarray C X at_174 rfl (ty := .double) rfl (hw _ (List.mem_of_getElem? (i := 14) rfl)) (by decide) (cap := 3) (by decide) (by decide) (by decide) (by decide) (vs := [(.double 0), (.double 0), (.double 0)]) rfl (fun T o174 X => ?_)
        refine k_astore C X at_176 rfl rfl (l' := #[.val (.int x0), .val (.int x1), .val (.int x2), .val (.int x3), .val (.int x4), .val (.int x5), .val (.int (x0 &&& (7))), .val (.int c2), .val (.int (0)), .val (.int (1)), .val (.int (1)), .val (.int (2)), .val (.ref o89), .val (.int (2)), .val (.ref o138), .val (.ref o151), .val (.ref o174), .unset, .unset, .unset, .unset, .unset, .unset, .unset, .unset, .unset, .unset, .unset, .unset]) rfl ?_
        refine k_aload C X at_178 rfl rfl rfl ?_
        refine k_iconst C X at_180 rfl (v := 0) rfl ?_
        refine k_iload C X at_181 rfl rfl ?_
        refine k_i2d C X at_183 rfl ?_
        refine k_dastore C X at_184 rfl (ix := 0) (i := 0) rfl (by decide) (by decide) (Nat.le_of_ble_eq_true rfl) (vs' := [(.double (FP.i2d x4)), (.double 0), (.double 0)]) rfl (L' := [(o174, own_ar Z .double [(.double (FP.i2d x4)), (.double 0), (.double 0)]), (o151, own_ar Z .double [(.double (FP.i2d x1)), (.double (FP.i2d x2)), (.double (FP.i2d x3))]), (qi, own_ar Z .int [(.int (0))]), (o138, own_ob Z "com/example/residuum/residuum/FreeParameters" [("total", "I", (.int (3))), ("indices", "[I", (.ref qi))]), (o89, own_ar Z .int [(.int (1)), (.int (2))])]) rfl (fun T X => ?_)
        refine k_aload C X at_185 rfl rfl rfl ?_
        refine k_iconst C X at_187 rfl (v := 1) rfl ?_
        refine k_iload C X at_188 rfl rfl ?_
        refine k_i2d C X at_190 rfl ?_
        refine k_dastore C X at_191 rfl (ix := 0) (i := 1) rfl (by decide) (by decide) (Nat.le_of_ble_eq_true rfl) (vs' := [(.double (FP.i2d x4)), (.double (FP.i2d x5)), (.double 0)]) rfl (L' := [(o174, own_ar Z .double [(.double (FP.i2d x4)), (.double (FP.i2d x5)), (.double 0)]), (o151, own_ar Z .double [(.double (FP.i2d x1)), (.double (FP.i2d x2)), (.double (FP.i2d x3))]), (qi, own_ar Z .int [(.int (0))]), (o138, own_ob Z "com/example/residuum/residuum/FreeParameters" [("total", "I", (.int (3))), ("indices", "[I", (.ref qi))]), (o89, own_ar Z .int [(.int (1)), (.int (2))])]) rfl (fun T X => ?_)
        refine k_aload C X at_192 rfl rfl rfl ?_
        refine k_iconst C X at_194 rfl (v := 2) rfl ?_
        refine k_iload C X at_195 rfl rfl ?_
        refine k_i2d C X at_197 rfl ?_
        refine k_dastore C X at_198 rfl (ix := 0) (i := 2) rfl (by decide) (by decide) (Nat.le_of_ble_eq_true rfl) (vs' := [(.double (FP.i2d x4)), (.double (FP.i2d x5)), (.double (FP.i2d c2))]) rfl (L' := [(o174, own_ar Z .double [(.double (FP.i2d x4)), (.double (FP.i2d x5)), (.double (FP.i2d c2))]), (o151, own_ar Z .double [(.double (FP.i2d x1)), (.double (FP.i2d x2)), (.double (FP.i2d x3))]), (qi, own_ar Z .int [(.int (0))]), (o138, own_ob Z "com/example/residuum/residuum/FreeParameters" [("total", "I", (.int (3))), ("indices", "[I", (.ref qi))]), (o89, own_ar Z .int [(.int (1)), (.int (2))])]) rfl (fun T X => ?_)
        refine k_iconst C X at_199 rfl (v := 3) rfl ?_
        refine k_iload C X at_200 rfl rfl ?_
        refine k_isub C X at_202 rfl ?_
        refine k_istore C X at_203 rfl (l' := #[.val (.int x0), .val (.int x1), .val (.int x2), .val (.int x3), .val (.int x4), .val (.int x5), .val (.int (x0 &&& (7))), .val (.int c2), .val (.int (0)), .val (.int (1)), .val (.int (1)), .val (.int (2)), .val (.ref o89), .val (.int (2)), .val (.ref o138), .val (.ref o151), .val (.ref o174), .val (.int (1)), .unset, .unset, .unset, .unset, .unset, .unset, .unset, .unset, .unset, .unset, .unset]) rfl ?_
        refine k_iload C X at_205 rfl rfl ?_
        refine k_newarray C X at_207 rfl (ty := .double) rfl (hw _ (List.mem_of_getElem? (i := 14) rfl)) (by decide) (cap := 1) (by decide) (by decide) (by decide) (by decide) (vs := [(.double 0)]) rfl (fun T o207 X => ?_)
        refine k_astore C X at_209 rfl rfl (l' := #[.val (.int x0), .val (.int x1), .val (.int x2), .val (.int x3), .val (.int x4), .val (.int x5), .val (.int (x0 &&& (7))), .val (.int c2), .val (.int (0)), .val (.int (1)), .val (.int (1)), .val (.int (2)), .val (.ref o89), .val (.int (2)), .val (.ref o138), .val (.ref o151), .val (.ref o174), .val (.int (1)), .val (.ref o207), .unset, .unset, .unset, .unset, .unset, .unset, .unset, .unset, .unset, .unset]) rfl ?_
        refine k_iload C X at_211 rfl rfl ?_
        refine k_if_le C X at_213 rfl (tpc := 224) rfl (fun hc => (absurd hc (by decide) : False).elim) (fun _ => ?_)
        refine k_aload C X at_216 rfl rfl rfl ?_
        refine k_iconst C X at_218 rfl (v := 0) rfl ?_
        refine k_aload C X at_219 rfl rfl rfl ?_
        refine k_iconst C X at_221 rfl (v := 0) rfl ?_
        refine k_daload C X at_222 rfl (ix := 1) (i := 0) rfl (by decide) (by decide) rfl ?_
        refine k_dastore C X at_223 rfl (ix := 0) (i := 0) rfl (by decide) (by decide) (Nat.le_of_ble_eq_true rfl) (vs' := [(.double (FP.i2d x4))]) rfl (L' := [(o207, own_ar Z .double [(.double (FP.i2d x4))]), (o174, own_ar Z .double [(.double (FP.i2d x4)), (.double (FP.i2d x5)), (.double (FP.i2d c2))]), (o151, own_ar Z .double [(.double (FP.i2d x1)), (.double (FP.i2d x2)), (.double (FP.i2d x3))]), (qi, own_ar Z .int [(.int (0))]), (o138, own_ob Z "com/example/residuum/residuum/FreeParameters" [("total", "I", (.int (3))), ("indices", "[I", (.ref qi))]), (o89, own_ar Z .int [(.int (1)), (.int (2))])]) rfl (fun T X => ?_)
        refine k_iload C X at_224 rfl rfl ?_
        refine k_iconst C X at_226 rfl (v := 1) rfl ?_
        refine k_icmp_le C X at_227 rfl (tpc := 238) rfl (fun _ => ?_) (fun hc => (absurd hc (by decide) : False).elim)
        refine k_iload C X at_238 rfl rfl ?_
        refine k_iconst C X at_240 rfl (v := 2) rfl ?_
        refine k_icmp_le C X at_241 rfl (tpc := 252) rfl (fun _ => ?_) (fun hc => (absurd hc (by decide) : False).elim)
        refine k_aload C X at_252 rfl rfl rfl ?_
        refine k_aload C X at_254 rfl rfl rfl ?_
        refine k_aload C X at_256 rfl rfl rfl ?_
        refine k_virtual C X at_258 rfl (hw _ (List.mem_of_getElem? (i := 15) rfl)) (hw _ (List.mem_of_getElem? (i := 16) rfl)) (hw _ (List.mem_of_getElem? (i := 3) rfl)) (hw _ (List.mem_of_getElem? (i := 19) rfl)) (hw _ (List.mem_of_getElem? (i := 18) rfl)) (hw _ (List.mem_of_getElem? (i := 17) rfl)) (by decide) (own_nf C.2.2.2.1 (hw _ (List.mem_of_getElem? (i := 18) rfl))) (own_eL (ix := 4) rfl) (own_moved_12 l Z a0 hw o138 o151 o207 o174 qi [(.double (FP.i2d x4)), (.double (FP.i2d x5)), (.double (FP.i2d c2))] (FP.i2d x1) (FP.i2d x2) (FP.i2d x3) (FP.i2d x4) (own_dd _ _) ([(o89, own_ar Z .int [(.int (1)), (.int (2))])])) (W := 0) (argsL := [(.ref o151), (.ref o207)]) (rest := []) rfl rfl rfl own_pd1 rfl (Nat.le_of_eq rfl) (by decide) (by decide) (by decide) (by decide) (fun v T M hQ X => ?_)
        obtain ⟨rr, rfl, rfl⟩ := hQ
        refine k_astore C X at_261 rfl rfl (l' := #[.val (.int x0), .val (.int x1), .val (.int x2), .val (.int x3), .val (.int x4), .val (.int x5), .val (.int (x0 &&& (7))), .val (.int c2), .val (.int (0)), .val (.int (1)), .val (.int (1)), .val (.int (2)), .val (.ref o89), .val (.int (2)), .val (.ref o138), .val (.ref o151), .val (.ref o174), .val (.int (1)), .val (.ref o207), .val (.ref rr), .unset, .unset, .unset, .unset, .unset, .unset, .unset, .unset, .unset]) rfl ?_
        refine k_aload C X at_263 rfl rfl rfl ?_
        refine k_aload C X at_265 rfl rfl rfl ?_
        have hne := X.heap.ne (i := 0) (j := 3) rfl rfl (by decide)
        refine k_acmp_eq C X at_267 rfl (tpc := 277) rfl rfl rfl (fun hc => (hne (Value.ref.inj hc) : False).elim) (fun _ => ?_)
        refine k_aload C X at_270 rfl rfl rfl ?_
        refine k_arraylength C X at_272 rfl (ix := 0) rfl (z := (3)) rfl ?_
        refine k_iconst C X at_273 rfl (v := 3) rfl ?_
        refine k_icmp_eq C X at_274 rfl (tpc := 279) rfl (fun _ => ?_) (fun hc => (absurd hc (by decide) : False).elim)
        refine k_aload C X at_279 rfl rfl rfl ?_
        refine k_iconst C X at_281 rfl (v := 0) rfl ?_
        refine k_daload C X at_282 rfl (ix := 3) (i := 0) rfl (by decide) (by decide) rfl ?_
        refine k_iloadN C X at_283 rfl rfl ?_
        refine k_i2d C X at_284 rfl ?_
        refine k_dcmpl C X at_285 rfl ?_
        refine k_ifdl_ne C X at_286 rfl (tpc := 309) rfl (fun hc => (hc (own_eq (Jvm.FP.Core.i2d_int _) (Jvm.FP.Core.i2d_int _) rfl) : False).elim) (fun _ => ?_)
        refine k_aload C X at_289 rfl rfl rfl ?_
        refine k_iconst C X at_291 rfl (v := 1) rfl ?_
        refine k_daload C X at_292 rfl (ix := 3) (i := 1) rfl (by decide) (by decide) rfl ?_
        refine k_iloadN C X at_293 rfl rfl ?_
        refine k_i2d C X at_294 rfl ?_
        refine k_dcmpl C X at_295 rfl ?_
        refine k_ifdl_ne C X at_296 rfl (tpc := 309) rfl (fun hc => (hc (own_eq (Jvm.FP.Core.i2d_int _) (Jvm.FP.Core.i2d_int _) rfl) : False).elim) (fun _ => ?_)
        refine k_aload C X at_299 rfl rfl rfl ?_
        refine k_iconst C X at_301 rfl (v := 2) rfl ?_
        refine k_daload C X at_302 rfl (ix := 3) (i := 2) rfl (by decide) (by decide) rfl ?_
        refine k_iloadN C X at_303 rfl rfl ?_
        refine k_i2d C X at_304 rfl ?_
        refine k_dcmpl C X at_305 rfl ?_
        refine k_ifdl_eq C X at_306 rfl (tpc := 311) rfl (fun _ => ?_) (fun hc => (hc (own_eq (Jvm.FP.Core.i2d_int _) (Jvm.FP.Core.i2d_int _) rfl) : False).elim)
        refine k_iconst C X at_311 rfl (v := 0) rfl ?_
        refine k_istore C X at_312 rfl (l' := #[.val (.int x0), .val (.int x1), .val (.int x2), .val (.int x3), .val (.int x4), .val (.int x5), .val (.int (x0 &&& (7))), .val (.int c2), .val (.int (0)), .val (.int (1)), .val (.int (1)), .val (.int (2)), .val (.ref o89), .val (.int (2)), .val (.ref o138), .val (.ref o151), .val (.ref o174), .val (.int (1)), .val (.ref o207), .val (.ref rr), .val (.int (0)), .unset, .unset, .unset, .unset, .unset, .unset, .unset, .unset]) rfl ?_
        refine k_iload C X at_314 rfl rfl ?_
        refine k_if_eq C X at_316 rfl (tpc := 323) rfl (fun _ => ?_) (fun hc => (absurd hc (by decide) : False).elim)
        refine k_iconst C X at_323 rfl (v := 1) rfl ?_
        refine k_istore C X at_324 rfl (l' := #[.val (.int x0), .val (.int x1), .val (.int x2), .val (.int x3), .val (.int x4), .val (.int x5), .val (.int (x0 &&& (7))), .val (.int c2), .val (.int (0)), .val (.int (1)), .val (.int (1)), .val (.int (2)), .val (.ref o89), .val (.int (2)), .val (.ref o138), .val (.ref o151), .val (.ref o174), .val (.int (1)), .val (.ref o207), .val (.ref rr), .val (.int (0)), .val (.int (1)), .unset, .unset, .unset, .unset, .unset, .unset, .unset]) rfl ?_
        refine k_iload C X at_326 rfl rfl ?_
        refine k_if_eq C X at_328 rfl (tpc := 335) rfl (fun _ => ?_) (fun hc => (absurd hc (by decide) : False).elim)
        refine k_iconst C X at_335 rfl (v := 1) rfl ?_
        refine k_iload C X at_336 rfl rfl ?_
        refine k_if_eq C X at_338 rfl (tpc := 345) rfl (fun hc => (absurd hc (by decide) : False).elim) (fun _ => ?_)
        refine k_iconst C X at_341 rfl (v := 0) rfl ?_
        refine k_goto C X at_342 (tpc := 346) rfl ?_
        refine k_iadd C X at_346 rfl ?_
        refine k_istore C X at_347 rfl (l' := #[.val (.int x0), .val (.int x1), .val (.int x2), .val (.int x3), .val (.int x4), .val (.int x5), .val (.int (x0 &&& (7))), .val (.int c2), .val (.int (0)), .val (.int (1)), .val (.int (1)), .val (.int (2)), .val (.ref o89), .val (.int (2)), .val (.ref o138), .val (.ref o151), .val (.ref o174), .val (.int (1)), .val (.ref o207), .val (.ref rr), .val (.int (0)), .val (.int (1)), .val (.int (1)), .unset, .unset, .unset, .unset, .unset, .unset]) rfl ?_
        refine k_iload C X at_349 rfl rfl ?_
        refine k_if_eq C X at_351 rfl (tpc := 359) rfl (fun _ => ?_) (fun hc => (absurd hc (by decide) : False).elim)
        refine k_iloadN C X at_359 rfl rfl ?_
        refine k_i2d C X at_360 rfl ?_
        refine k_aload C X at_361 rfl rfl rfl ?_
        refine k_iload C X at_363 rfl rfl ?_
        refine k_daload C X at_365 rfl (ix := 2) (i := 0) rfl (by decide) (by decide) rfl ?_
        refine k_daddE C X at_366 rfl (own_dd _ _) ?_
        refine k_dstore C X at_367 rfl (l' := #[.val (.int x0), .val (.int x1), .val (.int x2), .val (.int x3), .val (.int x4), .val (.int x5), .val (.int (x0 &&& (7))), .val (.int c2), .val (.int (0)), .val (.int (1)), .val (.int (1)), .val (.int (2)), .val (.ref o89), .val (.int (2)), .val (.ref o138), .val (.ref o151), .val (.ref o174), .val (.int (1)), .val (.ref o207), .val (.ref rr), .val (.int (0)), .val (.int (1)), .val (.int (1)), .val (.double (FP.dadd (FP.i2d x1) (FP.i2d x4))), .second, .unset, .unset, .unset, .unset]) rfl ?_
        refine k_iload C X at_369 rfl rfl ?_
        refine k_if_eq C X at_371 rfl (tpc := 379) rfl (fun hc => (absurd hc (by decide) : False).elim) (fun _ => ?_)
        refine k_iloadN C X at_374 rfl rfl ?_
        refine k_i2d C X at_375 rfl ?_
        refine k_goto C X at_376 (tpc := 387) rfl ?_
        refine k_dstore C X at_387 rfl (l' := #[.val (.int x0), .val (.int x1), .val (.int x2), .val (.int x3), .val (.int x4), .val (.int x5), .val (.int (x0 &&& (7))), .val (.int c2), .val (.int (0)), .val (.int (1)), .val (.int (1)), .val (.int (2)), .val (.ref o89), .val (.int (2)), .val (.ref o138), .val (.ref o151), .val (.ref o174), .val (.int (1)), .val (.ref o207), .val (.ref rr), .val (.int (0)), .val (.int (1)), .val (.int (1)), .val (.double (FP.dadd (FP.i2d x1) (FP.i2d x4))), .second, .val (.double (FP.i2d x2)), .second, .unset, .unset]) rfl ?_
        refine k_iload C X at_389 rfl rfl ?_
        refine k_if_eq C X at_391 rfl (tpc := 399) rfl (fun hc => (absurd hc (by decide) : False).elim) (fun _ => ?_)
        refine k_iloadN C X at_394 rfl rfl ?_
        refine k_i2d C X at_395 rfl ?_
        refine k_goto C X at_396 (tpc := 407) rfl ?_
        refine k_dstore C X at_407 rfl (l' := #[.val (.int x0), .val (.int x1), .val (.int x2), .val (.int x3), .val (.int x4), .val (.int x5), .val (.int (x0 &&& (7))), .val (.int c2), .val (.int (0)), .val (.int (1)), .val (.int (1)), .val (.int (2)), .val (.ref o89), .val (.int (2)), .val (.ref o138), .val (.ref o151), .val (.ref o174), .val (.int (1)), .val (.ref o207), .val (.ref rr), .val (.int (0)), .val (.int (1)), .val (.int (1)), .val (.double (FP.dadd (FP.i2d x1) (FP.i2d x4))), .second, .val (.double (FP.i2d x2)), .second, .val (.double (FP.i2d x3)), .second]) rfl ?_
        refine k_aload C X at_409 rfl rfl rfl ?_
        refine k_iconst C X at_411 rfl (v := 0) rfl ?_
        refine k_daload C X at_412 rfl (ix := 0) (i := 0) rfl (by decide) (by decide) rfl ?_
        refine k_dload C X at_413 rfl rfl ?_
        refine k_dcmpl C X at_415 rfl ?_
        refine k_ifdl_ne C X at_416 rfl (tpc := 443) rfl (fun hc => (hc (own_self (own_dd _ _)) : False).elim) (fun _ => ?_)
        refine k_aload C X at_419 rfl rfl rfl ?_
        refine k_iconst C X at_421 rfl (v := 1) rfl ?_
        refine k_daload C X at_422 rfl (ix := 0) (i := 1) rfl (by decide) (by decide) rfl ?_
        refine k_dload C X at_423 rfl rfl ?_
        refine k_dcmpl C X at_425 rfl ?_
        refine k_ifdl_ne C X at_426 rfl (tpc := 443) rfl (fun hc => (hc (own_self (own_nn (Jvm.FP.Core.i2d_int _))) : False).elim) (fun _ => ?_)
        refine k_aload C X at_429 rfl rfl rfl ?_
        refine k_iconst C X at_431 rfl (v := 2) rfl ?_
        refine k_daload C X at_432 rfl (ix := 0) (i := 2) rfl (by decide) (by decide) rfl ?_
        refine k_dload C X at_433 rfl rfl ?_
        refine k_dcmpl C X at_435 rfl ?_
        refine k_ifdl_ne C X at_436 rfl (tpc := 443) rfl (fun hc => (hc (own_self (own_nn (Jvm.FP.Core.i2d_int _))) : False).elim) (fun _ => ?_)
        refine k_iconst C X at_439 rfl (v := 1) rfl ?_
        refine k_goto C X at_440 (tpc := 444) rfl ?_
        exact k_ireturn C X at_444 (by simp) rfl rfl (by decide) (by decide)
  · skip
    refine k_iconst C X at_18 rfl (v := 1) rfl ?_
    refine k_goto C X at_19 (tpc := 23) rfl ?_
    refine k_istore C X at_23 rfl (l' := #[.val (.int x0), .val (.int x1), .val (.int x2), .val (.int x3), .val (.int x4), .val (.int x5), .val (.int (x0 &&& (7))), .val (.int c2), .val (.int (1)), .unset, .unset, .unset, .unset, .unset, .unset, .unset, .unset, .unset, .unset, .unset, .unset, .unset, .unset, .unset, .unset, .unset, .unset, .unset, .unset]) rfl ?_
    refine k_iload C X at_25 rfl rfl ?_
    refine k_iconst C X at_27 rfl (v := 2) rfl ?_
    refine k_iand C X at_28 rfl ?_
    refine k_if_eq C X at_29 rfl (tpc := 36) rfl (fun h29 => ?_) (fun h29 => ?_)
    · skip
      refine k_iconst C X at_36 rfl (v := 0) rfl ?_
      refine k_istore C X at_37 rfl (l' := #[.val (.int x0), .val (.int x1), .val (.int x2), .val (.int x3), .val (.int x4), .val (.int x5), .val (.int (x0 &&& (7))), .val (.int c2), .val (.int (1)), .val (.int (0)), .unset, .unset, .unset, .unset, .unset, .unset, .unset, .unset, .unset, .unset, .unset, .unset, .unset, .unset, .unset, .unset, .unset, .unset, .unset]) rfl ?_
      refine k_iload C X at_39 rfl rfl ?_
      refine k_iconst C X at_41 rfl (v := 4) rfl ?_
      refine k_iand C X at_42 rfl ?_
      refine k_if_eq C X at_43 rfl (tpc := 50) rfl (fun h43 => ?_) (fun h43 => ?_)
      · skip
        refine k_iconst C X at_50 rfl (v := 0) rfl ?_
        refine k_istore C X at_51 rfl (l' := #[.val (.int x0), .val (.int x1), .val (.int x2), .val (.int x3), .val (.int x4), .val (.int x5), .val (.int (x0 &&& (7))), .val (.int c2), .val (.int (1)), .val (.int (0)), .val (.int (0)), .unset, .unset, .unset, .unset, .unset, .unset, .unset, .unset, .unset, .unset, .unset, .unset, .unset, .unset, .unset, .unset, .unset, .unset]) rfl ?_
        refine k_iload C X at_53 rfl rfl ?_
        refine k_if_eq C X at_55 rfl (tpc := 62) rfl (fun hc => (absurd hc (by decide) : False).elim) (fun _ => ?_)
        refine k_iconst C X at_58 rfl (v := 1) rfl ?_
        refine k_goto C X at_59 (tpc := 63) rfl ?_
        refine k_iload C X at_63 rfl rfl ?_
        refine k_if_eq C X at_65 rfl (tpc := 72) rfl (fun _ => ?_) (fun hc => (absurd hc (by decide) : False).elim)
        refine k_iconst C X at_72 rfl (v := 0) rfl ?_
        refine k_iadd C X at_73 rfl ?_
        refine k_iload C X at_74 rfl rfl ?_
        refine k_if_eq C X at_76 rfl (tpc := 83) rfl (fun _ => ?_) (fun hc => (absurd hc (by decide) : False).elim)
        refine k_iconst C X at_83 rfl (v := 0) rfl ?_
        refine k_iadd C X at_84 rfl ?_
        refine k_istore C X at_85 rfl (l' := #[.val (.int x0), .val (.int x1), .val (.int x2), .val (.int x3), .val (.int x4), .val (.int x5), .val (.int (x0 &&& (7))), .val (.int c2), .val (.int (1)), .val (.int (0)), .val (.int (0)), .val (.int (1)), .unset, .unset, .unset, .unset, .unset, .unset, .unset, .unset, .unset, .unset, .unset, .unset, .unset, .unset, .unset, .unset, .unset]) rfl ?_
        refine k_iload C X at_87 rfl rfl ?_
        refine k_newarray C X at_89 rfl (ty := .int) rfl (hw _ (List.mem_of_getElem? (i := 0) rfl)) (by decide) (cap := 1) (by decide) (by decide) (by decide) (by decide) (vs := [(.int 0)]) rfl (fun T o89 X => ?_)
        refine k_astore C X at_91 rfl rfl (l' := #[.val (.int x0), .val (.int x1), .val (.int x2), .val (.int x3), .val (.int x4), .val (.int x5), .val (.int (x0 &&& (7))), .val (.int c2), .val (.int (1)), .val (.int (0)), .val (.int (0)), .val (.int (1)), .val (.ref o89), .unset, .unset, .unset, .unset, .unset, .unset, .unset, .unset, .unset, .unset, .unset, .unset, .unset, .unset, .unset, .unset]) rfl ?_
        refine k_iconst C X at_93 rfl (v := 0) rfl ?_
        refine k_istore C X at_94 rfl (l' := #[.val (.int x0), .val (.int x1), .val (.int x2), .val (.int x3), .val (.int x4), .val (.int x5), .val (.int (x0 &&& (7))), .val (.int c2), .val (.int (1)), .val (.int (0)), .val (.int (0)), .val (.int (1)), .val (.ref o89), .val (.int (0)), .unset, .unset, .unset, .unset, .unset, .unset, .unset, .unset, .unset, .unset, .unset, .unset, .unset, .unset, .unset]) rfl ?_
        refine k_iload C X at_96 rfl rfl ?_
        refine k_if_eq C X at_98 rfl (tpc := 110) rfl (fun hc => (absurd hc (by decide) : False).elim) (fun _ => ?_)
        refine k_aload C X at_101 rfl rfl rfl ?_
        refine k_iload C X at_103 rfl rfl ?_
        refine k_iconst C X at_105 rfl (v := 0) rfl ?_
        refine k_iastore C X at_106 rfl (ix := 0) (i := 0) rfl (by decide) (by decide) (Nat.le_of_ble_eq_true rfl) (vs' := [(.int (0))]) rfl (L' := [(o89, own_ar Z .int [(.int (0))])]) rfl (fun T X => ?_)
        refine k_iinc C X at_107 rfl (v := 1) rfl rfl (l' := #[.val (.int x0), .val (.int x1), .val (.int x2), .val (.int x3), .val (.int x4), .val (.int x5), .val (.int (x0 &&& (7))), .val (.int c2), .val (.int (1)), .val (.int (0)), .val (.int (0)), .val (.int (1)), .val (.ref o89), .val (.int (1)), .unset, .unset, .unset, .unset, .unset, .unset, .unset, .unset, .unset, .unset, .unset, .unset, .unset, .unset, .unset]) rfl ?_
        refine k_iload C X at_110 rfl rfl ?_
        refine k_if_eq C X at_112 rfl (tpc := 124) rfl (fun _ => ?_) (fun hc => (absurd hc (by decide) : False).elim)
        refine k_iload C X at_124 rfl rfl ?_
        refine k_if_eq C X at_126 rfl (tpc := 138) rfl (fun _ => ?_) (fun hc => (absurd hc (by decide) : False).elim)
        refine k_new C X at_138 rfl (hw _ (List.mem_of_getElem? (i := 1) rfl)) (hw _ (List.mem_of_getElem? (i := 2) rfl)) (hw _ (List.mem_of_getElem? (i := 3) rfl)) (own_lay_FreeParameters hw) (fs := [("total", "I", (.int (0))), ("indices", "[I", .null)]) rfl (by decide) (by decide) (fun T o138 X => ?_)
        refine k_dup C X at_141 rfl rfl ?_
        refine k_iconst C X at_142 rfl (v := 3) rfl ?_
        refine k_aload C X at_143 rfl rfl rfl ?_
        refine k_init C X at_145 rfl rfl (hw _ (List.mem_of_getElem? (i := 4) rfl)) (hw _ (List.mem_of_getElem? (i := 5) rfl)) (hw _ (List.mem_of_getElem? (i := 3) rfl)) (hw _ (List.mem_of_getElem? (i := 6) rfl)) (by decide) (own_init_0 l Z a0 hw o138 o89 ([])) (W := 1) (argsL := [(.int (3)), (.ref o89)]) (rest := [(.ref o138)]) rfl rfl rfl own_pd0 rfl (Nat.le_of_eq rfl) (by decide) (by decide) (by decide) (by decide) (fun v T M hQ X => ?_)
        obtain ⟨rfl, qi, rfl⟩ := hQ
        refine k_astore C X at_148 rfl rfl (l' := #[.val (.int x0), .val (.int x1), .val (.int x2), .val (.int x3), .val (.int x4), .val (.int x5), .val (.int (x0 &&& (7))), .val (.int c2), .val (.int (1)), .val (.int (0)), .val (.int (0)), .val (.int (1)), .val (.ref o89), .val (.int (1)), .val (.ref o138), .unset, .unset, .unset, .unset, .unset, .unset, .unset, .unset, .unset, .unset, .unset, .unset, .unset, .unset]) rfl ?_
        refine k_iconst C X at_150 rfl (v := 3) rfl ?_
        refine k_newarray C X at_151 rfl (ty := .double) rfl (hw _ (List.mem_of_getElem? (i := 14) rfl)) (by decide) (cap := 3) (by decide) (by decide) (by decide) (by decide) (vs := [(.double 0), (.double 0), (.double 0)]) rfl (fun T o151 X => ?_)
        refine k_astore C X at_153 rfl rfl (l' := #[.val (.int x0), .val (.int x1), .val (.int x2), .val (.int x3), .val (.int x4), .val (.int x5), .val (.int (x0 &&& (7))), .val (.int c2), .val (.int (1)), .val (.int (0)), .val (.int (0)), .val (.int (1)), .val (.ref o89), .val (.int (1)), .val (.ref o138), .val (.ref o151), .unset, .unset, .unset, .unset, .unset, .unset, .unset, .unset, .unset, .unset, .unset, .unset, .unset]) rfl ?_
        refine k_aload C X at_155 rfl rfl rfl ?_
        refine k_iconst C X at_157 rfl (v := 0) rfl ?_
        refine k_iloadN C X at_158 rfl rfl ?_
        refine k_i2d C X at_159 rfl ?_
        refine k_dastore C X at_160 rfl (ix := 0) (i := 0) rfl (by decide) (by decide) (Nat.le_of_ble_eq_true rfl) (vs' := [(.double (FP.i2d x1)), (.double 0), (.double 0)]) rfl (L' := [(o151, own_ar Z .double [(.double (FP.i2d x1)), (.double 0), (.double 0)]), (qi, own_ar Z .int [(.int (1)), (.int (2))]), (o138, own_ob Z "com/example/residuum/residuum/FreeParameters" [("total", "I", (.int (3))), ("indices", "[I", (.ref qi))]), (o89, own_ar Z .int [(.int (0))])]) rfl (fun T X => ?_)
        refine k_aload C X at_161 rfl rfl rfl ?_
        refine k_iconst C X at_163 rfl (v := 1) rfl ?_
        refine k_iloadN C X at_164 rfl rfl ?_
        refine k_i2d C X at_165 rfl ?_
        refine k_dastore C X at_166 rfl (ix := 0) (i := 1) rfl (by decide) (by decide) (Nat.le_of_ble_eq_true rfl) (vs' := [(.double (FP.i2d x1)), (.double (FP.i2d x2)), (.double 0)]) rfl (L' := [(o151, own_ar Z .double [(.double (FP.i2d x1)), (.double (FP.i2d x2)), (.double 0)]), (qi, own_ar Z .int [(.int (1)), (.int (2))]), (o138, own_ob Z "com/example/residuum/residuum/FreeParameters" [("total", "I", (.int (3))), ("indices", "[I", (.ref qi))]), (o89, own_ar Z .int [(.int (0))])]) rfl (fun T X => ?_)
        refine k_aload C X at_167 rfl rfl rfl ?_
        refine k_iconst C X at_169 rfl (v := 2) rfl ?_
        refine k_iloadN C X at_170 rfl rfl ?_
        refine k_i2d C X at_171 rfl ?_
        refine k_dastore C X at_172 rfl (ix := 0) (i := 2) rfl (by decide) (by decide) (Nat.le_of_ble_eq_true rfl) (vs' := [(.double (FP.i2d x1)), (.double (FP.i2d x2)), (.double (FP.i2d x3))]) rfl (L' := [(o151, own_ar Z .double [(.double (FP.i2d x1)), (.double (FP.i2d x2)), (.double (FP.i2d x3))]), (qi, own_ar Z .int [(.int (1)), (.int (2))]), (o138, own_ob Z "com/example/residuum/residuum/FreeParameters" [("total", "I", (.int (3))), ("indices", "[I", (.ref qi))]), (o89, own_ar Z .int [(.int (0))])]) rfl (fun T X => ?_)
        refine k_iconst C X at_173 rfl (v := 3) rfl ?_
        refine k_newarray C X at_174 rfl (ty := .double) rfl (hw _ (List.mem_of_getElem? (i := 14) rfl)) (by decide) (cap := 3) (by decide) (by decide) (by decide) (by decide) (vs := [(.double 0), (.double 0), (.double 0)]) rfl (fun T o174 X => ?_)
        refine k_astore C X at_176 rfl rfl (l' := #[.val (.int x0), .val (.int x1), .val (.int x2), .val (.int x3), .val (.int x4), .val (.int x5), .val (.int (x0 &&& (7))), .val (.int c2), .val (.int (1)), .val (.int (0)), .val (.int (0)), .val (.int (1)), .val (.ref o89), .val (.int (1)), .val (.ref o138), .val (.ref o151), .val (.ref o174), .unset, .unset, .unset, .unset, .unset, .unset, .unset, .unset, .unset, .unset, .unset, .unset]) rfl ?_
        refine k_aload C X at_178 rfl rfl rfl ?_
        refine k_iconst C X at_180 rfl (v := 0) rfl ?_
        refine k_iload C X at_181 rfl rfl ?_
        refine k_i2d C X at_183 rfl ?_
        refine k_dastore C X at_184 rfl (ix := 0) (i := 0) rfl (by decide) (by decide) (Nat.le_of_ble_eq_true rfl) (vs' := [(.double (FP.i2d x4)), (.double 0), (.double 0)]) rfl (L' := [(o174, own_ar Z .double [(.double (FP.i2d x4)), (.double 0), (.double 0)]), (o151, own_ar Z .double [(.double (FP.i2d x1)), (.double (FP.i2d x2)), (.double (FP.i2d x3))]), (qi, own_ar Z .int [(.int (1)), (.int (2))]), (o138, own_ob Z "com/example/residuum/residuum/FreeParameters" [("total", "I", (.int (3))), ("indices", "[I", (.ref qi))]), (o89, own_ar Z .int [(.int (0))])]) rfl (fun T X => ?_)
        refine k_aload C X at_185 rfl rfl rfl ?_
        refine k_iconst C X at_187 rfl (v := 1) rfl ?_
        refine k_iload C X at_188 rfl rfl ?_
        refine k_i2d C X at_190 rfl ?_
        refine k_dastore C X at_191 rfl (ix := 0) (i := 1) rfl (by decide) (by decide) (Nat.le_of_ble_eq_true rfl) (vs' := [(.double (FP.i2d x4)), (.double (FP.i2d x5)), (.double 0)]) rfl (L' := [(o174, own_ar Z .double [(.double (FP.i2d x4)), (.double (FP.i2d x5)), (.double 0)]), (o151, own_ar Z .double [(.double (FP.i2d x1)), (.double (FP.i2d x2)), (.double (FP.i2d x3))]), (qi, own_ar Z .int [(.int (1)), (.int (2))]), (o138, own_ob Z "com/example/residuum/residuum/FreeParameters" [("total", "I", (.int (3))), ("indices", "[I", (.ref qi))]), (o89, own_ar Z .int [(.int (0))])]) rfl (fun T X => ?_)
        refine k_aload C X at_192 rfl rfl rfl ?_
        refine k_iconst C X at_194 rfl (v := 2) rfl ?_
        refine k_iload C X at_195 rfl rfl ?_
        refine k_i2d C X at_197 rfl ?_
        refine k_dastore C X at_198 rfl (ix := 0) (i := 2) rfl (by decide) (by decide) (Nat.le_of_ble_eq_true rfl) (vs' := [(.double (FP.i2d x4)), (.double (FP.i2d x5)), (.double (FP.i2d c2))]) rfl (L' := [(o174, own_ar Z .double [(.double (FP.i2d x4)), (.double (FP.i2d x5)), (.double (FP.i2d c2))]), (o151, own_ar Z .double [(.double (FP.i2d x1)), (.double (FP.i2d x2)), (.double (FP.i2d x3))]), (qi, own_ar Z .int [(.int (1)), (.int (2))]), (o138, own_ob Z "com/example/residuum/residuum/FreeParameters" [("total", "I", (.int (3))), ("indices", "[I", (.ref qi))]), (o89, own_ar Z .int [(.int (0))])]) rfl (fun T X => ?_)
        refine k_iconst C X at_199 rfl (v := 3) rfl ?_
        refine k_iload C X at_200 rfl rfl ?_
        refine k_isub C X at_202 rfl ?_
        refine k_istore C X at_203 rfl (l' := #[.val (.int x0), .val (.int x1), .val (.int x2), .val (.int x3), .val (.int x4), .val (.int x5), .val (.int (x0 &&& (7))), .val (.int c2), .val (.int (1)), .val (.int (0)), .val (.int (0)), .val (.int (1)), .val (.ref o89), .val (.int (1)), .val (.ref o138), .val (.ref o151), .val (.ref o174), .val (.int (2)), .unset, .unset, .unset, .unset, .unset, .unset, .unset, .unset, .unset, .unset, .unset]) rfl ?_
        refine k_iload C X at_205 rfl rfl ?_
        refine k_newarray C X at_207 rfl (ty := .double) rfl (hw _ (List.mem_of_getElem? (i := 14) rfl)) (by decide) (cap := 2) (by decide) (by decide) (by decide) (by decide) (vs := [(.double 0), (.double 0)]) rfl (fun T o207 X => ?_)
        refine k_astore C X at_209 rfl rfl (l' := #[.val (.int x0), .val (.int x1), .val (.int x2), .val (.int x3), .val (.int x4), .val (.int x5), .val (.int (x0 &&& (7))), .val (.int c2), .val (.int (1)), .val (.int (0)), .val (.int (0)), .val (.int (1)), .val (.ref o89), .val (.int (1)), .val (.ref o138), .val (.ref o151), .val (.ref o174), .val (.int (2)), .val (.ref o207), .unset, .unset, .unset, .unset, .unset, .unset, .unset, .unset, .unset, .unset]) rfl ?_
        refine k_iload C X at_211 rfl rfl ?_
        refine k_if_le C X at_213 rfl (tpc := 224) rfl (fun hc => (absurd hc (by decide) : False).elim) (fun _ => ?_)
        refine k_aload C X at_216 rfl rfl rfl ?_
        refine k_iconst C X at_218 rfl (v := 0) rfl ?_
        refine k_aload C X at_219 rfl rfl rfl ?_
        refine k_iconst C X at_221 rfl (v := 0) rfl ?_
        refine k_daload C X at_222 rfl (ix := 1) (i := 0) rfl (by decide) (by decide) rfl ?_
        refine k_dastore C X at_223 rfl (ix := 0) (i := 0) rfl (by decide) (by decide) (Nat.le_of_ble_eq_true rfl) (vs' := [(.double (FP.i2d x4)), (.double 0)]) rfl (L' := [(o207, own_ar Z .double [(.double (FP.i2d x4)), (.double 0)]), (o174, own_ar Z .double [(.double (FP.i2d x4)), (.double (FP.i2d x5)), (.double (FP.i2d c2))]), (o151, own_ar Z .double [(.double (FP.i2d x1)), (.double (FP.i2d x2)), (.double (FP.i2d x3))]), (qi, own_ar Z .int [(.int (1)), (.int (2))]), (o138, own_ob Z "com/example/residuum/residuum/FreeParameters" [("total", "I", (.int (3))), ("indices", "[I", (.ref qi))]), (o89, own_ar Z .int [(.int (0))])]) rfl (fun T X => ?_)
        refine k_iload C X at_224 rfl rfl ?_
        refine k_iconst C X at_226 rfl (v := 1) rfl ?_
        refine k_icmp_le C X at_227 rfl (tpc := 238) rfl (fun hc => (absurd hc (by decide) : False).elim) (fun _ => ?_)
        refine k_aload C X at_230 rfl rfl rfl ?_
        refine k_iconst C X at_232 rfl (v := 1) rfl ?_
        refine k_aload C X at_233 rfl rfl rfl ?_
        refine k_iconst C X at_235 rfl (v := 1) rfl ?_
        refine k_daload C X at_236 rfl (ix := 1) (i := 1) rfl (by decide) (by decide) rfl ?_
        refine k_dastore C X at_237 rfl (ix := 0) (i := 1) rfl (by decide) (by decide) (Nat.le_of_ble_eq_true rfl) (vs' := [(.double (FP.i2d x4)), (.double (FP.i2d x5))]) rfl (L' := [(o207, own_ar Z .double [(.double (FP.i2d x4)), (.double (FP.i2d x5))]), (o174, own_ar Z .double [(.double (FP.i2d x4)), (.double (FP.i2d x5)), (.double (FP.i2d c2))]), (o151, own_ar Z .double [(.double (FP.i2d x1)), (.double (FP.i2d x2)), (.double (FP.i2d x3))]), (qi, own_ar Z .int [(.int (1)), (.int (2))]), (o138, own_ob Z "com/example/residuum/residuum/FreeParameters" [("total", "I", (.int (3))), ("indices", "[I", (.ref qi))]), (o89, own_ar Z .int [(.int (0))])]) rfl (fun T X => ?_)
        refine k_iload C X at_238 rfl rfl ?_
        refine k_iconst C X at_240 rfl (v := 2) rfl ?_
        refine k_icmp_le C X at_241 rfl (tpc := 252) rfl (fun _ => ?_) (fun hc => (absurd hc (by decide) : False).elim)
        refine k_aload C X at_252 rfl rfl rfl ?_
        refine k_aload C X at_254 rfl rfl rfl ?_
        refine k_aload C X at_256 rfl rfl rfl ?_
        refine k_virtual C X at_258 rfl (hw _ (List.mem_of_getElem? (i := 15) rfl)) (hw _ (List.mem_of_getElem? (i := 16) rfl)) (hw _ (List.mem_of_getElem? (i := 3) rfl)) (hw _ (List.mem_of_getElem? (i := 19) rfl)) (hw _ (List.mem_of_getElem? (i := 18) rfl)) (hw _ (List.mem_of_getElem? (i := 17) rfl)) (by decide) (own_nf C.2.2.2.1 (hw _ (List.mem_of_getElem? (i := 18) rfl))) (own_eL (ix := 4) rfl) (own_moved_0 l Z a0 hw o138 o151 o207 o174 qi [(.double (FP.i2d x4)), (.double (FP.i2d x5)), (.double (FP.i2d c2))] (FP.i2d x1) (FP.i2d x2) (FP.i2d x3) (FP.i2d x4) (FP.i2d x5) (own_dd _ _) (own_dd _ _) ([(o89, own_ar Z .int [(.int (0))])])) (W := 0) (argsL := [(.ref o151), (.ref o207)]) (rest := []) rfl rfl rfl own_pd1 rfl (Nat.le_of_eq rfl) (by decide) (by decide) (by decide) (by decide) (fun v T M hQ X => ?_)
        obtain ⟨rr, rfl, rfl⟩ := hQ
        refine k_astore C X at_261 rfl rfl (l' := #[.val (.int x0), .val (.int x1), .val (.int x2), .val (.int x3), .val (.int x4), .val (.int x5), .val (.int (x0 &&& (7))), .val (.int c2), .val (.int (1)), .val (.int (0)), .val (.int (0)), .val (.int (1)), .val (.ref o89), .val (.int (1)), .val (.ref o138), .val (.ref o151), .val (.ref o174), .val (.int (2)), .val (.ref o207), .val (.ref rr), .unset, .unset, .unset, .unset, .unset, .unset, .unset, .unset, .unset]) rfl ?_
        refine k_aload C X at_263 rfl rfl rfl ?_
        refine k_aload C X at_265 rfl rfl rfl ?_
        have hne := X.heap.ne (i := 0) (j := 3) rfl rfl (by decide)
        refine k_acmp_eq C X at_267 rfl (tpc := 277) rfl rfl rfl (fun hc => (hne (Value.ref.inj hc) : False).elim) (fun _ => ?_)
        refine k_aload C X at_270 rfl rfl rfl ?_
        refine k_arraylength C X at_272 rfl (ix := 0) rfl (z := (3)) rfl ?_
        refine k_iconst C X at_273 rfl (v := 3) rfl ?_
        refine k_icmp_eq C X at_274 rfl (tpc := 279) rfl (fun _ => ?_) (fun hc => (absurd hc (by decide) : False).elim)
        refine k_aload C X at_279 rfl rfl rfl ?_
        refine k_iconst C X at_281 rfl (v := 0) rfl ?_
        refine k_daload C X at_282 rfl (ix := 3) (i := 0) rfl (by decide) (by decide) rfl ?_
        refine k_iloadN C X at_283 rfl rfl ?_
        refine k_i2d C X at_284 rfl ?_
        refine k_dcmpl C X at_285 rfl ?_
        refine k_ifdl_ne C X at_286 rfl (tpc := 309) rfl (fun hc => (hc (own_eq (Jvm.FP.Core.i2d_int _) (Jvm.FP.Core.i2d_int _) rfl) : False).elim) (fun _ => ?_)
        refine k_aload C X at_289 rfl rfl rfl ?_
        refine k_iconst C X at_291 rfl (v := 1) rfl ?_
        refine k_daload C X at_292 rfl (ix := 3) (i := 1) rfl (by decide) (by decide) rfl ?_
        refine k_iloadN C X at_293 rfl rfl ?_
        refine k_i2d C X at_294 rfl ?_
        refine k_dcmpl C X at_295 rfl ?_
        refine k_ifdl_ne C X at_296 rfl (tpc := 309) rfl (fun hc => (hc (own_eq (Jvm.FP.Core.i2d_int _) (Jvm.FP.Core.i2d_int _) rfl) : False).elim) (fun _ => ?_)
        refine k_aload C X at_299 rfl rfl rfl ?_
        refine k_iconst C X at_301 rfl (v := 2) rfl ?_
        refine k_daload C X at_302 rfl (ix := 3) (i := 2) rfl (by decide) (by decide) rfl ?_
        refine k_iloadN C X at_303 rfl rfl ?_
        refine k_i2d C X at_304 rfl ?_
        refine k_dcmpl C X at_305 rfl ?_
        refine k_ifdl_eq C X at_306 rfl (tpc := 311) rfl (fun _ => ?_) (fun hc => (hc (own_eq (Jvm.FP.Core.i2d_int _) (Jvm.FP.Core.i2d_int _) rfl) : False).elim)
        refine k_iconst C X at_311 rfl (v := 0) rfl ?_
        refine k_istore C X at_312 rfl (l' := #[.val (.int x0), .val (.int x1), .val (.int x2), .val (.int x3), .val (.int x4), .val (.int x5), .val (.int (x0 &&& (7))), .val (.int c2), .val (.int (1)), .val (.int (0)), .val (.int (0)), .val (.int (1)), .val (.ref o89), .val (.int (1)), .val (.ref o138), .val (.ref o151), .val (.ref o174), .val (.int (2)), .val (.ref o207), .val (.ref rr), .val (.int (0)), .unset, .unset, .unset, .unset, .unset, .unset, .unset, .unset]) rfl ?_
        refine k_iload C X at_314 rfl rfl ?_
        refine k_if_eq C X at_316 rfl (tpc := 323) rfl (fun hc => (absurd hc (by decide) : False).elim) (fun _ => ?_)
        refine k_iconst C X at_319 rfl (v := 0) rfl ?_
        refine k_goto C X at_320 (tpc := 324) rfl ?_
        refine k_istore C X at_324 rfl (l' := #[.val (.int x0), .val (.int x1), .val (.int x2), .val (.int x3), .val (.int x4), .val (.int x5), .val (.int (x0 &&& (7))), .val (.int c2), .val (.int (1)), .val (.int (0)), .val (.int (0)), .val (.int (1)), .val (.ref o89), .val (.int (1)), .val (.ref o138), .val (.ref o151), .val (.ref o174), .val (.int (2)), .val (.ref o207), .val (.ref rr), .val (.int (0)), .val (.int (0)), .unset, .unset, .unset, .unset, .unset, .unset, .unset]) rfl ?_
        refine k_iload C X at_326 rfl rfl ?_
        refine k_if_eq C X at_328 rfl (tpc := 335) rfl (fun hc => (absurd hc (by decide) : False).elim) (fun _ => ?_)
        refine k_iconst C X at_331 rfl (v := 0) rfl ?_
        refine k_goto C X at_332 (tpc := 336) rfl ?_
        refine k_iload C X at_336 rfl rfl ?_
        refine k_if_eq C X at_338 rfl (tpc := 345) rfl (fun _ => ?_) (fun hc => (absurd hc (by decide) : False).elim)
        refine k_iconst C X at_345 rfl (v := 1) rfl ?_
        refine k_iadd C X at_346 rfl ?_
        refine k_istore C X at_347 rfl (l' := #[.val (.int x0), .val (.int x1), .val (.int x2), .val (.int x3), .val (.int x4), .val (.int x5), .val (.int (x0 &&& (7))), .val (.int c2), .val (.int (1)), .val (.int (0)), .val (.int (0)), .val (.int (1)), .val (.ref o89), .val (.int (1)), .val (.ref o138), .val (.ref o151), .val (.ref o174), .val (.int (2)), .val (.ref o207), .val (.ref rr), .val (.int (0)), .val (.int (0)), .val (.int (1)), .unset, .unset, .unset, .unset, .unset, .unset]) rfl ?_
        refine k_iload C X at_349 rfl rfl ?_
        refine k_if_eq C X at_351 rfl (tpc := 359) rfl (fun hc => (absurd hc (by decide) : False).elim) (fun _ => ?_)
        refine k_iloadN C X at_354 rfl rfl ?_
        refine k_i2d C X at_355 rfl ?_
        refine k_goto C X at_356 (tpc := 367) rfl ?_
        refine k_dstore C X at_367 rfl (l' := #[.val (.int x0), .val (.int x1), .val (.int x2), .val (.int x3), .val (.int x4), .val (.int x5), .val (.int (x0 &&& (7))), .val (.int c2), .val (.int (1)), .val (.int (0)), .val (.int (0)), .val (.int (1)), .val (.ref o89), .val (.int (1)), .val (.ref o138), .val (.ref o151), .val (.ref o174), .val (.int (2)), .val (.ref o207), .val (.ref rr), .val (.int (0)), .val (.int (0)), .val (.int (1)), .val (.double (FP.i2d x1)), .second, .unset, .unset, .unset, .unset]) rfl ?_
        refine k_iload C X at_369 rfl rfl ?_
        refine k_if_eq C X at_371 rfl (tpc := 379) rfl (fun _ => ?_) (fun hc => (absurd hc (by decide) : False).elim)
        refine k_iloadN C X at_379 rfl rfl ?_
        refine k_i2d C X at_380 rfl ?_
        refine k_aload C X at_381 rfl rfl rfl ?_
        refine k_iload C X at_383 rfl rfl ?_
        refine k_daload C X at_385 rfl (ix := 2) (i := 0) rfl (by decide) (by decide) rfl ?_
        refine k_daddE C X at_386 rfl (own_dd _ _) ?_
        refine k_dstore C X at_387 rfl (l' := #[.val (.int x0), .val (.int x1), .val (.int x2), .val (.int x3), .val (.int x4), .val (.int x5), .val (.int (x0 &&& (7))), .val (.int c2), .val (.int (1)), .val (.int (0)), .val (.int (0)), .val (.int (1)), .val (.ref o89), .val (.int (1)), .val (.ref o138), .val (.ref o151), .val (.ref o174), .val (.int (2)), .val (.ref o207), .val (.ref rr), .val (.int (0)), .val (.int (0)), .val (.int (1)), .val (.double (FP.i2d x1)), .second, .val (.double (FP.dadd (FP.i2d x2) (FP.i2d x4))), .second, .unset, .unset]) rfl ?_
        refine k_iload C X at_389 rfl rfl ?_
        refine k_if_eq C X at_391 rfl (tpc := 399) rfl (fun _ => ?_) (fun hc => (absurd hc (by decide) : False).elim)
        refine k_iloadN C X at_399 rfl rfl ?_
        refine k_i2d C X at_400 rfl ?_
        refine k_aload C X at_401 rfl rfl rfl ?_
        refine k_iload C X at_403 rfl rfl ?_
        refine k_daload C X at_405 rfl (ix := 2) (i := 1) rfl (by decide) (by decide) rfl ?_
        refine k_daddE C X at_406 rfl (own_dd _ _) ?_
        refine k_dstore C X at_407 rfl (l' := #[.val (.int x0), .val (.int x1), .val (.int x2), .val (.int x3), .val (.int x4), .val (.int x5), .val (.int (x0 &&& (7))), .val (.int c2), .val (.int (1)), .val (.int (0)), .val (.int (0)), .val (.int (1)), .val (.ref o89), .val (.int (1)), .val (.ref o138), .val (.ref o151), .val (.ref o174), .val (.int (2)), .val (.ref o207), .val (.ref rr), .val (.int (0)), .val (.int (0)), .val (.int (1)), .val (.double (FP.i2d x1)), .second, .val (.double (FP.dadd (FP.i2d x2) (FP.i2d x4))), .second, .val (.double (FP.dadd (FP.i2d x3) (FP.i2d x5))), .second]) rfl ?_
        refine k_aload C X at_409 rfl rfl rfl ?_
        refine k_iconst C X at_411 rfl (v := 0) rfl ?_
        refine k_daload C X at_412 rfl (ix := 0) (i := 0) rfl (by decide) (by decide) rfl ?_
        refine k_dload C X at_413 rfl rfl ?_
        refine k_dcmpl C X at_415 rfl ?_
        refine k_ifdl_ne C X at_416 rfl (tpc := 443) rfl (fun hc => (hc (own_self (own_nn (Jvm.FP.Core.i2d_int _))) : False).elim) (fun _ => ?_)
        refine k_aload C X at_419 rfl rfl rfl ?_
        refine k_iconst C X at_421 rfl (v := 1) rfl ?_
        refine k_daload C X at_422 rfl (ix := 0) (i := 1) rfl (by decide) (by decide) rfl ?_
        refine k_dload C X at_423 rfl rfl ?_
        refine k_dcmpl C X at_425 rfl ?_
        refine k_ifdl_ne C X at_426 rfl (tpc := 443) rfl (fun hc => (hc (own_self (own_dd _ _)) : False).elim) (fun _ => ?_)
        refine k_aload C X at_429 rfl rfl rfl ?_
        refine k_iconst C X at_431 rfl (v := 2) rfl ?_
        refine k_daload C X at_432 rfl (ix := 0) (i := 2) rfl (by decide) (by decide) rfl ?_
        refine k_dload C X at_433 rfl rfl ?_
        refine k_dcmpl C X at_435 rfl ?_
        refine k_ifdl_ne C X at_436 rfl (tpc := 443) rfl (fun hc => (hc (own_self (own_dd _ _)) : False).elim) (fun _ => ?_)
        refine k_iconst C X at_439 rfl (v := 1) rfl ?_
        refine k_goto C X at_440 (tpc := 444) rfl ?_
        exact k_ireturn C X at_444 (by simp) rfl rfl (by decide) (by decide)
      · skip
        refine k_iconst C X at_46 rfl (v := 1) rfl ?_
        refine k_goto C X at_47 (tpc := 51) rfl ?_
        refine k_istore C X at_51 rfl (l' := #[.val (.int x0), .val (.int x1), .val (.int x2), .val (.int x3), .val (.int x4), .val (.int x5), .val (.int (x0 &&& (7))), .val (.int c2), .val (.int (1)), .val (.int (0)), .val (.int (1)), .unset, .unset, .unset, .unset, .unset, .unset, .unset, .unset, .unset, .unset, .unset, .unset, .unset, .unset, .unset, .unset, .unset, .unset]) rfl ?_
        refine k_iload C X at_53 rfl rfl ?_
        refine k_if_eq C X at_55 rfl (tpc := 62) rfl (fun hc => (absurd hc (by decide) : False).elim) (fun _ => ?_)
        refine k_iconst C X at_58 rfl (v := 1) rfl ?_
        refine k_goto C X at_59 (tpc := 63) rfl ?_
        refine k_iload C X at_63 rfl rfl ?_
        refine k_if_eq C X at_65 rfl (tpc := 72) rfl (fun _ => ?_) (fun hc => (absurd hc (by decide) : False).elim)
        refine k_iconst C X at_72 rfl (v := 0) rfl ?_
        refine k_iadd C X at_73 rfl ?_
        refine k_iload C X at_74 rfl rfl ?_
        refine k_if_eq C X at_76 rfl (tpc := 83) rfl (fun hc => (absurd hc (by decide) : False).elim) (fun _ => ?_)
        refine k_iconst C X at_79 rfl (v := 1) rfl ?_
        refine k_goto C X at_80 (tpc := 84) rfl ?_
        refine k_iadd C X at_84 rfl ?_
        refine k_istore C X at_85 rfl (l' := #[.val (.int x0), .val (.int x1), .val (.int x2), .val (.int x3), .val (.int x4), .val (.int x5), .val (.int (x0 &&& (7))), .val (.int c2), .val (.int (1)), .val (.int (0)), .val (.int (1)), .val (.int (2)), .unset, .unset, .unset, .unset, .unset, .unset, .unset, .unset, .unset, .unset, .unset, .unset, .unset, .unset, .unset, .unset, .unset]) rfl ?_
        refine k_iload C X at_87 rfl rfl ?_
        refine k_newarray C X at_89 rfl (ty := .int) rfl (hw _ (List.mem_of_getElem? (i := 0) rfl)) (by decide) (cap := 2) (by decide) (by decide) (by decide) (by decide) (vs := [(.int 0), (.int 0)]) rfl (fun T o89 X => ?_)
        refine k_astore C X at_91 rfl rfl (l' := #[.val (.int x0), .val (.int x1), .val (.int x2), .val (.int x3), .val (.int x4), .val (.int x5), .val (.int (x0 &&& (7))), .val (.int c2), .val (.int (1)), .val (.int (0)), .val (.int (1)), .val (.int (2)), .val (.ref o89), .unset, .unset, .unset, .unset, .unset, .unset, .unset, .unset, .unset, .unset, .unset, .unset, .unset, .unset, .unset, .unset]) rfl ?_
        refine k_iconst C X at_93 rfl (v := 0) rfl ?_
        refine k_istore C X at_94 rfl (l' := #[.val (.int x0), .val (.int x1), .val (.int x2), .val (.int x3), .val (.int x4), .val (.int x5), .val (.int (x0 &&& (7))), .val (.int c2), .val (.int (1)), .val (.int (0)), .val (.int (1)), .val (.int (2)), .val (.ref o89), .val (.int (0)), .unset, .unset, .unset, .unset, .unset, .unset, .unset, .unset, .unset, .unset, .unset, .unset, .unset, .unset, .unset]) rfl ?_
        refine k_iload C X at_96 rfl rfl ?_
        refine k_if_eq C X at_98 rfl (tpc := 110) rfl (fun hc => (absurd hc (by decide) : False).elim) (fun _ => ?_)
        refine k_aload C X at_101 rfl rfl rfl ?_
        refine k_iload C X at_103 rfl rfl ?_
        refine k_iconst C X at_105 rfl (v := 0) rfl ?_
        refine k_iastore C X at_106 rfl (ix := 0) (i := 0) rfl (by decide) (by decide) (Nat.le_of_ble_eq_true rfl) (vs' := [(.int (0)), (.int 0)]) rfl (L' := [(o89, own_ar Z .int [(.int (0)), (.int 0)])]) rfl (fun T X => ?_)
        refine k_iinc C X at_107 rfl (v := 1) rfl rfl (l' := #[.val (.int x0), .val (.int x1), .val (.int x2), .val (.int x3), .val (.int x4), .val (.int x5), .val (.int (x0 &&& (7))), .val (.int c2), .val (.int (1)), .val (.int (0)), .val (.int (1)), .val (.int (2)), .val (.ref o89), .val (.int (1)), .unset, .unset, .unset, .unset, .unset, .unset, .unset, .unset, .unset, .unset, .unset, .unset, .unset, .unset, .unset]) rfl ?_
        refine k_iload C X at_110 rfl rfl ?_
        refine k_if_eq C X at_112 rfl (tpc := 124) rfl (fun _ => ?_) (fun hc => (absurd hc (by decide) : False).elim)
        refine k_iload C X at_124 rfl rfl ?_
        refine k_if_eq C X at_126 rfl (tpc := 138) rfl (fun hc => (absurd hc (by decide) : False).elim) (fun _ => ?_)
        refine k_aload C X at_129 rfl rfl rfl ?_
        refine k_iload C X at_131 rfl rfl ?_
        refine k_iconst C X at_133 rfl (v := 2) rfl ?_
        refine k_iastore C X at_134 rfl (ix := 0) (i := 1) rfl (by decide) (by decide) (Nat.le_of_ble_eq_true rfl) (vs' := [(.int (0)), (.int (2))]) rfl (L' := [(o89, own_ar Z .int [(.int (0)), (.int (2))])]) rfl (fun T X => ?_)
        refine k_iinc C X at_135 rfl (v := 1) rfl rfl (l' := #[.val (.int x0), .val (.int x1), .val (.int x2), .val (.int x3), .val (.int x4), .val (.int x5), .val (.int (x0 &&& (7))), .val (.int c2), .val (.int (1)), .val (.int (0)), .val (.int (1)), .val (.int (2)), .val (.ref o89), .val (.int (2)), .unset, .unset, .unset, .unset, .unset, .unset, .unset, .unset, .unset, .unset, .unset, .unset, .unset, .unset, .unset]) rfl ?_
        refine k_new C X at_138 rfl (hw _ (List.mem_of_getElem? (i := 1) rfl)) (hw _ (List.mem_of_getElem? (i := 2) rfl)) (hw _ (List.mem_of_getElem? (i := 3) rfl)) (own_lay_FreeParameters hw) (fs := [("total", "I", (.int (0))), ("indices", "[I", .null)]) rfl (by decide) (by decide) (fun T o138 X => ?_)
        refine k_dup C X at_141 rfl rfl ?_
        refine k_iconst C X at_142 rfl (v := 3) rfl ?_
        refine k_aload C X at_143 rfl rfl rfl ?_
        refine k_init C X at_145 rfl rfl (hw _ (List.mem_of_getElem? (i := 4) rfl)) (hw _ (List.mem_of_getElem? (i := 5) rfl)) (hw _ (List.mem_of_getElem? (i := 3) rfl)) (hw _ (List.mem_of_getElem? (i := 6) rfl)) (by decide) (own_init_02 l Z a0 hw o138 o89 ([])) (W := 1) (argsL := [(.int (3)), (.ref o89)]) (rest := [(.ref o138)]) rfl rfl rfl own_pd0 rfl (Nat.le_of_eq rfl) (by decide) (by decide) (by decide) (by decide) (fun v T M hQ X => ?_)
        obtain ⟨rfl, qi, rfl⟩ := hQ
        refine k_astore C X at_148 rfl rfl (l' := #[.val (.int x0), .val (.int x1), .val (.int x2), .val (.int x3), .val (.int x4), .val (.int x5), .val (.int (x0 &&& (7))), .val (.int c2), .val (.int (1)), .val (.int (0)), .val (.int (1)), .val (.int (2)), .val (.ref o89), .val (.int (2)), .val (.ref o138), .unset, .unset, .unset, .unset, .unset, .unset, .unset, .unset, .unset, .unset, .unset, .unset, .unset, .unset]) rfl ?_
        refine k_iconst C X at_150 rfl (v := 3) rfl ?_
        refine k_newarray C X at_151 rfl (ty := .double) rfl (hw _ (List.mem_of_getElem? (i := 14) rfl)) (by decide) (cap := 3) (by decide) (by decide) (by decide) (by decide) (vs := [(.double 0), (.double 0), (.double 0)]) rfl (fun T o151 X => ?_)
        refine k_astore C X at_153 rfl rfl (l' := #[.val (.int x0), .val (.int x1), .val (.int x2), .val (.int x3), .val (.int x4), .val (.int x5), .val (.int (x0 &&& (7))), .val (.int c2), .val (.int (1)), .val (.int (0)), .val (.int (1)), .val (.int (2)), .val (.ref o89), .val (.int (2)), .val (.ref o138), .val (.ref o151), .unset, .unset, .unset, .unset, .unset, .unset, .unset, .unset, .unset, .unset, .unset, .unset, .unset]) rfl ?_
        refine k_aload C X at_155 rfl rfl rfl ?_
        refine k_iconst C X at_157 rfl (v := 0) rfl ?_
        refine k_iloadN C X at_158 rfl rfl ?_
        refine k_i2d C X at_159 rfl ?_
        refine k_dastore C X at_160 rfl (ix := 0) (i := 0) rfl (by decide) (by decide) (Nat.le_of_ble_eq_true rfl) (vs' := [(.double (FP.i2d x1)), (.double 0), (.double 0)]) rfl (L' := [(o151, own_ar Z .double [(.double (FP.i2d x1)), (.double 0), (.double 0)]), (qi, own_ar Z .int [(.int (1))]), (o138, own_ob Z "com/example/residuum/residuum/FreeParameters" [("total", "I", (.int (3))), ("indices", "[I", (.ref qi))]), (o89, own_ar Z .int [(.int (0)), (.int (2))])]) rfl (fun T X => ?_)
        refine k_aload C X at_161 rfl rfl rfl ?_
        refine k_iconst C X at_163 rfl (v := 1) rfl ?_
        refine k_iloadN C X at_164 rfl rfl ?_
        refine k_i2d C X at_165 rfl ?_
        refine k_dastore C X at_166 rfl (ix := 0) (i := 1) rfl (by decide) (by decide) (Nat.le_of_ble_eq_true rfl) (vs' := [(.double (FP.i2d x1)), (.double (FP.i2d x2)), (.double 0)]) rfl (L' := [(o151, own_ar Z .double [(.double (FP.i2d x1)), (.double (FP.i2d x2)), (.double 0)]), (qi, own_ar Z .int [(.int (1))]), (o138, own_ob Z "com/example/residuum/residuum/FreeParameters" [("total", "I", (.int (3))), ("indices", "[I", (.ref qi))]), (o89, own_ar Z .int [(.int (0)), (.int (2))])]) rfl (fun T X => ?_)
        refine k_aload C X at_167 rfl rfl rfl ?_
        refine k_iconst C X at_169 rfl (v := 2) rfl ?_
        refine k_iloadN C X at_170 rfl rfl ?_
        refine k_i2d C X at_171 rfl ?_
        refine k_dastore C X at_172 rfl (ix := 0) (i := 2) rfl (by decide) (by decide) (Nat.le_of_ble_eq_true rfl) (vs' := [(.double (FP.i2d x1)), (.double (FP.i2d x2)), (.double (FP.i2d x3))]) rfl (L' := [(o151, own_ar Z .double [(.double (FP.i2d x1)), (.double (FP.i2d x2)), (.double (FP.i2d x3))]), (qi, own_ar Z .int [(.int (1))]), (o138, own_ob Z "com/example/residuum/residuum/FreeParameters" [("total", "I", (.int (3))), ("indices", "[I", (.ref qi))]), (o89, own_ar Z .int [(.int (0)), (.int (2))])]) rfl (fun T X => ?_)
        refine k_iconst C X at_173 rfl (v := 3) rfl ?_
        refine k_newarray C X at_174 rfl (ty := .double) rfl (hw _ (List.mem_of_getElem? (i := 14) rfl)) (by decide) (cap := 3) (by decide) (by decide) (by decide) (by decide) (vs := [(.double 0), (.double 0), (.double 0)]) rfl (fun T o174 X => ?_)
        refine k_astore C X at_176 rfl rfl (l' := #[.val (.int x0), .val (.int x1), .val (.int x2), .val (.int x3), .val (.int x4), .val (.int x5), .val (.int (x0 &&& (7))), .val (.int c2), .val (.int (1)), .val (.int (0)), .val (.int (1)), .val (.int (2)), .val (.ref o89), .val (.int (2)), .val (.ref o138), .val (.ref o151), .val (.ref o174), .unset, .unset, .unset, .unset, .unset, .unset, .unset, .unset, .unset, .unset, .unset, .unset]) rfl ?_
        refine k_aload C X at_178 rfl rfl rfl ?_
        refine k_iconst C X at_180 rfl (v := 0) rfl ?_
        refine k_iload C X at_181 rfl rfl ?_
        refine k_i2d C X at_183 rfl ?_
        refine k_dastore C X at_184 rfl (ix := 0) (i := 0) rfl (by decide) (by decide) (Nat.le_of_ble_eq_true rfl) (vs' := [(.double (FP.i2d x4)), (.double 0), (.double 0)]) rfl (L' := [(o174, own_ar Z .double [(.double (FP.i2d x4)), (.double 0), (.double 0)]), (o151, own_ar Z .double [(.double (FP.i2d x1)), (.double (FP.i2d x2)), (.double (FP.i2d x3))]), (qi, own_ar Z .int [(.int (1))]), (o138, own_ob Z "com/example/residuum/residuum/FreeParameters" [("total", "I", (.int (3))), ("indices", "[I", (.ref qi))]), (o89, own_ar Z .int [(.int (0)), (.int (2))])]) rfl (fun T X => ?_)
        refine k_aload C X at_185 rfl rfl rfl ?_
        refine k_iconst C X at_187 rfl (v := 1) rfl ?_
        refine k_iload C X at_188 rfl rfl ?_
        refine k_i2d C X at_190 rfl ?_
        refine k_dastore C X at_191 rfl (ix := 0) (i := 1) rfl (by decide) (by decide) (Nat.le_of_ble_eq_true rfl) (vs' := [(.double (FP.i2d x4)), (.double (FP.i2d x5)), (.double 0)]) rfl (L' := [(o174, own_ar Z .double [(.double (FP.i2d x4)), (.double (FP.i2d x5)), (.double 0)]), (o151, own_ar Z .double [(.double (FP.i2d x1)), (.double (FP.i2d x2)), (.double (FP.i2d x3))]), (qi, own_ar Z .int [(.int (1))]), (o138, own_ob Z "com/example/residuum/residuum/FreeParameters" [("total", "I", (.int (3))), ("indices", "[I", (.ref qi))]), (o89, own_ar Z .int [(.int (0)), (.int (2))])]) rfl (fun T X => ?_)
        refine k_aload C X at_192 rfl rfl rfl ?_
        refine k_iconst C X at_194 rfl (v := 2) rfl ?_
        refine k_iload C X at_195 rfl rfl ?_
        refine k_i2d C X at_197 rfl ?_
        refine k_dastore C X at_198 rfl (ix := 0) (i := 2) rfl (by decide) (by decide) (Nat.le_of_ble_eq_true rfl) (vs' := [(.double (FP.i2d x4)), (.double (FP.i2d x5)), (.double (FP.i2d c2))]) rfl (L' := [(o174, own_ar Z .double [(.double (FP.i2d x4)), (.double (FP.i2d x5)), (.double (FP.i2d c2))]), (o151, own_ar Z .double [(.double (FP.i2d x1)), (.double (FP.i2d x2)), (.double (FP.i2d x3))]), (qi, own_ar Z .int [(.int (1))]), (o138, own_ob Z "com/example/residuum/residuum/FreeParameters" [("total", "I", (.int (3))), ("indices", "[I", (.ref qi))]), (o89, own_ar Z .int [(.int (0)), (.int (2))])]) rfl (fun T X => ?_)
        refine k_iconst C X at_199 rfl (v := 3) rfl ?_
        refine k_iload C X at_200 rfl rfl ?_
        refine k_isub C X at_202 rfl ?_
        refine k_istore C X at_203 rfl (l' := #[.val (.int x0), .val (.int x1), .val (.int x2), .val (.int x3), .val (.int x4), .val (.int x5), .val (.int (x0 &&& (7))), .val (.int c2), .val (.int (1)), .val (.int (0)), .val (.int (1)), .val (.int (2)), .val (.ref o89), .val (.int (2)), .val (.ref o138), .val (.ref o151), .val (.ref o174), .val (.int (1)), .unset, .unset, .unset, .unset, .unset, .unset, .unset, .unset, .unset, .unset, .unset]) rfl ?_
        refine k_iload C X at_205 rfl rfl ?_
        refine k_newarray C X at_207 rfl (ty := .double) rfl (hw _ (List.mem_of_getElem? (i := 14) rfl)) (by decide) (cap := 1) (by decide) (by decide) (by decide) (by decide) (vs := [(.double 0)]) rfl (fun T o207 X => ?_)
        refine k_astore C X at_209 rfl rfl (l' := #[.val (.int x0), .val (.int x1), .val (.int x2), .val (.int x3), .val (.int x4), .val (.int x5), .val (.int (x0 &&& (7))), .val (.int c2), .val (.int (1)), .val (.int (0)), .val (.int (1)), .val (.int (2)), .val (.ref o89), .val (.int (2)), .val (.ref o138), .val (.ref o151), .val (.ref o174), .val (.int (1)), .val (.ref o207), .unset, .unset, .unset, .unset, .unset, .unset, .unset, .unset, .unset, .unset]) rfl ?_
        refine k_iload C X at_211 rfl rfl ?_
        refine k_if_le C X at_213 rfl (tpc := 224) rfl (fun hc => (absurd hc (by decide) : False).elim) (fun _ => ?_)
        refine k_aload C X at_216 rfl rfl rfl ?_
        refine k_iconst C X at_218 rfl (v := 0) rfl ?_
        refine k_aload C X at_219 rfl rfl rfl ?_
        refine k_iconst C X at_221 rfl (v := 0) rfl ?_
        refine k_daload C X at_222 rfl (ix := 1) (i := 0) rfl (by decide) (by decide) rfl ?_
        refine k_dastore C X at_223 rfl (ix := 0) (i := 0) rfl (by decide) (by decide) (Nat.le_of_ble_eq_true rfl) (vs' := [(.double (FP.i2d x4))]) rfl (L' := [(o207, own_ar Z .double [(.double (FP.i2d x4))]), (o174, own_ar Z .double [(.double (FP.i2d x4)), (.double (FP.i2d x5)), (.double (FP.i2d c2))]), (o151, own_ar Z .double [(.double (FP.i2d x1)), (.double (FP.i2d x2)), (.double (FP.i2d x3))]), (qi, own_ar Z .int [(.int (1))]), (o138, own_ob Z "com/example/residuum/residuum/FreeParameters" [("total", "I", (.int (3))), ("indices", "[I", (.ref qi))]), (o89, own_ar Z .int [(.int (0)), (.int (2))])]) rfl (fun T X => ?_)
        refine k_iload C X at_224 rfl rfl ?_
        refine k_iconst C X at_226 rfl (v := 1) rfl ?_
        refine k_icmp_le C X at_227 rfl (tpc := 238) rfl (fun _ => ?_) (fun hc => (absurd hc (by decide) : False).elim)
        refine k_iload C X at_238 rfl rfl ?_
        refine k_iconst C X at_240 rfl (v := 2) rfl ?_
        refine k_icmp_le C X at_241 rfl (tpc := 252) rfl (fun _ => ?_) (fun hc => (absurd hc (by decide) : False).elim)
        refine k_aload C X at_252 rfl rfl rfl ?_
        refine k_aload C X at_254 rfl rfl rfl ?_
        refine k_aload C X at_256 rfl rfl rfl ?_
        refine k_virtual C X at_258 rfl (hw _ (List.mem_of_getElem? (i := 15) rfl)) (hw _ (List.mem_of_getElem? (i := 16) rfl)) (hw _ (List.mem_of_getElem? (i := 3) rfl)) (hw _ (List.mem_of_getElem? (i := 19) rfl)) (hw _ (List.mem_of_getElem? (i := 18) rfl)) (hw _ (List.mem_of_getElem? (i := 17) rfl)) (by decide) (own_nf C.2.2.2.1 (hw _ (List.mem_of_getElem? (i := 18) rfl))) (own_eL (ix := 4) rfl) (own_moved_02 l Z a0 hw o138 o151 o207 o174 qi [(.double (FP.i2d x4)), (.double (FP.i2d x5)), (.double (FP.i2d c2))] (FP.i2d x1) (FP.i2d x2) (FP.i2d x3) (FP.i2d x4) (own_dd _ _) ([(o89, own_ar Z .int [(.int (0)), (.int (2))])])) (W := 0) (argsL := [(.ref o151), (.ref o207)]) (rest := []) rfl rfl rfl own_pd1 rfl (Nat.le_of_eq rfl) (by decide) (by decide) (by decide) (by decide) (fun v T M hQ X => ?_)
        obtain ⟨rr, rfl, rfl⟩ := hQ
        refine k_astore C X at_261 rfl rfl (l' := #[.val (.int x0), .val (.int x1), .val (.int x2), .val (.int x3), .val (.int x4), .val (.int x5), .val (.int (x0 &&& (7))), .val (.int c2), .val (.int (1)), .val (.int (0)), .val (.int (1)), .val (.int (2)), .val (.ref o89), .val (.int (2)), .val (.ref o138), .val (.ref o151), .val (.ref o174), .val (.int (1)), .val (.ref o207), .val (.ref rr), .unset, .unset, .unset, .unset, .unset, .unset, .unset, .unset, .unset]) rfl ?_
        refine k_aload C X at_263 rfl rfl rfl ?_
        refine k_aload C X at_265 rfl rfl rfl ?_
        have hne := X.heap.ne (i := 0) (j := 3) rfl rfl (by decide)
        refine k_acmp_eq C X at_267 rfl (tpc := 277) rfl rfl rfl (fun hc => (hne (Value.ref.inj hc) : False).elim) (fun _ => ?_)
        refine k_aload C X at_270 rfl rfl rfl ?_
        refine k_arraylength C X at_272 rfl (ix := 0) rfl (z := (3)) rfl ?_
        refine k_iconst C X at_273 rfl (v := 3) rfl ?_
        refine k_icmp_eq C X at_274 rfl (tpc := 279) rfl (fun _ => ?_) (fun hc => (absurd hc (by decide) : False).elim)
        refine k_aload C X at_279 rfl rfl rfl ?_
        refine k_iconst C X at_281 rfl (v := 0) rfl ?_
        refine k_daload C X at_282 rfl (ix := 3) (i := 0) rfl (by decide) (by decide) rfl ?_
        refine k_iloadN C X at_283 rfl rfl ?_
        refine k_i2d C X at_284 rfl ?_
        refine k_dcmpl C X at_285 rfl ?_
        refine k_ifdl_ne C X at_286 rfl (tpc := 309) rfl (fun hc => (hc (own_eq (Jvm.FP.Core.i2d_int _) (Jvm.FP.Core.i2d_int _) rfl) : False).elim) (fun _ => ?_)
        refine k_aload C X at_289 rfl rfl rfl ?_
        refine k_iconst C X at_291 rfl (v := 1) rfl ?_
        refine k_daload C X at_292 rfl (ix := 3) (i := 1) rfl (by decide) (by decide) rfl ?_
        refine k_iloadN C X at_293 rfl rfl ?_
        refine k_i2d C X at_294 rfl ?_
        refine k_dcmpl C X at_295 rfl ?_
        refine k_ifdl_ne C X at_296 rfl (tpc := 309) rfl (fun hc => (hc (own_eq (Jvm.FP.Core.i2d_int _) (Jvm.FP.Core.i2d_int _) rfl) : False).elim) (fun _ => ?_)
        refine k_aload C X at_299 rfl rfl rfl ?_
        refine k_iconst C X at_301 rfl (v := 2) rfl ?_
        refine k_daload C X at_302 rfl (ix := 3) (i := 2) rfl (by decide) (by decide) rfl ?_
        refine k_iloadN C X at_303 rfl rfl ?_
        refine k_i2d C X at_304 rfl ?_
        refine k_dcmpl C X at_305 rfl ?_
        refine k_ifdl_eq C X at_306 rfl (tpc := 311) rfl (fun _ => ?_) (fun hc => (hc (own_eq (Jvm.FP.Core.i2d_int _) (Jvm.FP.Core.i2d_int _) rfl) : False).elim)
        refine k_iconst C X at_311 rfl (v := 0) rfl ?_
        refine k_istore C X at_312 rfl (l' := #[.val (.int x0), .val (.int x1), .val (.int x2), .val (.int x3), .val (.int x4), .val (.int x5), .val (.int (x0 &&& (7))), .val (.int c2), .val (.int (1)), .val (.int (0)), .val (.int (1)), .val (.int (2)), .val (.ref o89), .val (.int (2)), .val (.ref o138), .val (.ref o151), .val (.ref o174), .val (.int (1)), .val (.ref o207), .val (.ref rr), .val (.int (0)), .unset, .unset, .unset, .unset, .unset, .unset, .unset, .unset]) rfl ?_
        refine k_iload C X at_314 rfl rfl ?_
        refine k_if_eq C X at_316 rfl (tpc := 323) rfl (fun hc => (absurd hc (by decide) : False).elim) (fun _ => ?_)
        refine k_iconst C X at_319 rfl (v := 0) rfl ?_
        refine k_goto C X at_320 (tpc := 324) rfl ?_
        refine k_istore C X at_324 rfl (l' := #[.val (.int x0), .val (.int x1), .val (.int x2), .val (.int x3), .val (.int x4), .val (.int x5), .val (.int (x0 &&& (7))), .val (.int c2), .val (.int (1)), .val (.int (0)), .val (.int (1)), .val (.int (2)), .val (.ref o89), .val (.int (2)), .val (.ref o138), .val (.ref o151), .val (.ref o174), .val (.int (1)), .val (.ref o207), .val (.ref rr), .val (.int (0)), .val (.int (0)), .unset, .unset, .unset, .unset, .unset, .unset, .unset]) rfl ?_
        refine k_iload C X at_326 rfl rfl ?_
        refine k_if_eq C X at_328 rfl (tpc := 335) rfl (fun hc => (absurd hc (by decide) : False).elim) (fun _ => ?_)
        refine k_iconst C X at_331 rfl (v := 0) rfl ?_
        refine k_goto C X at_332 (tpc := 336) rfl ?_
        refine k_iload C X at_336 rfl rfl ?_
        refine k_if_eq C X at_338 rfl (tpc := 345) rfl (fun _ => ?_) (fun hc => (absurd hc (by decide) : False).elim)
        refine k_iconst C X at_345 rfl (v := 1) rfl ?_
        refine k_iadd C X at_346 rfl ?_
        refine k_istore C X at_347 rfl (l' := #[.val (.int x0), .val (.int x1), .val (.int x2), .val (.int x3), .val (.int x4), .val (.int x5), .val (.int (x0 &&& (7))), .val (.int c2), .val (.int (1)), .val (.int (0)), .val (.int (1)), .val (.int (2)), .val (.ref o89), .val (.int (2)), .val (.ref o138), .val (.ref o151), .val (.ref o174), .val (.int (1)), .val (.ref o207), .val (.ref rr), .val (.int (0)), .val (.int (0)), .val (.int (1)), .unset, .unset, .unset, .unset, .unset, .unset]) rfl ?_
        refine k_iload C X at_349 rfl rfl ?_
        refine k_if_eq C X at_351 rfl (tpc := 359) rfl (fun hc => (absurd hc (by decide) : False).elim) (fun _ => ?_)
        refine k_iloadN C X at_354 rfl rfl ?_
        refine k_i2d C X at_355 rfl ?_
        refine k_goto C X at_356 (tpc := 367) rfl ?_
        refine k_dstore C X at_367 rfl (l' := #[.val (.int x0), .val (.int x1), .val (.int x2), .val (.int x3), .val (.int x4), .val (.int x5), .val (.int (x0 &&& (7))), .val (.int c2), .val (.int (1)), .val (.int (0)), .val (.int (1)), .val (.int (2)), .val (.ref o89), .val (.int (2)), .val (.ref o138), .val (.ref o151), .val (.ref o174), .val (.int (1)), .val (.ref o207), .val (.ref rr), .val (.int (0)), .val (.int (0)), .val (.int (1)), .val (.double (FP.i2d x1)), .second, .unset, .unset, .unset, .unset]) rfl ?_
        refine k_iload C X at_369 rfl rfl ?_
        refine k_if_eq C X at_371 rfl (tpc := 379) rfl (fun _ => ?_) (fun hc => (absurd hc (by decide) : False).elim)
        refine k_iloadN C X at_379 rfl rfl ?_
        refine k_i2d C X at_380 rfl ?_
        refine k_aload C X at_381 rfl rfl rfl ?_
        refine k_iload C X at_383 rfl rfl ?_
        refine k_daload C X at_385 rfl (ix := 2) (i := 0) rfl (by decide) (by decide) rfl ?_
        refine k_daddE C X at_386 rfl (own_dd _ _) ?_
        refine k_dstore C X at_387 rfl (l' := #[.val (.int x0), .val (.int x1), .val (.int x2), .val (.int x3), .val (.int x4), .val (.int x5), .val (.int (x0 &&& (7))), .val (.int c2), .val (.int (1)), .val (.int (0)), .val (.int (1)), .val (.int (2)), .val (.ref o89), .val (.int (2)), .val (.ref o138), .val (.ref o151), .val (.ref o174), .val (.int (1)), .val (.ref o207), .val (.ref rr), .val (.int (0)), .val (.int (0)), .val (.int (1)), .val (.double (FP.i2d x1)), .second, .val (.double (FP.dadd (FP.i2d x2) (FP.i2d x4))), .second, .unset, .unset]) rfl ?_
        refine k_iload C X at_389 rfl rfl ?_
        refine k_if_eq C X at_391 rfl (tpc := 399) rfl (fun hc => (absurd hc (by decide) : False).elim) (fun _ => ?_)
        refine k_iloadN C X at_394 rfl rfl ?_
        refine k_i2d C X at_395 rfl ?_
        refine k_goto C X at_396 (tpc := 407) rfl ?_
        refine k_dstore C X at_407 rfl (l' := #[.val (.int x0), .val (.int x1), .val (.int x2), .val (.int x3), .val (.int x4), .val (.int x5), .val (.int (x0 &&& (7))), .val (.int c2), .val (.int (1)), .val (.int (0)), .val (.int (1)), .val (.int (2)), .val (.ref o89), .val (.int (2)), .val (.ref o138), .val (.ref o151), .val (.ref o174), .val (.int (1)), .val (.ref o207), .val (.ref rr), .val (.int (0)), .val (.int (0)), .val (.int (1)), .val (.double (FP.i2d x1)), .second, .val (.double (FP.dadd (FP.i2d x2) (FP.i2d x4))), .second, .val (.double (FP.i2d x3)), .second]) rfl ?_
        refine k_aload C X at_409 rfl rfl rfl ?_
        refine k_iconst C X at_411 rfl (v := 0) rfl ?_
        refine k_daload C X at_412 rfl (ix := 0) (i := 0) rfl (by decide) (by decide) rfl ?_
        refine k_dload C X at_413 rfl rfl ?_
        refine k_dcmpl C X at_415 rfl ?_
        refine k_ifdl_ne C X at_416 rfl (tpc := 443) rfl (fun hc => (hc (own_self (own_nn (Jvm.FP.Core.i2d_int _))) : False).elim) (fun _ => ?_)
        refine k_aload C X at_419 rfl rfl rfl ?_
        refine k_iconst C X at_421 rfl (v := 1) rfl ?_
        refine k_daload C X at_422 rfl (ix := 0) (i := 1) rfl (by decide) (by decide) rfl ?_
        refine k_dload C X at_423 rfl rfl ?_
        refine k_dcmpl C X at_425 rfl ?_
        refine k_ifdl_ne C X at_426 rfl (tpc := 443) rfl (fun hc => (hc (own_self (own_dd _ _)) : False).elim) (fun _ => ?_)
        refine k_aload C X at_429 rfl rfl rfl ?_
        refine k_iconst C X at_431 rfl (v := 2) rfl ?_
        refine k_daload C X at_432 rfl (ix := 0) (i := 2) rfl (by decide) (by decide) rfl ?_
        refine k_dload C X at_433 rfl rfl ?_
        refine k_dcmpl C X at_435 rfl ?_
        refine k_ifdl_ne C X at_436 rfl (tpc := 443) rfl (fun hc => (hc (own_self (own_nn (Jvm.FP.Core.i2d_int _))) : False).elim) (fun _ => ?_)
        refine k_iconst C X at_439 rfl (v := 1) rfl ?_
        refine k_goto C X at_440 (tpc := 444) rfl ?_
        exact k_ireturn C X at_444 (by simp) rfl rfl (by decide) (by decide)
    · skip
      refine k_iconst C X at_32 rfl (v := 1) rfl ?_
      refine k_goto C X at_33 (tpc := 37) rfl ?_
      refine k_istore C X at_37 rfl (l' := #[.val (.int x0), .val (.int x1), .val (.int x2), .val (.int x3), .val (.int x4), .val (.int x5), .val (.int (x0 &&& (7))), .val (.int c2), .val (.int (1)), .val (.int (1)), .unset, .unset, .unset, .unset, .unset, .unset, .unset, .unset, .unset, .unset, .unset, .unset, .unset, .unset, .unset, .unset, .unset, .unset, .unset]) rfl ?_
      refine k_iload C X at_39 rfl rfl ?_
      refine k_iconst C X at_41 rfl (v := 4) rfl ?_
      refine k_iand C X at_42 rfl ?_
      refine k_if_eq C X at_43 rfl (tpc := 50) rfl (fun h43 => ?_) (fun h43 => ?_)
      · skip
        refine k_iconst C X at_50 rfl (v := 0) rfl ?_
        refine k_istore C X at_51 rfl (l' := #[.val (.int x0), .val (.int x1), .val (.int x2), .val (.int x3), .val (.int x4), .val (.int x5), .val (.int (x0 &&& (7))), .val (.int c2), .val (.int (1)), .val (.int (1)), .val (.int (0)), .unset, .unset, .unset, .unset, .unset, .unset, .unset, .unset, .unset, .unset, .unset, .unset, .unset, .unset, .unset, .unset, .unset, .unset]) rfl ?_
        refine k_iload C X at_53 rfl rfl ?_
        refine k_if_eq C X at_55 rfl (tpc := 62) rfl (fun hc => (absurd hc (by decide) : False).elim) (fun _ => ?_)
        refine k_iconst C X at_58 rfl (v := 1) rfl ?_
        refine k_goto C X at_59 (tpc := 63) rfl ?_
        refine k_iload C X at_63 rfl rfl ?_
        refine k_if_eq C X at_65 rfl (tpc := 72) rfl (fun hc => (absurd hc (by decide) : False).elim) (fun _ => ?_)
        refine k_iconst C X at_68 rfl (v := 1) rfl ?_
        refine k_goto C X at_69 (tpc := 73) rfl ?_
        refine k_iadd C X at_73 rfl ?_
        refine k_iload C X at_74 rfl rfl ?_
        refine k_if_eq C X at_76 rfl (tpc := 83) rfl (fun _ => ?_) (fun hc => (absurd hc (by decide) : False).elim)
        refine k_iconst C X at_83 rfl (v := 0) rfl ?_
        refine k_iadd C X at_84 rfl ?_
        refine k_istore C X at_85 rfl (l' := #[.val (.int x0), .val (.int x1), .val (.int x2), .val (.int x3), .val (.int x4), .val (.int x5), .val (.int (x0 &&& (7))), .val (.int c2), .val (.int (1)), .val (.int (1)), .val (.int (0)), .val (.int (2)), .unset, .unset, .unset, .unset, .unset, .unset, .unset, .unset, .unset, .unset, .unset, .unset, .unset, .unset, .unset, .unset, .unset]) rfl ?_
        refine k_iload C X at_87 rfl rfl ?_
        refine k_newarray C X at_89 rfl (ty := .int) rfl (hw _ (List.mem_of_getElem? (i := 0) rfl)) (by decide) (cap := 2) (by decide) (by decide) (by decide) (by decide) (vs := [(.int 0), (.int 0)]) rfl (fun T o89 X => ?_)
        refine k_astore C X at_91 rfl rfl (l' := #[.val (.int x0), .val (.int x1), .val (.int x2), .val (.int x3), .val (.int x4), .val (.int x5), .val (.int (x0 &&& (7))), .val (.int c2), .val (.int (1)), .val (.int (1)), .val (.int (0)), .val (.int (2)), .val (.ref o89), .unset, .unset, .unset, .unset, .unset, .unset, .unset, .unset, .unset, .unset, .unset, .unset, .unset, .unset, .unset, .unset]) rfl ?_
        refine k_iconst C X at_93 rfl (v := 0) rfl ?_
        refine k_istore C X at_94 rfl (l' := #[.val (.int x0), .val (.int x1), .val (.int x2), .val (.int x3), .val (.int x4), .val (.int x5), .val (.int (x0 &&& (7))), .val (.int c2), .val (.int (1)), .val (.int (1)), .val (.int (0)), .val (.int (2)), .val (.ref o89), .val (.int (0)), .unset, .unset, .unset, .unset, .unset, .unset, .unset, .unset, .unset, .unset, .unset, .unset, .unset, .unset, .unset]) rfl ?_
        refine k_iload C X at_96 rfl rfl ?_
        refine k_if_eq C X at_98 rfl (tpc := 110) rfl (fun hc => (absurd hc (by decide) : False).elim) (fun _ => ?_)
        refine k_aload C X at_101 rfl rfl rfl ?_
        refine k_iload C X at_103 rfl rfl ?_
        refine k_iconst C X at_105 rfl (v := 0) rfl ?_
        refine k_iastore C X at_106 rfl (ix := 0) (i := 0) rfl (by decide) (by decide) (Nat.le_of_ble_eq_true rfl) (vs' := [(.int (0)), (.int 0)]) rfl (L' := [(o89, own_ar Z .int [(.int (0)), (.int 0)])]) rfl (fun T X => ?_)
        refine k_iinc C X at_107 rfl (v := 1) rfl rfl (l' := #[.val (.int x0), .val (.int x1), .val (.int x2), .val (.int x3), .val (.int x4), .val (.int x5), .val (.int (x0 &&& (7))), .val (.int c2), .val (.int (1)), .val (.int (1)), .val (.int (0)), .val (.int (2)), .val (.ref o89), .val (.int (1)), .unset, .unset, .unset, .unset, .unset, .unset, .unset, .unset, .unset, .unset, .unset, .unset, .unset, .unset, .unset]) rfl ?_
        refine k_iload C X at_110 rfl rfl ?_
        refine k_if_eq C X at_112 rfl (tpc := 124) rfl (fun hc => (absurd hc (by decide) : False).elim) (fun _ => ?_)
        refine k_aload C X at_115 rfl rfl rfl ?_
        refine k_iload C X at_117 rfl rfl ?_
        refine k_iconst C X at_119 rfl (v := 1) rfl ?_
        refine k_iastore C X at_120 rfl (ix := 0) (i := 1) rfl (by decide) (by decide) (Nat.le_of_ble_eq_true rfl) (vs' := [(.int (0)), (.int (1))]) rfl (L' := [(o89, own_ar Z .int [(.int (0)), (.int (1))])]) rfl (fun T X => ?_)
        refine k_iinc C X at_121 rfl (v := 1) rfl rfl (l' := #[.val (.int x0), .val (.int x1), .val (.int x2), .val (.int x3), .val (.int x4), .val (.int x5), .val (.int (x0 &&& (7))), .val (.int c2), .val (.int (1)), .val (.int (1)), .val (.int (0)), .val (.int (2)), .val (.ref o89), .val (.int (2)), .unset, .unset, .unset, .unset, .unset, .unset, .unset, .unset, .unset, .unset, .unset, .unset, .unset, .unset, .unset]) rfl ?_
        refine k_iload C X at_124 rfl rfl ?_
        refine k_if_eq C X at_126 rfl (tpc := 138) rfl (fun _ => ?_) (fun hc => (absurd hc (by decide) : False).elim)
        refine k_new C X at_138 rfl (hw _ (List.mem_of_getElem? (i := 1) rfl)) (hw _ (List.mem_of_getElem? (i := 2) rfl)) (hw _ (List.mem_of_getElem? (i := 3) rfl)) (own_lay_FreeParameters hw) (fs := [("total", "I", (.int (0))), ("indices", "[I", .null)]) rfl (by decide) (by decide) (fun T o138 X => ?_)
        refine k_dup C X at_141 rfl rfl ?_
        refine k_iconst C X at_142 rfl (v := 3) rfl ?_
        refine k_aload C X at_143 rfl rfl rfl ?_
        refine k_init C X at_145 rfl rfl (hw _ (List.mem_of_getElem? (i := 4) rfl)) (hw _ (List.mem_of_getElem? (i := 5) rfl)) (hw _ (List.mem_of_getElem? (i := 3) rfl)) (hw _ (List.mem_of_getElem? (i := 6) rfl)) (by decide) (own_init_01 l Z a0 hw o138 o89 ([])) (W := 1) (argsL := [(.int (3)), (.ref o89)]) (rest := [(.ref o138)]) rfl rfl rfl own_pd0 rfl (Nat.le_of_eq rfl) (by decide) (by decide) (by decide) (by decide) (fun v T M hQ X => ?_)
        obtain ⟨rfl, qi, rfl⟩ := hQ
        refine k_astore C X at_148 rfl rfl (l' := #[.val (.int x0), .val (.int x1), .val (.int x2), .val (.int x3), .val (.int x4), .val (.int x5), .val (.int (x0 &&& (7))), .val (.int c2), .val (.int (1)), .val (.int (1)), .val (.int (0)), .val (.int (2)), .val (.ref o89), .val (.int (2)), .val (.ref o138), .unset, .unset, .unset, .unset, .unset, .unset, .unset, .unset, .unset, .unset, .unset, .unset, .unset, .unset]) rfl ?_
        refine k_iconst C X at_150 rfl (v := 3) rfl ?_
        refine k_newarray C X at_151 rfl (ty := .double) rfl (hw _ (List.mem_of_getElem? (i := 14) rfl)) (by decide) (cap := 3) (by decide) (by decide) (by decide) (by decide) (vs := [(.double 0), (.double 0), (.double 0)]) rfl (fun T o151 X => ?_)
        refine k_astore C X at_153 rfl rfl (l' := #[.val (.int x0), .val (.int x1), .val (.int x2), .val (.int x3), .val (.int x4), .val (.int x5), .val (.int (x0 &&& (7))), .val (.int c2), .val (.int (1)), .val (.int (1)), .val (.int (0)), .val (.int (2)), .val (.ref o89), .val (.int (2)), .val (.ref o138), .val (.ref o151), .unset, .unset, .unset, .unset, .unset, .unset, .unset, .unset, .unset, .unset, .unset, .unset, .unset]) rfl ?_
        refine k_aload C X at_155 rfl rfl rfl ?_
        refine k_iconst C X at_157 rfl (v := 0) rfl ?_
        refine k_iloadN C X at_158 rfl rfl ?_
        refine k_i2d C X at_159 rfl ?_
        refine k_dastore C X at_160 rfl (ix := 0) (i := 0) rfl (by decide) (by decide) (Nat.le_of_ble_eq_true rfl) (vs' := [(.double (FP.i2d x1)), (.double 0), (.double 0)]) rfl (L' := [(o151, own_ar Z .double [(.double (FP.i2d x1)), (.double 0), (.double 0)]), (qi, own_ar Z .int [(.int (2))]), (o138, own_ob Z "com/example/residuum/residuum/FreeParameters" [("total", "I", (.int (3))), ("indices", "[I", (.ref qi))]), (o89, own_ar Z .int [(.int (0)), (.int (1))])]) rfl (fun T X => ?_)
        refine k_aload C X at_161 rfl rfl rfl ?_
        refine k_iconst C X at_163 rfl (v := 1) rfl ?_
        refine k_iloadN C X at_164 rfl rfl ?_
        refine k_i2d C X at_165 rfl ?_
        refine k_dastore C X at_166 rfl (ix := 0) (i := 1) rfl (by decide) (by decide) (Nat.le_of_ble_eq_true rfl) (vs' := [(.double (FP.i2d x1)), (.double (FP.i2d x2)), (.double 0)]) rfl (L' := [(o151, own_ar Z .double [(.double (FP.i2d x1)), (.double (FP.i2d x2)), (.double 0)]), (qi, own_ar Z .int [(.int (2))]), (o138, own_ob Z "com/example/residuum/residuum/FreeParameters" [("total", "I", (.int (3))), ("indices", "[I", (.ref qi))]), (o89, own_ar Z .int [(.int (0)), (.int (1))])]) rfl (fun T X => ?_)
        refine k_aload C X at_167 rfl rfl rfl ?_
        refine k_iconst C X at_169 rfl (v := 2) rfl ?_
        refine k_iloadN C X at_170 rfl rfl ?_
        refine k_i2d C X at_171 rfl ?_
        refine k_dastore C X at_172 rfl (ix := 0) (i := 2) rfl (by decide) (by decide) (Nat.le_of_ble_eq_true rfl) (vs' := [(.double (FP.i2d x1)), (.double (FP.i2d x2)), (.double (FP.i2d x3))]) rfl (L' := [(o151, own_ar Z .double [(.double (FP.i2d x1)), (.double (FP.i2d x2)), (.double (FP.i2d x3))]), (qi, own_ar Z .int [(.int (2))]), (o138, own_ob Z "com/example/residuum/residuum/FreeParameters" [("total", "I", (.int (3))), ("indices", "[I", (.ref qi))]), (o89, own_ar Z .int [(.int (0)), (.int (1))])]) rfl (fun T X => ?_)
        refine k_iconst C X at_173 rfl (v := 3) rfl ?_
        refine k_newarray C X at_174 rfl (ty := .double) rfl (hw _ (List.mem_of_getElem? (i := 14) rfl)) (by decide) (cap := 3) (by decide) (by decide) (by decide) (by decide) (vs := [(.double 0), (.double 0), (.double 0)]) rfl (fun T o174 X => ?_)
        refine k_astore C X at_176 rfl rfl (l' := #[.val (.int x0), .val (.int x1), .val (.int x2), .val (.int x3), .val (.int x4), .val (.int x5), .val (.int (x0 &&& (7))), .val (.int c2), .val (.int (1)), .val (.int (1)), .val (.int (0)), .val (.int (2)), .val (.ref o89), .val (.int (2)), .val (.ref o138), .val (.ref o151), .val (.ref o174), .unset, .unset, .unset, .unset, .unset, .unset, .unset, .unset, .unset, .unset, .unset, .unset]) rfl ?_
        refine k_aload C X at_178 rfl rfl rfl ?_
        refine k_iconst C X at_180 rfl (v := 0) rfl ?_
        refine k_iload C X at_181 rfl rfl ?_
        refine k_i2d C X at_183 rfl ?_
        refine k_dastore C X at_184 rfl (ix := 0) (i := 0) rfl (by decide) (by decide) (Nat.le_of_ble_eq_true rfl) (vs' := [(.double (FP.i2d x4)), (.double 0), (.double 0)]) rfl (L' := [(o174, own_ar Z .double [(.double (FP.i2d x4)), (.double 0), (.double 0)]), (o151, own_ar Z .double [(.double (FP.i2d x1)), (.double (FP.i2d x2)), (.double (FP.i2d x3))]), (qi, own_ar Z .int [(.int (2))]), (o138, own_ob Z "com/example/residuum/residuum/FreeParameters" [("total", "I", (.int (3))), ("indices", "[I", (.ref qi))]), (o89, own_ar Z .int [(.int (0)), (.int (1))])]) rfl (fun T X => ?_)
        refine k_aload C X at_185 rfl rfl rfl ?_
        refine k_iconst C X at_187 rfl (v := 1) rfl ?_
        refine k_iload C X at_188 rfl rfl ?_
        refine k_i2d C X at_190 rfl ?_
        refine k_dastore C X at_191 rfl (ix := 0) (i := 1) rfl (by decide) (by decide) (Nat.le_of_ble_eq_true rfl) (vs' := [(.double (FP.i2d x4)), (.double (FP.i2d x5)), (.double 0)]) rfl (L' := [(o174, own_ar Z .double [(.double (FP.i2d x4)), (.double (FP.i2d x5)), (.double 0)]), (o151, own_ar Z .double [(.double (FP.i2d x1)), (.double (FP.i2d x2)), (.double (FP.i2d x3))]), (qi, own_ar Z .int [(.int (2))]), (o138, own_ob Z "com/example/residuum/residuum/FreeParameters" [("total", "I", (.int (3))), ("indices", "[I", (.ref qi))]), (o89, own_ar Z .int [(.int (0)), (.int (1))])]) rfl (fun T X => ?_)
        refine k_aload C X at_192 rfl rfl rfl ?_
        refine k_iconst C X at_194 rfl (v := 2) rfl ?_
        refine k_iload C X at_195 rfl rfl ?_
        refine k_i2d C X at_197 rfl ?_
        refine k_dastore C X at_198 rfl (ix := 0) (i := 2) rfl (by decide) (by decide) (Nat.le_of_ble_eq_true rfl) (vs' := [(.double (FP.i2d x4)), (.double (FP.i2d x5)), (.double (FP.i2d c2))]) rfl (L' := [(o174, own_ar Z .double [(.double (FP.i2d x4)), (.double (FP.i2d x5)), (.double (FP.i2d c2))]), (o151, own_ar Z .double [(.double (FP.i2d x1)), (.double (FP.i2d x2)), (.double (FP.i2d x3))]), (qi, own_ar Z .int [(.int (2))]), (o138, own_ob Z "com/example/residuum/residuum/FreeParameters" [("total", "I", (.int (3))), ("indices", "[I", (.ref qi))]), (o89, own_ar Z .int [(.int (0)), (.int (1))])]) rfl (fun T X => ?_)
        refine k_iconst C X at_199 rfl (v := 3) rfl ?_
        refine k_iload C X at_200 rfl rfl ?_
        refine k_isub C X at_202 rfl ?_
        refine k_istore C X at_203 rfl (l' := #[.val (.int x0), .val (.int x1), .val (.int x2), .val (.int x3), .val (.int x4), .val (.int x5), .val (.int (x0 &&& (7))), .val (.int c2), .val (.int (1)), .val (.int (1)), .val (.int (0)), .val (.int (2)), .val (.ref o89), .val (.int (2)), .val (.ref o138), .val (.ref o151), .val (.ref o174), .val (.int (1)), .unset, .unset, .unset, .unset, .unset, .unset, .unset, .unset, .unset, .unset, .unset]) rfl ?_
        refine k_iload C X at_205 rfl rfl ?_
        refine k_newarray C X at_207 rfl (ty := .double) rfl (hw _ (List.mem_of_getElem? (i := 14) rfl)) (by decide) (cap := 1) (by decide) (by decide) (by decide) (by decide) (vs := [(.double 0)]) rfl (fun T o207 X => ?_)
        refine k_astore C X at_209 rfl rfl (l' := #[.val (.int x0), .val (.int x1), .val (.int x2), .val (.int x3), .val (.int x4), .val (.int x5), .val (.int (x0 &&& (7))), .val (.int c2), .val (.int (1)), .val (.int (1)), .val (.int (0)), .val (.int (2)), .val (.ref o89), .val (.int (2)), .val (.ref o138), .val (.ref o151), .val (.ref o174), .val (.int (1)), .val (.ref o207), .unset, .unset, .unset, .unset, .unset, .unset, .unset, .unset, .unset, .unset]) rfl ?_
        refine k_iload C X at_211 rfl rfl ?_
        refine k_if_le C X at_213 rfl (tpc := 224) rfl (fun hc => (absurd hc (by decide) : False).elim) (fun _ => ?_)
        refine k_aload C X at_216 rfl rfl rfl ?_
        refine k_iconst C X at_218 rfl (v := 0) rfl ?_
        refine k_aload C X at_219 rfl rfl rfl ?_
        refine k_iconst C X at_221 rfl (v := 0) rfl ?_
        refine k_daload C X at_222 rfl (ix := 1) (i := 0) rfl (by decide) (by decide) rfl ?_
        refine k_dastore C X at_223 rfl (ix := 0) (i := 0) rfl (by decide) (by decide) (Nat.le_of_ble_eq_true rfl) (vs' := [(.double (FP.i2d x4))]) rfl (L' := [(o207, own_ar Z .double [(.double (FP.i2d x4))]), (o174, own_ar Z .double [(.double (FP.i2d x4)), (.double (FP.i2d x5)), (.double (FP.i2d c2))]), (o151, own_ar Z .double [(.double (FP.i2d x1)), (.double (FP.i2d x2)), (.double (FP.i2d x3))]), (qi, own_ar Z .int [(.int (2))]), (o138, own_ob Z "com/example/residuum/residuum/FreeParameters" [("total", "I", (.int (3))), ("indices", "[I", (.ref qi))]), (o89, own_ar Z .int [(.int (0)), (.int (1))])]) rfl (fun T X => ?_)
        refine k_iload C X at_224 rfl rfl ?_
        refine k_iconst C X at_226 rfl (v := 1) rfl ?_
        refine k_icmp_le C X at_227 rfl (tpc := 238) rfl (fun _ => ?_) (fun hc => (absurd hc (by decide) : False).elim)
        refine k_iload C X at_238 rfl rfl ?_
        refine k_iconst C X at_240 rfl (v := 2) rfl ?_
        refine k_icmp_le C X at_241 rfl (tpc := 252) rfl (fun _ => ?_) (fun hc => (absurd hc (by decide) : False).elim)
        refine k_aload C X at_252 rfl rfl rfl ?_
        refine k_aload C X at_254 rfl rfl rfl ?_
        refine k_aload C X at_256 rfl rfl rfl ?_
        refine k_virtual C X at_258 rfl (hw _ (List.mem_of_getElem? (i := 15) rfl)) (hw _ (List.mem_of_getElem? (i := 16) rfl)) (hw _ (List.mem_of_getElem? (i := 3) rfl)) (hw _ (List.mem_of_getElem? (i := 19) rfl)) (hw _ (List.mem_of_getElem? (i := 18) rfl)) (hw _ (List.mem_of_getElem? (i := 17) rfl)) (by decide) (own_nf C.2.2.2.1 (hw _ (List.mem_of_getElem? (i := 18) rfl))) (own_eL (ix := 4) rfl) (own_moved_01 l Z a0 hw o138 o151 o207 o174 qi [(.double (FP.i2d x4)), (.double (FP.i2d x5)), (.double (FP.i2d c2))] (FP.i2d x1) (FP.i2d x2) (FP.i2d x3) (FP.i2d x4) (own_dd _ _) ([(o89, own_ar Z .int [(.int (0)), (.int (1))])])) (W := 0) (argsL := [(.ref o151), (.ref o207)]) (rest := []) rfl rfl rfl own_pd1 rfl (Nat.le_of_eq rfl) (by decide) (by decide) (by decide) (by decide) (fun v T M hQ X => ?_)
        obtain ⟨rr, rfl, rfl⟩ := hQ
        refine k_astore C X at_261 rfl rfl (l' := #[.val (.int x0), .val (.int x1), .val (.int x2), .val (.int x3), .val (.int x4), .val (.int x5), .val (.int (x0 &&& (7))), .val (.int c2), .val (.int (1)), .val (.int (1)), .val (.int (0)), .val (.int (2)), .val (.ref o89), .val (.int (2)), .val (.ref o138), .val (.ref o151), .val (.ref o174), .val (.int (1)), .val (.ref o207), .val (.ref rr), .unset, .unset, .unset, .unset, .unset, .unset, .unset, .unset, .unset]) rfl ?_
        refine k_aload C X at_263 rfl rfl rfl ?_
        refine k_aload C X at_265 rfl rfl rfl ?_
        have hne := X.heap.ne (i := 0) (j := 3) rfl rfl (by decide)
        refine k_acmp_eq C X at_267 rfl (tpc := 277) rfl rfl rfl (fun hc => (hne (Value.ref.inj hc) : False).elim) (fun _ => ?_)
        refine k_aload C X at_270 rfl rfl rfl ?_
        refine k_arraylength C X at_272 rfl (ix := 0) rfl (z := (3)) rfl ?_
        refine k_iconst C X at_273 rfl (v := 3) rfl ?_
        refine k_icmp_eq C X at_274 rfl (tpc := 279) rfl (fun _ => ?_) (fun hc => (absurd hc (by decide) : False).elim)
        refine k_aload C X at_279 rfl rfl rfl ?_
        refine k_iconst C X at_281 rfl (v := 0) rfl ?_
        refine k_daload C X at_282 rfl (ix := 3) (i := 0) rfl (by decide) (by decide) rfl ?_
        refine k_iloadN C X at_283 rfl rfl ?_
        refine k_i2d C X at_284 rfl ?_
        refine k_dcmpl C X at_285 rfl ?_
        refine k_ifdl_ne C X at_286 rfl (tpc := 309) rfl (fun hc => (hc (own_eq (Jvm.FP.Core.i2d_int _) (Jvm.FP.Core.i2d_int _) rfl) : False).elim) (fun _ => ?_)
        refine k_aload C X at_289 rfl rfl rfl ?_
        refine k_iconst C X at_291 rfl (v := 1) rfl ?_
        refine k_daload C X at_292 rfl (ix := 3) (i := 1) rfl (by decide) (by decide) rfl ?_
        refine k_iloadN C X at_293 rfl rfl ?_
        refine k_i2d C X at_294 rfl ?_
        refine k_dcmpl C X at_295 rfl ?_
        refine k_ifdl_ne C X at_296 rfl (tpc := 309) rfl (fun hc => (hc (own_eq (Jvm.FP.Core.i2d_int _) (Jvm.FP.Core.i2d_int _) rfl) : False).elim) (fun _ => ?_)
        refine k_aload C X at_299 rfl rfl rfl ?_
        refine k_iconst C X at_301 rfl (v := 2) rfl ?_
        refine k_daload C X at_302 rfl (ix := 3) (i := 2) rfl (by decide) (by decide) rfl ?_
        refine k_iloadN C X at_303 rfl rfl ?_
        refine k_i2d C X at_304 rfl ?_
        refine k_dcmpl C X at_305 rfl ?_
        refine k_ifdl_eq C X at_306 rfl (tpc := 311) rfl (fun _ => ?_) (fun hc => (hc (own_eq (Jvm.FP.Core.i2d_int _) (Jvm.FP.Core.i2d_int _) rfl) : False).elim)
        refine k_iconst C X at_311 rfl (v := 0) rfl ?_
        refine k_istore C X at_312 rfl (l' := #[.val (.int x0), .val (.int x1), .val (.int x2), .val (.int x3), .val (.int x4), .val (.int x5), .val (.int (x0 &&& (7))), .val (.int c2), .val (.int (1)), .val (.int (1)), .val (.int (0)), .val (.int (2)), .val (.ref o89), .val (.int (2)), .val (.ref o138), .val (.ref o151), .val (.ref o174), .val (.int (1)), .val (.ref o207), .val (.ref rr), .val (.int (0)), .unset, .unset, .unset, .unset, .unset, .unset, .unset, .unset]) rfl ?_
        refine k_iload C X at_314 rfl rfl ?_
        refine k_if_eq C X at_316 rfl (tpc := 323) rfl (fun hc => (absurd hc (by decide) : False).elim) (fun _ => ?_)
        refine k_iconst C X at_319 rfl (v := 0) rfl ?_
        refine k_goto C X at_320 (tpc := 324) rfl ?_
        refine k_istore C X at_324 rfl (l' := #[.val (.int x0), .val (.int x1), .val (.int x2), .val (.int x3), .val (.int x4), .val (.int x5), .val (.int (x0 &&& (7))), .val (.int c2), .val (.int (1)), .val (.int (1)), .val (.int (0)), .val (.int (2)), .val (.ref o89), .val (.int (2)), .val (.ref o138), .val (.ref o151), .val (.ref o174), .val (.int (1)), .val (.ref o207), .val (.ref rr), .val (.int (0)), .val (.int (0)), .unset, .unset, .unset, .unset, .unset, .unset, .unset]) rfl ?_
        refine k_iload C X at_326 rfl rfl ?_
        refine k_if_eq C X at_328 rfl (tpc := 335) rfl (fun hc => (absurd hc (by decide) : False).elim) (fun _ => ?_)
        refine k_iconst C X at_331 rfl (v := 0) rfl ?_
        refine k_goto C X at_332 (tpc := 336) rfl ?_
        refine k_iload C X at_336 rfl rfl ?_
        refine k_if_eq C X at_338 rfl (tpc := 345) rfl (fun hc => (absurd hc (by decide) : False).elim) (fun _ => ?_)
        refine k_iconst C X at_341 rfl (v := 0) rfl ?_
        refine k_goto C X at_342 (tpc := 346) rfl ?_
        refine k_iadd C X at_346 rfl ?_
        refine k_istore C X at_347 rfl (l' := #[.val (.int x0), .val (.int x1), .val (.int x2), .val (.int x3), .val (.int x4), .val (.int x5), .val (.int (x0 &&& (7))), .val (.int c2), .val (.int (1)), .val (.int (1)), .val (.int (0)), .val (.int (2)), .val (.ref o89), .val (.int (2)), .val (.ref o138), .val (.ref o151), .val (.ref o174), .val (.int (1)), .val (.ref o207), .val (.ref rr), .val (.int (0)), .val (.int (0)), .val (.int (0)), .unset, .unset, .unset, .unset, .unset, .unset]) rfl ?_
        refine k_iload C X at_349 rfl rfl ?_
        refine k_if_eq C X at_351 rfl (tpc := 359) rfl (fun hc => (absurd hc (by decide) : False).elim) (fun _ => ?_)
        refine k_iloadN C X at_354 rfl rfl ?_
        refine k_i2d C X at_355 rfl ?_
        refine k_goto C X at_356 (tpc := 367) rfl ?_
        refine k_dstore C X at_367 rfl (l' := #[.val (.int x0), .val (.int x1), .val (.int x2), .val (.int x3), .val (.int x4), .val (.int x5), .val (.int (x0 &&& (7))), .val (.int c2), .val (.int (1)), .val (.int (1)), .val (.int (0)), .val (.int (2)), .val (.ref o89), .val (.int (2)), .val (.ref o138), .val (.ref o151), .val (.ref o174), .val (.int (1)), .val (.ref o207), .val (.ref rr), .val (.int (0)), .val (.int (0)), .val (.int (0)), .val (.double (FP.i2d x1)), .second, .unset, .unset, .unset, .unset]) rfl ?_
        refine k_iload C X at_369 rfl rfl ?_
        refine k_if_eq C X at_371 rfl (tpc := 379) rfl (fun hc => (absurd hc (by decide) : False).elim) (fun _ => ?_)
        refine k_iloadN C X at_374 rfl rfl ?_
        refine k_i2d C X at_375 rfl ?_
        refine k_goto C X at_376 (tpc := 387) rfl ?_
        refine k_dstore C X at_387 rfl (l' := #[.val (.int x0), .val (.int x1), .val (.int x2), .val (.int x3), .val (.int x4), .val (.int x5), .val (.int (x0 &&& (7))), .val (.int c2), .val (.int (1)), .val (.int (1)), .val (.int (0)), .val (.int (2)), .val (.ref o89), .val (.int (2)), .val (.ref o138), .val (.ref o151), .val (.ref o174), .val (.int (1)), .val (.ref o207), .val (.ref rr), .val (.int (0)), .val (.int (0)), .val (.int (0)), .val (.double (FP.i2d x1)), .second, .val (.double (FP.i2d x2)), .second, .unset, .unset]) rfl ?_
        refine k_iload C X at_389 rfl rfl ?_
        refine k_if_eq C X at_391 rfl (tpc := 399) rfl (fun _ => ?_) (fun hc => (absurd hc (by decide) : False).elim)
        refine k_iloadN C X at_399 rfl rfl ?_
        refine k_i2d C X at_400 rfl ?_
        refine k_aload C X at_401 rfl rfl rfl ?_
        refine k_iload C X at_403 rfl rfl ?_
        refine k_daload C X at_405 rfl (ix := 2) (i := 0) rfl (by decide) (by decide) rfl ?_
        refine k_daddE C X at_406 rfl (own_dd _ _) ?_
        refine k_dstore C X at_407 rfl (l' := #[.val (.int x0), .val (.int x1), .val (.int x2), .val (.int x3), .val (.int x4), .val (.int x5), .val (.int (x0 &&& (7))), .val (.int c2), .val (.int (1)), .val (.int (1)), .val (.int (0)), .val (.int (2)), .val (.ref o89), .val (.int (2)), .val (.ref o138), .val (.ref o151), .val (.ref o174), .val (.int (1)), .val (.ref o207), .val (.ref rr), .val (.int (0)), .val (.int (0)), .val (.int (0)), .val (.double (FP.i2d x1)), .second, .val (.double (FP.i2d x2)), .second, .val (.double (FP.dadd (FP.i2d x3) (FP.i2d x4))), .second]) rfl ?_
        refine k_aload C X at_409 rfl rfl rfl ?_
        refine k_iconst C X at_411 rfl (v := 0) rfl ?_
        refine k_daload C X at_412 rfl (ix := 0) (i := 0) rfl (by decide) (by decide) rfl ?_
        refine k_dload C X at_413 rfl rfl ?_
        refine k_dcmpl C X at_415 rfl ?_
        refine k_ifdl_ne C X at_416 rfl (tpc := 443) rfl (fun hc => (hc (own_self (own_nn (Jvm.FP.Core.i2d_int _))) : False).elim) (fun _ => ?_)
        refine k_aload C X at_419 rfl rfl rfl ?_
        refine k_iconst C X at_421 rfl (v := 1) rfl ?_
        refine k_daload C X at_422 rfl (ix := 0) (i := 1) rfl (by decide) (by decide) rfl ?_
        refine k_dload C X at_423 rfl rfl ?_
        refine k_dcmpl C X at_425 rfl ?_
        refine k_ifdl_ne C X at_426 rfl (tpc := 443) rfl (fun hc => (hc (own_self (own_nn (Jvm.FP.Core.i2d_int _))) : False).elim) (fun _ => ?_)
        refine k_aload C X at_429 rfl rfl rfl ?_
        refine k_iconst C X at_431 rfl (v := 2) rfl ?_
        refine k_daload C X at_432 rfl (ix := 0) (i := 2) rfl (by decide) (by decide) rfl ?_
        refine k_dload C X at_433 rfl rfl ?_
        refine k_dcmpl C X at_435 rfl ?_
        refine k_ifdl_ne C X at_436 rfl (tpc := 443) rfl (fun hc => (hc (own_self (own_dd _ _)) : False).elim) (fun _ => ?_)
        refine k_iconst C X at_439 rfl (v := 1) rfl ?_
        refine k_goto C X at_440 (tpc := 444) rfl ?_
        exact k_ireturn C X at_444 (by simp) rfl rfl (by decide) (by decide)
      · skip
        refine k_iconst C X at_46 rfl (v := 1) rfl ?_
        refine k_goto C X at_47 (tpc := 51) rfl ?_
        refine k_istore C X at_51 rfl (l' := #[.val (.int x0), .val (.int x1), .val (.int x2), .val (.int x3), .val (.int x4), .val (.int x5), .val (.int (x0 &&& (7))), .val (.int c2), .val (.int (1)), .val (.int (1)), .val (.int (1)), .unset, .unset, .unset, .unset, .unset, .unset, .unset, .unset, .unset, .unset, .unset, .unset, .unset, .unset, .unset, .unset, .unset, .unset]) rfl ?_
        refine k_iload C X at_53 rfl rfl ?_
        refine k_if_eq C X at_55 rfl (tpc := 62) rfl (fun hc => (absurd hc (by decide) : False).elim) (fun _ => ?_)
        refine k_iconst C X at_58 rfl (v := 1) rfl ?_
        refine k_goto C X at_59 (tpc := 63) rfl ?_
        refine k_iload C X at_63 rfl rfl ?_
        refine k_if_eq C X at_65 rfl (tpc := 72) rfl (fun hc => (absurd hc (by decide) : False).elim) (fun _ => ?_)
        refine k_iconst C X at_68 rfl (v := 1) rfl ?_
        refine k_goto C X at_69 (tpc := 73) rfl ?_
        refine k_iadd C X at_73 rfl ?_
        refine k_iload C X at_74 rfl rfl ?_
        refine k_if_eq C X at_76 rfl (tpc := 83) rfl (fun hc => (absurd hc (by decide) : False).elim) (fun _ => ?_)
        refine k_iconst C X at_79 rfl (v := 1) rfl ?_
        refine k_goto C X at_80 (tpc := 84) rfl ?_
        refine k_iadd C X at_84 rfl ?_
        refine k_istore C X at_85 rfl (l' := #[.val (.int x0), .val (.int x1), .val (.int x2), .val (.int x3), .val (.int x4), .val (.int x5), .val (.int (x0 &&& (7))), .val (.int c2), .val (.int (1)), .val (.int (1)), .val (.int (1)), .val (.int (3)), .unset, .unset, .unset, .unset, .unset, .unset, .unset, .unset, .unset, .unset, .unset, .unset, .unset, .unset, .unset, .unset, .unset]) rfl ?_
        refine k_iload C X at_87 rfl rfl ?_
        refine k_newarray C X at_89 rfl (ty := .int) rfl (hw _ (List.mem_of_getElem? (i := 0) rfl)) (by decide) (cap := 3) (by decide) (by decide) (by decide) (by decide) (vs := [(.int 0), (.int 0), (.int 0)]) rfl (fun T o89 X => ?_)
        refine k_astore C X at_91 rfl rfl (l' := #[.val (.int x0), .val (.int x1), .val (.int x2), .val (.int x3), .val (.int x4), .val (.int x5), .val (.int (x0 &&& (7))), .val (.int c2), .val (.int (1)), .val (.int (1)), .val (.int (1)), .val (.int (3)), .val (.ref o89), .unset, .unset, .unset, .unset, .unset, .unset, .unset, .unset, .unset, .unset, .unset, .unset, .unset, .unset, .unset, .unset]) rfl ?_
        refine k_iconst C X at_93 rfl (v := 0) rfl ?_
        refine k_istore C X at_94 rfl (l' := #[.val (.int x0), .val (.int x1), .val (.int x2), .val (.int x3), .val (.int x4), .val (.int x5), .val (.int (x0 &&& (7))), .val (.int c2), .val (.int (1)), .val (.int (1)), .val (.int (1)), .val (.int (3)), .val (.ref o89), .val (.int (0)), .unset, .unset, .unset, .unset, .unset, .unset, .unset, .unset, .unset, .unset, .unset, .unset, .unset, .unset, .unset]) rfl ?_
        refine k_iload C X at_96 rfl rfl ?_
        refine k_if_eq C X at_98 rfl (tpc := 110) rfl (fun hc => (absurd hc (by decide) : False).elim) (fun _ => ?_)
        refine k_aload C X at_101 rfl rfl rfl ?_
        refine k_iload C X at_103 rfl rfl ?_
        refine k_iconst C X at_105 rfl (v := 0) rfl ?_
        refine k_iastore C X at_106 rfl (ix := 0) (i := 0) rfl (by decide) (by decide) (Nat.le_of_ble_eq_true rfl) (vs' := [(.int (0)), (.int 0), (.int 0)]) rfl (L' := [(o89, own_ar Z .int [(.int (0)), (.int 0), (.int 0)])]) rfl (fun T X => ?_)
        refine k_iinc C X at_107 rfl (v := 1) rfl rfl (l' := #[.val (.int x0), .val (.int x1), .val (.int x2), .val (.int x3), .val (.int x4), .val (.int x5), .val (.int (x0 &&& (7))), .val (.int c2), .val (.int (1)), .val (.int (1)), .val (.int (1)), .val (.int (3)), .val (.ref o89), .val (.int (1)), .unset, .unset, .unset, .unset, .unset, .unset, .unset, .unset, .unset, .unset, .unset, .unset, .unset, .unset, .unset]) rfl ?_
        refine k_iload C X at_110 rfl rfl ?_
        refine k_if_eq C X at_112 rfl (tpc := 124) rfl (fun hc => (absurd hc (by decide) : False).elim) (fun _ => ?_)
        refine k_aload C X at_115 rfl rfl rfl ?_
        refine k_iload C X at_117 rfl rfl ?_
        refine k_iconst C X at_119 rfl (v := 1) rfl ?_
        refine k_iastore C X at_120 rfl (ix := 0) (i := 1) rfl (by decide) (by decide) (Nat.le_of_ble_eq_true rfl) (vs' := [(.int (0)), (.int (1)), (.int 0)]) rfl (L' := [(o89, own_ar Z .int [(.int (0)), (.int (1)), (.int 0)])]) rfl (fun T X => ?_)
        refine k_iinc C X at_121 rfl (v := 1) rfl rfl (l' := #[.val (.int x0), .val (.int x1), .val (.int x2), .val (.int x3), .val (.int x4), .val (.int x5), .val (.int (x0 &&& (7))), .val (.int c2), .val (.int (1)), .val (.int (1)), .val (.int (1)), .val (.int (3)), .val (.ref o89), .val (.int (2)), .unset, .unset, .unset, .unset, .unset, .unset, .unset, .unset, .unset, .unset, .unset, .unset, .unset, .unset, .unset]) rfl ?_
        refine k_iload C X at_124 rfl rfl ?_
        refine k_if_eq C X at_126 rfl (tpc := 138) rfl (fun hc => (absurd hc (by decide) : False).elim) (fun _ => ?_)
        refine k_aload C X at_129 rfl rfl rfl ?_
        refine k_iload C X at_131 rfl rfl ?_
        refine k_iconst C X at_133 rfl (v := 2) rfl ?_
        refine k_iastore C X at_134 rfl (ix := 0) (i := 2) rfl (by decide) (by decide) (Nat.le_of_ble_eq_true rfl) (vs' := [(.int (0)), (.int (1)), (.int (2))]) rfl (L' := [(o89, own_ar Z .int [(.int (0)), (.int (1)), (.int (2))])]) rfl (fun T X => ?_)
        refine k_iinc C X at_135 rfl (v := 1) rfl rfl (l' := #[.val (.int x0), .val (.int x1), .val (.int x2), .val (.int x3), .val (.int x4), .val (.int x5), .val (.int (x0 &&& (7))), .val (.int c2), .val (.int (1)), .val (.int (1)), .val (.int (1)), .val (.int (3)), .val (.ref o89), .val (.int (3)), .unset, .unset, .unset, .unset, .unset, .unset, .unset, .unset, .unset, .unset, .unset, .unset, .unset, .unset, .unset]) rfl ?_
        refine k_new C X at_138 rfl (hw _ (List.mem_of_getElem? (i := 1) rfl)) (hw _ (List.mem_of_getElem? (i := 2) rfl)) (hw _ (List.mem_of_getElem? (i := 3) rfl)) (own_lay_FreeParameters hw) (fs := [("total", "I", (.int (0))), ("indices", "[I", .null)]) rfl (by decide) (by decide) (fun T o138 X => ?_)
        refine k_dup C X at_141 rfl rfl ?_
        refine k_iconst C X at_142 rfl (v := 3) rfl ?_
        refine k_aload C X at_143 rfl rfl rfl ?_
        refine k_init C X at_145 rfl rfl (hw _ (List.mem_of_getElem? (i := 4) rfl)) (hw _ (List.mem_of_getElem? (i := 5) rfl)) (hw _ (List.mem_of_getElem? (i := 3) rfl)) (hw _ (List.mem_of_getElem? (i := 6) rfl)) (by decide) (own_init_012 l Z a0 hw o138 o89 ([])) (W := 1) (argsL := [(.int (3)), (.ref o89)]) (rest := [(.ref o138)]) rfl rfl rfl own_pd0 rfl (Nat.le_of_eq rfl) (by decide) (by decide) (by decide) (by decide) (fun v T M hQ X => ?_)
        obtain ⟨rfl, qi, rfl⟩ := hQ
        refine k_astore C X at_148 rfl rfl (l' := #[.val (.int x0), .val (.int x1), .val (.int x2), .val (.int x3), .val (.int x4), .val (.int x5), .val (.int (x0 &&& (7))), .val (.int c2), .val (.int (1)), .val (.int (1)), .val (.int (1)), .val (.int (3)), .val (.ref o89), .val (.int (3)), .val (.ref o138), .unset, .unset, .unset, .unset, .unset, .unset, .unset, .unset, .unset, .unset, .unset, .unset, .unset, .unset]) rfl ?_
        refine k_iconst C X at_150 rfl (v := 3) rfl ?_
        refine k_newarray C X at_151 rfl (ty := .double) rfl (hw _ (List.mem_of_getElem? (i := 14) rfl)) (by decide) (cap := 3) (by decide) (by decide) (by decide) (by decide) (vs := [(.double 0), (.double 0), (.double 0)]) rfl (fun T o151 X => ?_)
        refine k_astore C X at_153 rfl rfl (l' := #[.val (.int x0), .val (.int x1), .val (.int x2), .val (.int x3), .val (.int x4), .val (.int x5), .val (.int (x0 &&& (7))), .val (.int c2), .val (.int (1)), .val (.int (1)), .val (.int (1)), .val (.int (3)), .val (.ref o89), .val (.int (3)), .val (.ref o138), .val (.ref o151), .unset, .unset, .unset, .unset, .unset, .unset, .unset, .unset, .unset, .unset, .unset, .unset, .unset]) rfl ?_
        refine k_aload C X at_155 rfl rfl rfl ?_
        refine k_iconst C X at_157 rfl (v := 0) rfl ?_
        refine k_iloadN C X at_158 rfl rfl ?_
        refine k_i2d C X at_159 rfl ?_
        refine k_dastore C X at_160 rfl (ix := 0) (i := 0) rfl (by decide) (by decide) (Nat.le_of_ble_eq_true rfl) (vs' := [(.double (FP.i2d x1)), (.double 0), (.double 0)]) rfl (L' := [(o151, own_ar Z .double [(.double (FP.i2d x1)), (.double 0), (.double 0)]), (qi, own_ar Z .int []), (o138, own_ob Z "com/example/residuum/residuum/FreeParameters" [("total", "I", (.int (3))), ("indices", "[I", (.ref qi))]), (o89, own_ar Z .int [(.int (0)), (.int (1)), (.int (2))])]) rfl (fun T X => ?_)
        refine k_aload C X at_161 rfl rfl rfl ?_
        refine k_iconst C X at_163 rfl (v := 1) rfl ?_
        refine k_iloadN C X at_164 rfl rfl ?_
        refine k_i2d C X at_165 rfl ?_
        refine k_dastore C X at_166 rfl (ix := 0) (i := 1) rfl (by decide) (by decide) (Nat.le_of_ble_eq_true rfl) (vs' := [(.double (FP.i2d x1)), (.double (FP.i2d x2)), (.double 0)]) rfl (L' := [(o151, own_ar Z .double [(.double (FP.i2d x1)), (.double (FP.i2d x2)), (.double 0)]), (qi, own_ar Z .int []), (o138, own_ob Z "com/example/residuum/residuum/FreeParameters" [("total", "I", (.int (3))), ("indices", "[I", (.ref qi))]), (o89, own_ar Z .int [(.int (0)), (.int (1)), (.int (2))])]) rfl (fun T X => ?_)
        refine k_aload C X at_167 rfl rfl rfl ?_
        refine k_iconst C X at_169 rfl (v := 2) rfl ?_
        refine k_iloadN C X at_170 rfl rfl ?_
        refine k_i2d C X at_171 rfl ?_
        refine k_dastore C X at_172 rfl (ix := 0) (i := 2) rfl (by decide) (by decide) (Nat.le_of_ble_eq_true rfl) (vs' := [(.double (FP.i2d x1)), (.double (FP.i2d x2)), (.double (FP.i2d x3))]) rfl (L' := [(o151, own_ar Z .double [(.double (FP.i2d x1)), (.double (FP.i2d x2)), (.double (FP.i2d x3))]), (qi, own_ar Z .int []), (o138, own_ob Z "com/example/residuum/residuum/FreeParameters" [("total", "I", (.int (3))), ("indices", "[I", (.ref qi))]), (o89, own_ar Z .int [(.int (0)), (.int (1)), (.int (2))])]) rfl (fun T X => ?_)
        refine k_iconst C X at_173 rfl (v := 3) rfl ?_
        refine k_newarray C X at_174 rfl (ty := .double) rfl (hw _ (List.mem_of_getElem? (i := 14) rfl)) (by decide) (cap := 3) (by decide) (by decide) (by decide) (by decide) (vs := [(.double 0), (.double 0), (.double 0)]) rfl (fun T o174 X => ?_)
        refine k_astore C X at_176 rfl rfl (l' := #[.val (.int x0), .val (.int x1), .val (.int x2), .val (.int x3), .val (.int x4), .val (.int x5), .val (.int (x0 &&& (7))), .val (.int c2), .val (.int (1)), .val (.int (1)), .val (.int (1)), .val (.int (3)), .val (.ref o89), .val (.int (3)), .val (.ref o138), .val (.ref o151), .val (.ref o174), .unset, .unset, .unset, .unset, .unset, .unset, .unset, .unset, .unset, .unset, .unset, .unset]) rfl ?_
        refine k_aload C X at_178 rfl rfl rfl ?_
        refine k_iconst C X at_180 rfl (v := 0) rfl ?_
        refine k_iload C X at_181 rfl rfl ?_
        refine k_i2d C X at_183 rfl ?_
        refine k_dastore C X at_184 rfl (ix := 0) (i := 0) rfl (by decide) (by decide) (Nat.le_of_ble_eq_true rfl) (vs' := [(.double (FP.i2d x4)), (.double 0), (.double 0)]) rfl (L' := [(o174, own_ar Z .double [(.double (FP.i2d x4)), (.double 0), (.double 0)]), (o151, own_ar Z .double [(.double (FP.i2d x1)), (.double (FP.i2d x2)), (.double (FP.i2d x3))]), (qi, own_ar Z .int []), (o138, own_ob Z "com/example/residuum/residuum/FreeParameters" [("total", "I", (.int (3))), ("indices", "[I", (.ref qi))]), (o89, own_ar Z .int [(.int (0)), (.int (1)), (.int (2))])]) rfl (fun T X => ?_)
        refine k_aload C X at_185 rfl rfl rfl ?_
        refine k_iconst C X at_187 rfl (v := 1) rfl ?_
        refine k_iload C X at_188 rfl rfl ?_
        refine k_i2d C X at_190 rfl ?_
        refine k_dastore C X at_191 rfl (ix := 0) (i := 1) rfl (by decide) (by decide) (Nat.le_of_ble_eq_true rfl) (vs' := [(.double (FP.i2d x4)), (.double (FP.i2d x5)), (.double 0)]) rfl (L' := [(o174, own_ar Z .double [(.double (FP.i2d x4)), (.double (FP.i2d x5)), (.double 0)]), (o151, own_ar Z .double [(.double (FP.i2d x1)), (.double (FP.i2d x2)), (.double (FP.i2d x3))]), (qi, own_ar Z .int []), (o138, own_ob Z "com/example/residuum/residuum/FreeParameters" [("total", "I", (.int (3))), ("indices", "[I", (.ref qi))]), (o89, own_ar Z .int [(.int (0)), (.int (1)), (.int (2))])]) rfl (fun T X => ?_)
        refine k_aload C X at_192 rfl rfl rfl ?_
        refine k_iconst C X at_194 rfl (v := 2) rfl ?_
        refine k_iload C X at_195 rfl rfl ?_
        refine k_i2d C X at_197 rfl ?_
        refine k_dastore C X at_198 rfl (ix := 0) (i := 2) rfl (by decide) (by decide) (Nat.le_of_ble_eq_true rfl) (vs' := [(.double (FP.i2d x4)), (.double (FP.i2d x5)), (.double (FP.i2d c2))]) rfl (L' := [(o174, own_ar Z .double [(.double (FP.i2d x4)), (.double (FP.i2d x5)), (.double (FP.i2d c2))]), (o151, own_ar Z .double [(.double (FP.i2d x1)), (.double (FP.i2d x2)), (.double (FP.i2d x3))]), (qi, own_ar Z .int []), (o138, own_ob Z "com/example/residuum/residuum/FreeParameters" [("total", "I", (.int (3))), ("indices", "[I", (.ref qi))]), (o89, own_ar Z .int [(.int (0)), (.int (1)), (.int (2))])]) rfl (fun T X => ?_)
        refine k_iconst C X at_199 rfl (v := 3) rfl ?_
        refine k_iload C X at_200 rfl rfl ?_
        refine k_isub C X at_202 rfl ?_
        refine k_istore C X at_203 rfl (l' := #[.val (.int x0), .val (.int x1), .val (.int x2), .val (.int x3), .val (.int x4), .val (.int x5), .val (.int (x0 &&& (7))), .val (.int c2), .val (.int (1)), .val (.int (1)), .val (.int (1)), .val (.int (3)), .val (.ref o89), .val (.int (3)), .val (.ref o138), .val (.ref o151), .val (.ref o174), .val (.int (0)), .unset, .unset, .unset, .unset, .unset, .unset, .unset, .unset, .unset, .unset, .unset]) rfl ?_
        refine k_iload C X at_205 rfl rfl ?_
        refine k_newarray C X at_207 rfl (ty := .double) rfl (hw _ (List.mem_of_getElem? (i := 14) rfl)) (by decide) (cap := 0) (by decide) (by decide) (by decide) (by decide) (vs := []) rfl (fun T o207 X => ?_)
        refine k_astore C X at_209 rfl rfl (l' := #[.val (.int x0), .val (.int x1), .val (.int x2), .val (.int x3), .val (.int x4), .val (.int x5), .val (.int (x0 &&& (7))), .val (.int c2), .val (.int (1)), .val (.int (1)), .val (.int (1)), .val (.int (3)), .val (.ref o89), .val (.int (3)), .val (.ref o138), .val (.ref o151), .val (.ref o174), .val (.int (0)), .val (.ref o207), .unset, .unset, .unset, .unset, .unset, .unset, .unset, .unset, .unset, .unset]) rfl ?_
        refine k_iload C X at_211 rfl rfl ?_
        refine k_if_le C X at_213 rfl (tpc := 224) rfl (fun _ => ?_) (fun hc => (absurd hc (by decide) : False).elim)
        refine k_iload C X at_224 rfl rfl ?_
        refine k_iconst C X at_226 rfl (v := 1) rfl ?_
        refine k_icmp_le C X at_227 rfl (tpc := 238) rfl (fun _ => ?_) (fun hc => (absurd hc (by decide) : False).elim)
        refine k_iload C X at_238 rfl rfl ?_
        refine k_iconst C X at_240 rfl (v := 2) rfl ?_
        refine k_icmp_le C X at_241 rfl (tpc := 252) rfl (fun _ => ?_) (fun hc => (absurd hc (by decide) : False).elim)
        refine k_aload C X at_252 rfl rfl rfl ?_
        refine k_aload C X at_254 rfl rfl rfl ?_
        refine k_aload C X at_256 rfl rfl rfl ?_
        refine k_virtual C X at_258 rfl (hw _ (List.mem_of_getElem? (i := 15) rfl)) (hw _ (List.mem_of_getElem? (i := 16) rfl)) (hw _ (List.mem_of_getElem? (i := 3) rfl)) (hw _ (List.mem_of_getElem? (i := 19) rfl)) (hw _ (List.mem_of_getElem? (i := 18) rfl)) (hw _ (List.mem_of_getElem? (i := 17) rfl)) (by decide) (own_nf C.2.2.2.1 (hw _ (List.mem_of_getElem? (i := 18) rfl))) (own_eL (ix := 4) rfl) (own_moved_012 l Z a0 hw o138 o151 o207 o174 qi [(.double (FP.i2d x4)), (.double (FP.i2d x5)), (.double (FP.i2d c2))] (FP.i2d x1) (FP.i2d x2) (FP.i2d x3)  ([(o89, own_ar Z .int [(.int (0)), (.int (1)), (.int (2))])])) (W := 0) (argsL := [(.ref o151), (.ref o207)]) (rest := []) rfl rfl rfl own_pd1 rfl (Nat.le_of_eq rfl) (by decide) (by decide) (by decide) (by decide) (fun v T M hQ X => ?_)
        obtain ⟨rr, rfl, rfl⟩ := hQ
        refine k_astore C X at_261 rfl rfl (l' := #[.val (.int x0), .val (.int x1), .val (.int x2), .val (.int x3), .val (.int x4), .val (.int x5), .val (.int (x0 &&& (7))), .val (.int c2), .val (.int (1)), .val (.int (1)), .val (.int (1)), .val (.int (3)), .val (.ref o89), .val (.int (3)), .val (.ref o138), .val (.ref o151), .val (.ref o174), .val (.int (0)), .val (.ref o207), .val (.ref rr), .unset, .unset, .unset, .unset, .unset, .unset, .unset, .unset, .unset]) rfl ?_
        refine k_aload C X at_263 rfl rfl rfl ?_
        refine k_aload C X at_265 rfl rfl rfl ?_
        have hne := X.heap.ne (i := 0) (j := 3) rfl rfl (by decide)
        refine k_acmp_eq C X at_267 rfl (tpc := 277) rfl rfl rfl (fun hc => (hne (Value.ref.inj hc) : False).elim) (fun _ => ?_)
        refine k_aload C X at_270 rfl rfl rfl ?_
        refine k_arraylength C X at_272 rfl (ix := 0) rfl (z := (3)) rfl ?_
        refine k_iconst C X at_273 rfl (v := 3) rfl ?_
        refine k_icmp_eq C X at_274 rfl (tpc := 279) rfl (fun _ => ?_) (fun hc => (absurd hc (by decide) : False).elim)
        refine k_aload C X at_279 rfl rfl rfl ?_
        refine k_iconst C X at_281 rfl (v := 0) rfl ?_
        refine k_daload C X at_282 rfl (ix := 3) (i := 0) rfl (by decide) (by decide) rfl ?_
        refine k_iloadN C X at_283 rfl rfl ?_
        refine k_i2d C X at_284 rfl ?_
        refine k_dcmpl C X at_285 rfl ?_
        refine k_ifdl_ne C X at_286 rfl (tpc := 309) rfl (fun hc => (hc (own_eq (Jvm.FP.Core.i2d_int _) (Jvm.FP.Core.i2d_int _) rfl) : False).elim) (fun _ => ?_)
        refine k_aload C X at_289 rfl rfl rfl ?_
        refine k_iconst C X at_291 rfl (v := 1) rfl ?_
        refine k_daload C X at_292 rfl (ix := 3) (i := 1) rfl (by decide) (by decide) rfl ?_
        refine k_iloadN C X at_293 rfl rfl ?_
        refine k_i2d C X at_294 rfl ?_
        refine k_dcmpl C X at_295 rfl ?_
        refine k_ifdl_ne C X at_296 rfl (tpc := 309) rfl (fun hc => (hc (own_eq (Jvm.FP.Core.i2d_int _) (Jvm.FP.Core.i2d_int _) rfl) : False).elim) (fun _ => ?_)
        refine k_aload C X at_299 rfl rfl rfl ?_
        refine k_iconst C X at_301 rfl (v := 2) rfl ?_
        refine k_daload C X at_302 rfl (ix := 3) (i := 2) rfl (by decide) (by decide) rfl ?_
        refine k_iloadN C X at_303 rfl rfl ?_
        refine k_i2d C X at_304 rfl ?_
        refine k_dcmpl C X at_305 rfl ?_
        refine k_ifdl_eq C X at_306 rfl (tpc := 311) rfl (fun _ => ?_) (fun hc => (hc (own_eq (Jvm.FP.Core.i2d_int _) (Jvm.FP.Core.i2d_int _) rfl) : False).elim)
        refine k_iconst C X at_311 rfl (v := 0) rfl ?_
        refine k_istore C X at_312 rfl (l' := #[.val (.int x0), .val (.int x1), .val (.int x2), .val (.int x3), .val (.int x4), .val (.int x5), .val (.int (x0 &&& (7))), .val (.int c2), .val (.int (1)), .val (.int (1)), .val (.int (1)), .val (.int (3)), .val (.ref o89), .val (.int (3)), .val (.ref o138), .val (.ref o151), .val (.ref o174), .val (.int (0)), .val (.ref o207), .val (.ref rr), .val (.int (0)), .unset, .unset, .unset, .unset, .unset, .unset, .unset, .unset]) rfl ?_
        refine k_iload C X at_314 rfl rfl ?_
        refine k_if_eq C X at_316 rfl (tpc := 323) rfl (fun hc => (absurd hc (by decide) : False).elim) (fun _ => ?_)
        refine k_iconst C X at_319 rfl (v := 0) rfl ?_
        refine k_goto C X at_320 (tpc := 324) rfl ?_
        refine k_istore C X at_324 rfl (l' := #[.val (.int x0), .val (.int x1), .val (.int x2), .val (.int x3), .val (.int x4), .val (.int x5), .val (.int (x0 &&& (7))), .val (.int c2), .val (.int (1)), .val (.int (1)), .val (.int (1)), .val (.int (3)), .val (.ref o89), .val (.int (3)), .val (.ref o138), .val (.ref o151), .val (.ref o174), .val (.int (0)), .val (.ref o207), .val (.ref rr), .val (.int (0)), .val (.int (0)), .unset, .unset, .unset, .unset, .unset, .unset, .unset]) rfl ?_
        refine k_iload C X at_326 rfl rfl ?_
        refine k_if_eq C X at_328 rfl (tpc := 335) rfl (fun hc => (absurd hc (by decide) : False).elim) (fun _ => ?_)
        refine k_iconst C X at_331 rfl (v := 0) rfl ?_
        refine k_goto C X at_332 (tpc := 336) rfl ?_
        refine k_iload C X at_336 rfl rfl ?_
        refine k_if_eq C X at_338 rfl (tpc := 345) rfl (fun hc => (absurd hc (by decide) : False).elim) (fun _ => ?_)
        refine k_iconst C X at_341 rfl (v := 0) rfl ?_
        refine k_goto C X at_342 (tpc := 346) rfl ?_
        refine k_iadd C X at_346 rfl ?_
        refine k_istore C X at_347 rfl (l' := #[.val (.int x0), .val (.int x1), .val (.int x2), .val (.int x3), .val (.int x4), .val (.int x5), .val (.int (x0 &&& (7))), .val (.int c2), .val (.int (1)), .val (.int (1)), .val (.int (1)), .val (.int (3)), .val (.ref o89), .val (.int (3)), .val (.ref o138), .val (.ref o151), .val (.ref o174), .val (.int (0)), .val (.ref o207), .val (.ref rr), .val (.int (0)), .val (.int (0)), .val (.int (0)), .unset, .unset, .unset, .unset, .unset, .unset]) rfl ?_
        refine k_iload C X at_349 rfl rfl ?_
        refine k_if_eq C X at_351 rfl (tpc := 359) rfl (fun hc => (absurd hc (by decide) : False).elim) (fun _ => ?_)
        refine k_iloadN C X at_354 rfl rfl ?_
        refine k_i2d C X at_355 rfl ?_
        refine k_goto C X at_356 (tpc := 367) rfl ?_
        refine k_dstore C X at_367 rfl (l' := #[.val (.int x0), .val (.int x1), .val (.int x2), .val (.int x3), .val (.int x4), .val (.int x5), .val (.int (x0 &&& (7))), .val (.int c2), .val (.int (1)), .val (.int (1)), .val (.int (1)), .val (.int (3)), .val (.ref o89), .val (.int (3)), .val (.ref o138), .val (.ref o151), .val (.ref o174), .val (.int (0)), .val (.ref o207), .val (.ref rr), .val (.int (0)), .val (.int (0)), .val (.int (0)), .val (.double (FP.i2d x1)), .second, .unset, .unset, .unset, .unset]) rfl ?_
        refine k_iload C X at_369 rfl rfl ?_
        refine k_if_eq C X at_371 rfl (tpc := 379) rfl (fun hc => (absurd hc (by decide) : False).elim) (fun _ => ?_)
        refine k_iloadN C X at_374 rfl rfl ?_
        refine k_i2d C X at_375 rfl ?_
        refine k_goto C X at_376 (tpc := 387) rfl ?_
        refine k_dstore C X at_387 rfl (l' := #[.val (.int x0), .val (.int x1), .val (.int x2), .val (.int x3), .val (.int x4), .val (.int x5), .val (.int (x0 &&& (7))), .val (.int c2), .val (.int (1)), .val (.int (1)), .val (.int (1)), .val (.int (3)), .val (.ref o89), .val (.int (3)), .val (.ref o138), .val (.ref o151), .val (.ref o174), .val (.int (0)), .val (.ref o207), .val (.ref rr), .val (.int (0)), .val (.int (0)), .val (.int (0)), .val (.double (FP.i2d x1)), .second, .val (.double (FP.i2d x2)), .second, .unset, .unset]) rfl ?_
        refine k_iload C X at_389 rfl rfl ?_
        refine k_if_eq C X at_391 rfl (tpc := 399) rfl (fun hc => (absurd hc (by decide) : False).elim) (fun _ => ?_)
        refine k_iloadN C X at_394 rfl rfl ?_
        refine k_i2d C X at_395 rfl ?_
        refine k_goto C X at_396 (tpc := 407) rfl ?_
        refine k_dstore C X at_407 rfl (l' := #[.val (.int x0), .val (.int x1), .val (.int x2), .val (.int x3), .val (.int x4), .val (.int x5), .val (.int (x0 &&& (7))), .val (.int c2), .val (.int (1)), .val (.int (1)), .val (.int (1)), .val (.int (3)), .val (.ref o89), .val (.int (3)), .val (.ref o138), .val (.ref o151), .val (.ref o174), .val (.int (0)), .val (.ref o207), .val (.ref rr), .val (.int (0)), .val (.int (0)), .val (.int (0)), .val (.double (FP.i2d x1)), .second, .val (.double (FP.i2d x2)), .second, .val (.double (FP.i2d x3)), .second]) rfl ?_
        refine k_aload C X at_409 rfl rfl rfl ?_
        refine k_iconst C X at_411 rfl (v := 0) rfl ?_
        refine k_daload C X at_412 rfl (ix := 0) (i := 0) rfl (by decide) (by decide) rfl ?_
        refine k_dload C X at_413 rfl rfl ?_
        refine k_dcmpl C X at_415 rfl ?_
        refine k_ifdl_ne C X at_416 rfl (tpc := 443) rfl (fun hc => (hc (own_self (own_nn (Jvm.FP.Core.i2d_int _))) : False).elim) (fun _ => ?_)
        refine k_aload C X at_419 rfl rfl rfl ?_
        refine k_iconst C X at_421 rfl (v := 1) rfl ?_
        refine k_daload C X at_422 rfl (ix := 0) (i := 1) rfl (by decide) (by decide) rfl ?_
        refine k_dload C X at_423 rfl rfl ?_
        refine k_dcmpl C X at_425 rfl ?_
        refine k_ifdl_ne C X at_426 rfl (tpc := 443) rfl (fun hc => (hc (own_self (own_nn (Jvm.FP.Core.i2d_int _))) : False).elim) (fun _ => ?_)
        refine k_aload C X at_429 rfl rfl rfl ?_
        refine k_iconst C X at_431 rfl (v := 2) rfl ?_
        refine k_daload C X at_432 rfl (ix := 0) (i := 2) rfl (by decide) (by decide) rfl ?_
        refine k_dload C X at_433 rfl rfl ?_
        refine k_dcmpl C X at_435 rfl ?_
        refine k_ifdl_ne C X at_436 rfl (tpc := 443) rfl (fun hc => (hc (own_self (own_nn (Jvm.FP.Core.i2d_int _))) : False).elim) (fun _ => ?_)
        refine k_iconst C X at_439 rfl (v := 1) rfl ?_
        refine k_goto C X at_440 (tpc := 444) rfl ?_
        exact k_ireturn C X at_444 (by simp) rfl rfl (by decide) (by decide)
set_option maxRecDepth 65536 in
set_option maxHeartbeats 40000000 in
theorem comes_1 {Post : Tables → Env → Array Value → State → Outcome → State → Prop} (hpost : ∀ tb e args s v u, (limb_1_1.after args s (.returned v) u = true ∧ limb_1_2.after args s (.returned v) u = true ∧ True) → FrameEnd s (.returned v) u (Jvm.fieldLocs frame_1_writes args s ++ Jvm.arrayLocs frame_1_arrays args s ++ Jvm.staticLocs frame_1_statics s) 24 128 → Post tb e args s (.returned v) u) :
    ArmFor flags0 classFile x code maxLocals ret World_1 tables_1 room_1 Calls_1 rest_1 Pre_1 Post := by
  intro l hfl _ _ p e ha hc hk s m args below hf hA hF happ hP
  obtain ⟨hcalls, hrest, hpre⟩ := hP
  obtain ⟨-, -, -, hnamed, -, -, -, hat⟩ := (Spec.applies_iff hf).mp happ
  obtain ⟨hg, hn⟩ := and_e (Cond.before_iff.mp (show (Jvm.Cond.and given_1 narrow_1).before args s = true from hpre))
  obtain ⟨hcount, hg⟩ := and_e hg
  obtain ⟨g0, hg⟩ := and_e hg
  obtain ⟨g1, hg⟩ := and_e hg
  obtain ⟨g2, hg⟩ := and_e hg
  obtain ⟨g3, hg⟩ := and_e hg
  obtain ⟨g4, hg⟩ := and_e hg
  have g5 := hg
  obtain ⟨w0, w1, w2, w3, w4, w5, rfl⟩ : ∃ w0 w1 w2 w3 w4 w5 : Value, args = #[w0, w1, w2, w3, w4, w5] := by
    have hs : args.size = 6 := by simpa [Cond.value, given_1] using hcount
    obtain ⟨L⟩ := args
    match L, hs with
    | [w0, w1, w2, w3, w4, w5], _ => exact ⟨w0, w1, w2, w3, w4, w5, rfl⟩
  have hw := fun d (hd : d ∈ tables_1) => atoms_spec (ws := Jvm.Cond.code x code maxLocals ret :: tables_1) hat d (List.mem_cons_of_mem _ hd)
  have hfit : Fit s := fun {y c} hc i hi => by
    obtain ⟨ha, rfl⟩ := Array.getElem?_eq_some_iff.mp hc
    have q := List.all_eq_true.mp ((Array.all_eq_true_iff_forall_mem.mp hF) _ (Array.getElem_mem ha)) i (List.mem_range.mpr hi)
    simpa [Array.getElem?_eq_getElem hi] using q
  obtain ⟨i0, e0⟩ := is_v g0
  obtain rfl : w0 = (.int i0) := Option.some.inj e0
  obtain ⟨i1, e1⟩ := is_v g1
  obtain rfl : w1 = (.int i1) := Option.some.inj e1
  obtain ⟨i2, e2⟩ := is_v g2
  obtain rfl : w2 = (.int i2) := Option.some.inj e2
  obtain ⟨i3, e3⟩ := is_v g3
  obtain rfl : w3 = (.int i3) := Option.some.inj e3
  obtain ⟨i4, e4⟩ := is_v g4
  obtain rfl : w4 = (.int i4) := Option.some.inj e4
  obtain ⟨i5, e5⟩ := is_v g5
  obtain rfl : w5 = (.int i5) := Option.some.inj e5
  have hH : own_H s.heap s.heap [] := ⟨⟨Nat.le_refl _, fun _ _ q => q⟩, fun _ q => (nomatch q), List.nodup_nil⟩
  obtain ⟨n, o, h1, h2, h3, v, M, L, rfl, rfl, -, N, hq⟩ := (own_law l s _ hw i0 i1 i2 i3 i4 i5) tables_1 p e ha hc hk s m _ below hf ((Spec.applies_iff_loose hf).mp happ).1 ⟨rfl, State.Warmed39.refl s, hH⟩ trivial
  refine ⟨n, _, h1, h2, h3, hpost _ _ _ _ _ _ ⟨Cond.after_iff.mpr rfl, Cond.after_iff.mpr (eq_i res_at (Term.int_eval (1)) rfl), trivial⟩ ⟨hq.1, hq.2.1, (hq.2.2.sift fun y hy => Or.inr (N y hy)).mono (by decide) (by decide)⟩⟩
theorem main_1_1 : Claimed_1_1 := comes_1 fun _ _ _ _ _ _ h hF => ⟨h.1, hF⟩
theorem main_1_2 : Claimed_1_2 := comes_1 fun _ _ _ _ _ _ h hF => ⟨h.2.1, hF⟩
end Jvm.Pilot.@@N@@
namespace Jvm.Pilot.@@N@@
open Jvm Jvm.ClassFile Sem Op Lib Jvm.Free Jvm.Stand Jvm.Pilot.@@N@@.Jvm.D
/-! MADE BY PROGRAM (witnessworld.py) out of the Statement's table words and the real class files: 11 classes; the members and pool entries that the words name. The judged class is class 1, her method 1. -/
namespace start1
open Jvm.ClassFile
def u (s : String) : CpInfo := .utf8 (stringToUtf16 s)
/-- a pool by its gaps: so many unusable entries, then the entry; so many at the end -/
def gap : Nat → List CpInfo → List CpInfo
  | 0, r => r
  | n + 1, r => .unusable :: gap n r
def poolList (es : List (Nat × CpInfo)) (last : Nat) : List CpInfo := es.foldr (fun e r => gap e.1 (e.2 :: r)) (gap last [])
def pool (es : List (Nat × CpInfo)) (last : Nat) : Array CpInfo := ⟨poolList es last⟩
def fileOf (pool : Array CpInfo) (this : Nat) (attrs : Array Attribute := #[]) (ms : Array MethodInfo := #[]) (fl : Nat := 33) (sup : Nat := 0) (ifs : Array Nat := #[]) (fds : Array FieldInfo := #[]) : ClassFile where
  minorVersion := 0
  majorVersion := 65
  constantPool := pool
  accessFlags := fl
  thisClass := this
  superClass := sup
  interfaces := ifs
  fields := fds
  methods := ms
  attributes := attrs
def plain (name : String) (sup : Option ClassId) : Class where
  name := name
  kind := .ordinary
  loader := none
  accessFlags := 33
  super := sup
  interfaces := #[]
  cf := none
  fields := #[]
  methods := #[]
  instanceTypes := #[]
  staticTypes := #[]
  resolved := #[]
  callSites := []
  init := .initialized
  statics := none
  mirror := none

def pool0 : Array CpInfo := pool [(5, u "<init>"), (0, u "()V"), (1, .class_ 10), (1, u "java/lang/Object"), (85, u "clone"), (0, u "()Ljava/lang/Object;")] 26

def k0c0 : Code := { maxStack := 0, maxLocals := 1, code := object_method_1_code, exceptionTable := #[], attributes := #[] }
def k0m0 : Method := { name := "<init>", desc := "()V", sig := { parameters := [], returnType := none }, accessFlags := 1, code := some k0c0 }
def k0m1 : Method := { name := "clone", desc := "()Ljava/lang/Object;", sig := { parameters := [], returnType := some (.object "java/lang/Object") }, accessFlags := 260, code := none }
/-- java/lang/Object -/
def k0 : Class := { plain "java/lang/Object" none with
  accessFlags := 33
  interfaces := #[]
  cf := some (fileOf pool0 8 #[] #[{ accessFlags := 1, nameIndex := 5, descriptorIndex := 6, attributes := #[] }, { accessFlags := 260, nameIndex := 96, descriptorIndex := 97, attributes := #[] }] 33 0 #[] #[])
  fields := #[]
  methods := #[k0m0, k0m1]
  instanceTypes := #[]
  staticTypes := #[]
  resolved := Array.replicate 124 none
  statics := none }

def pool1 : Array CpInfo := pool [(2, .class_ 4), (1, u "java/lang/Object"), (0, u "<init>"), (0, u "()V"), (0, .class_ 8), (0, u "com/example/residuum/residuum/FreeParameters"), (0, .methodref 7 10), (0, .nameAndType 5 11), (0, u "(I[I)V"), (0, .methodref 7 13), (0, .nameAndType 14 15), (0, u "moved"), (0, u "([D[D)[D"), (0, .class_ 17), (0, u "com/example/residuum/residuum/FreeParametersMovedPinLaw"), (2, u "law"), (0, u "(IIIIII)Z")] 7

def k1m0 : Method := { name := "<init>", desc := "()V", sig := { parameters := [], returnType := none }, accessFlags := 1, code := none }
def k1c1 : Code := { maxStack := 4, maxLocals := 29, code := code, exceptionTable := #[], attributes := #[] }
def k1m1 : Method := { name := "law", desc := "(IIIIII)Z", sig := { parameters := [.int, .int, .int, .int, .int, .int], returnType := some .boolean }, accessFlags := 9, code := some k1c1 }
/-- com/example/residuum/residuum/FreeParametersMovedPinLaw -/
def k1 : Class := { plain "com/example/residuum/residuum/FreeParametersMovedPinLaw" (some 0) with
  accessFlags := 49
  interfaces := #[]
  cf := some (fileOf pool1 16 #[] #[{ accessFlags := 1, nameIndex := 5, descriptorIndex := 6, attributes := #[] }, { accessFlags := 9, nameIndex := 20, descriptorIndex := 21, attributes := #[] }] 49 2 #[] #[])
  fields := #[]
  methods := #[k1m0, k1m1]
  instanceTypes := #[]
  staticTypes := #[]
  resolved := Array.replicate 29 none
  statics := none }

def pool2 : Array CpInfo := pool [(1, .methodref 2 3), (0, .class_ 4), (0, .nameAndType 5 6), (0, u "java/lang/Object"), (0, u "<init>"), (0, u "()V"), (0, .fieldref 8 9), (0, .class_ 10), (0, .nameAndType 11 12), (0, u "com/example/residuum/residuum/FreeParameters"), (0, u "total"), (0, u "I"), (0, .fieldref 8 14), (0, .nameAndType 15 16), (0, u "indices"), (0, u "[I"), (0, .class_ 18), (0, u "[D"), (0, .methodref 17 20), (0, .nameAndType 21 22), (0, u "clone"), (0, u "()Ljava/lang/Object;"), (2, u "(I[I)V"), (10, u "moved"), (0, u "([D[D)[D")] 3

def k2c0 : Code := { maxStack := 3, maxLocals := 6, code := prog_5_method_1_code, exceptionTable := #[], attributes := #[] }
def k2m0 : Method := { name := "<init>", desc := "(I[I)V", sig := { parameters := [.int, (.array .int)], returnType := none }, accessFlags := 0, code := some k2c0 }
def k2c1 : Code := { maxStack := 6, maxLocals := 5, code := prog_5_method_5_code, exceptionTable := #[], attributes := #[] }
def k2m1 : Method := { name := "moved", desc := "([D[D)[D", sig := { parameters := [(.array .double), (.array .double)], returnType := some (.array .double) }, accessFlags := 0, code := some k2c1 }
/-- com/example/residuum/residuum/FreeParameters -/
def k2 : Class := { plain "com/example/residuum/residuum/FreeParameters" (some 0) with
  accessFlags := 48
  interfaces := #[]
  cf := some (fileOf pool2 8 #[] #[{ accessFlags := 0, nameIndex := 5, descriptorIndex := 25, attributes := #[] }, { accessFlags := 0, nameIndex := 36, descriptorIndex := 37, attributes := #[] }] 48 2 #[] #[{ accessFlags := 18, nameIndex := 11, descriptorIndex := 12, attributes := #[] }, { accessFlags := 18, nameIndex := 15, descriptorIndex := 16, attributes := #[] }])
  fields := #[{ name := "total", type := .int, accessFlags := 18, slot := 0, constantValue := 0 }, { name := "indices", type := (.array .int), accessFlags := 18, slot := 1, constantValue := 0 }]
  methods := #[k2m0, k2m1]
  instanceTypes := #[.int, (.array .int)]
  staticTypes := #[]
  resolved := Array.replicate 41 none
  statics := none }

def pool3 : Array CpInfo := pool [(1, .class_ 2), (0, u "java/lang/Cloneable"), (0, .class_ 4), (0, u "java/lang/Object")] 2

/-- java/lang/Cloneable -/
def k3 : Class := { plain "java/lang/Cloneable" (some 0) with
  accessFlags := 1537
  interfaces := #[]
  cf := some (fileOf pool3 1 #[] #[] 1537 3 #[] #[])
  fields := #[]
  methods := #[]
  instanceTypes := #[]
  staticTypes := #[]
  resolved := Array.replicate 7 none
  statics := none }

def pool4 : Array CpInfo := pool [(1, u "java/io/Serializable"), (0, .class_ 1), (0, u "java/lang/Object"), (0, .class_ 3)] 3

/-- java/io/Serializable -/
def k4 : Class := { plain "java/io/Serializable" (some 0) with
  accessFlags := 1537
  interfaces := #[]
  cf := some (fileOf pool4 2 #[] #[] 1537 4 #[] #[])
  fields := #[]
  methods := #[]
  instanceTypes := #[]
  staticTypes := #[]
  resolved := Array.replicate 8 none
  statics := none }

/-- the primitive byte -/
def k5 : Class := { plain "byte" none with kind := .primitive 'B', accessFlags := 0x411 }
/-- [B -/
def k6 : Class := { plain "[B" (some 0) with kind := .array 5 .byte, interfaces := #[3, 4], accessFlags := 1041 }

/-- the primitive double -/
def k7 : Class := { plain "double" none with kind := .primitive 'D', accessFlags := 0x411 }
/-- [D -/
def k8 : Class := { plain "[D" (some 0) with kind := .array 7 .double, interfaces := #[3, 4], accessFlags := 1041 }

/-- the primitive int -/
def k9 : Class := { plain "int" none with kind := .primitive 'I', accessFlags := 0x411 }
/-- [I -/
def k10 : Class := { plain "[I" (some 0) with kind := .array 9 .int, interfaces := #[3, 4], accessFlags := 1041 }

def heap : Heap := #[]
def classes : Array Class := #[k0, k1, k2, k3, k4, k5, k6, k7, k8, k9, k10]
def interned : List (Array UInt16 × Addr) := []
def slotsUsed : Nat := 0
def theMethod : MethodId := ⟨1, 1⟩
def args0 : Array Value := #[.int 5, .int 2, .int 3, .int 4, .int 1, .int 6]
def aboutOver (below : List Frame) : State where
  vm := { classes := classes, interned := interned.toArray }
  heap := heap
  slotsUsed := slotsUsed
  threads := #[{ frames := .invoking theMethod args0 :: below }]
def below0 : List Frame := [.native { method := ⟨0, 0⟩, args := #[] }]
def about1 : State := aboutOver below0
def p0 : Program := .bare "" "" ""
def e0 : Env := launch0.env 0 0 0
theorem w_frames : about1.frames = Frame.invoking theMethod args0 :: below0 := rfl
set_option maxRecDepth 65536 in
theorem w_args : argsFit about1.vm theMethod args0 = true := by decide +kernel
set_option maxRecDepth 65536 in
theorem w_heap : heapFits about1 = true := by decide +kernel
set_option maxRecDepth 65536 in
theorem w_runnable : about1.curStatus? = some .runnable := by decide +kernel
set_option maxRecDepth 65536 in
theorem w_alone : about1.alone = true := by decide +kernel
set_option maxRecDepth 65536 in
theorem w_named : about1.methodNamed? x = some theMethod := by decide +kernel
set_option maxRecDepth 65536 in
theorem w_hears : about1.hears theMethod below0 = true := by decide +kernel
set_option maxRecDepth 65536 in
theorem w_ripe : about1.ripe theMethod args0 below0 = true := by decide +kernel
theorem w_running : about1.status = .running := rfl
set_option maxRecDepth 65536 in
theorem w_room : about1.hasRoom e0.platform room_1 = true :=
  launch0.hasRoom_least _ room_1 (by decide +kernel) (by decide +kernel) (by decide +kernel) (by decide +kernel) (by decide +kernel) (by decide +kernel)
theorem allAtoms_all (ts : List Jvm.Cond) (a : Array Jvm.Value) (st : Jvm.State) : (allAtoms ts).before a st = ts.all (fun c => c.before a st) := by
  induction ts with
  | nil => rfl
  | cons c t ih =>
    show (Jvm.Cond.and c (allAtoms t)).before a st = _
    rw [Jvm.Cond.before_and, ih, List.all_cons]
def words1 : List Jvm.Cond := Jvm.Cond.code x code maxLocals ret :: tables_1
/-- a 'code' word, met by the world's own term for the bytes: nothing is compared byte by byte -/
theorem code_word {y : MethodName} {bytes : ByteArray} {mx : Nat} {rt : Option FieldType} {a : Array Value} {s : State} {m : MethodId} {meth : Method} {c : Code} (h1 : s.methodNamed? y = some m) (h2 : s.vm.method? m = some meth) (h3 : meth.code = some c) (h4 : c.code = bytes)
    (h5 : (c.maxLocals == mx && c.exceptionTable.isEmpty && decide (c.maxStack ≤ mostOperands) && decide (meth.sig.returnType = rt) && !meth.locks && decide (parseMethodDescriptor y.desc = some meth.sig)) = true) : (Jvm.Cond.code y bytes mx rt).before a s = true := by
  simp only [Bool.and_eq_true, beq_iff_eq, Bool.not_eq_true', decide_eq_true_eq] at h5
  obtain ⟨⟨⟨⟨⟨g1, g2⟩, g3⟩, g4⟩, g5⟩, g6⟩ := h5
  simp [Cond.before, Cond.holds, Cond.value, h1, h2, h3, h4, g1, g2, g3, g4, g5, g6]
def isCode : Jvm.Cond → Bool
  | .code _ _ _ _ => true
  | _ => false
theorem all_split {L : List Jvm.Cond} {P : Jvm.Cond → Bool} (h1 : L.all (fun c => isCode c || P c) = true) (h2 : ∀ c ∈ L.filter isCode, P c = true) : L.all P = true := by
  refine List.all_eq_true.mpr fun c hc => ?_
  have h := List.all_eq_true.mp h1 c hc
  rcases Bool.eq_false_or_eq_true (isCode c) with hi | hi
  · exact h2 c (List.mem_filter.mpr ⟨hc, hi⟩)
  · simpa [hi] using h
set_option maxRecDepth 65536 in
theorem w_c0 : (Jvm.Cond.code x code maxLocals ret).before args0 about1 = true := code_word (m := ⟨1, 1⟩) (meth := k1m1) (c := k1c1) (by decide +kernel) rfl rfl rfl (by decide +kernel)
set_option maxRecDepth 65536 in
theorem w_c1 : (Jvm.Cond.code ({ cls := "com/example/residuum/residuum/FreeParameters", name := "<init>", desc := "(I[I)V" } : Jvm.MethodName) prog_5_method_1_code (6 : Nat) (Option.none : Option Jvm.ClassFile.FieldType)).before args0 about1 = true := code_word (m := ⟨2, 0⟩) (meth := k2m0) (c := k2c0) (by decide +kernel) rfl rfl rfl (by decide +kernel)
set_option maxRecDepth 65536 in
theorem w_c2 : (Jvm.Cond.code ({ cls := "java/lang/Object", name := "<init>", desc := "()V" } : Jvm.MethodName) object_method_1_code (1 : Nat) (Option.none : Option Jvm.ClassFile.FieldType)).before args0 about1 = true := code_word (m := ⟨0, 0⟩) (meth := k0m0) (c := k0c0) (by decide +kernel) rfl rfl rfl (by decide +kernel)
set_option maxRecDepth 65536 in
theorem w_c3 : (Jvm.Cond.code ({ cls := "com/example/residuum/residuum/FreeParameters", name := "moved", desc := "([D[D)[D" } : Jvm.MethodName) prog_5_method_5_code (5 : Nat) (Option.some (Jvm.ClassFile.FieldType.array Jvm.ClassFile.FieldType.double))).before args0 about1 = true := code_word (m := ⟨2, 1⟩) (meth := k2m1) (c := k2c1) (by decide +kernel) rfl rfl rfl (by decide +kernel)
def codes1 : List Jvm.Cond := [Jvm.Cond.code x code maxLocals ret, Jvm.Cond.code ({ cls := "com/example/residuum/residuum/FreeParameters", name := "<init>", desc := "(I[I)V" } : Jvm.MethodName) prog_5_method_1_code (6 : Nat) (Option.none : Option Jvm.ClassFile.FieldType), Jvm.Cond.code ({ cls := "java/lang/Object", name := "<init>", desc := "()V" } : Jvm.MethodName) object_method_1_code (1 : Nat) (Option.none : Option Jvm.ClassFile.FieldType), Jvm.Cond.code ({ cls := "com/example/residuum/residuum/FreeParameters", name := "moved", desc := "([D[D)[D" } : Jvm.MethodName) prog_5_method_5_code (5 : Nat) (Option.some (Jvm.ClassFile.FieldType.array Jvm.ClassFile.FieldType.double))]
set_option maxRecDepth 65536 in
theorem codes_eq : words1.filter isCode = codes1 := rfl
theorem w_codes : ∀ c ∈ words1.filter isCode, c.before args0 about1 = true := by
  rw [codes_eq]
  intro c hc
  simp only [codes1, List.mem_cons, List.not_mem_nil, or_false] at hc
  rcases hc with rfl | rfl | rfl | rfl
  · exact w_c0
  · exact w_c1
  · exact w_c2
  · exact w_c3
set_option maxRecDepth 65536 in
theorem w_t1 : (words1.take 24).all (fun c => isCode c || c.before args0 about1) = true := by decide +kernel
set_option maxRecDepth 65536 in
theorem w_t2 : (words1.drop 24).all (fun c => isCode c || c.before args0 about1) = true := by decide +kernel
theorem w_tables : (allAtoms (Jvm.Cond.code x code maxLocals ret :: tables_1)).before args0 about1 = true := by
  rw [allAtoms_all]
  show words1.all (fun c => c.before args0 about1) = true
  refine all_split ?_ w_codes
  rw [← List.take_append_drop 24 words1, List.all_append, w_t1, w_t2]
  rfl
set_option maxRecDepth 65536 in
theorem w_case : (Jvm.Cond.and given_1 narrow_1).before args0 about1 = true := by decide +kernel
theorem w_applies : (headSpec (Jvm.Cond.code x code maxLocals ret :: tables_1) room_1).applies x e0.platform about1 = true :=
  (Spec.applies_iff w_frames).mpr ⟨w_running, w_runnable, w_alone, w_named, w_hears, w_ripe, w_room, w_tables⟩
theorem atStart : AtStart classFile x code maxLocals ret World_1 tables_1 room_1 Calls_1 rest_1 Pre_1 launch0 p0 e0 about1 theMethod args0 below0 :=
  ⟨lists_1, trivial, launch0.admits_env _ _ _, launch0.least_env, fairChoices_fair.cas, fairChoices_fair.clock, w_frames, w_args, w_heap, w_applies, trivial, trivial, w_case⟩
end start1
theorem witness_1 : WitnessClaimed_1 := ⟨start1.p0, start1.e0, start1.about1, start1.theMethod, start1.args0, start1.below0, start1.atStart⟩
end Jvm.Pilot.@@N@@
