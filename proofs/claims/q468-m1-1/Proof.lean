import JvmDerived
import JvmDerived.Pilot.@@N@@Statement
import JvmDerived.Pilot.@@N@@Code
set_option linter.unusedVariables false
set_option linter.unusedSimpArgs false
namespace Jvm.Pilot.@@N@@
open Jvm Jvm.ClassFile Sem Op Lib Jvm.Free Jvm.Stand Jvm.LawKit Jvm.RoadKit Bundle Jvm.Pilot.@@N@@.Jvm.D
section OwnKit
def own_Go (tb : Tables) (e : Env) (below : List Frame) (P : State → Outcome → Prop) (S : State) : Prop := ∃ s₂ o, Steps tb e below S s₂ ∧ s₂.status = .running ∧ Ended s₂ below o ∧ P s₂ o
theorem own_Go.st {tb : Tables} {e : Env} {below : List Frame} {P : State → Outcome → Prop} {S S' : State} (g : own_Go tb e below P S') (h : ∀ t, Steps tb e below S' t → Steps tb e below S t) : own_Go tb e below P S := by
  obtain ⟨s₂, o, h1, h2⟩ := g; exact ⟨s₂, o, h _ h1, h2⟩
/-- the heap: all that stood at the start stands; the listed new cells, all different, are as their predicates say -/
def own_H (h0 h : Heap) (L : List (Addr × (Cell → Prop))) : Prop := Ext h0 h ∧ (∀ q ∈ L, h0.size ≤ q.1 ∧ ∃ c, h[q.1]? = some c ∧ q.2 c) ∧ (L.map (·.1)).Nodup
def own_ex (Z : State) (C : String) (c : Cell) : Prop := ∃ k : Class, Z.vm.findClass C = some c.cls ∧ Z.vm.classes[c.cls]? = some k ∧ c.vm.isStatics = false ∧ (k.kind = .ordinary → c.slots.size = k.instanceTypes.size)
def own_fd (Z : State) (C n d : String) (v : Value) (c : Cell) : Prop := ∃ (cf : ClassId) (k : Class) (i : Nat) (f : Field), Z.fieldFound? C n d = some (cf, k, i, f) ∧ f.isStatic = false ∧ c.vm ≠ .unknown ∧ c.vm.isStatics = false ∧ Z.vm.assignable c.cls cf = true ∧ c.slots[f.slot]? = some v
def own_ob (Z : State) (C : String) (fs : List (String × String × Value)) (c : Cell) : Prop := own_ex Z C c ∧ ∀ q ∈ fs, own_fd Z C q.1 q.2.1 q.2.2 c
def own_ar (Z : State) (ty : FieldType) (vs : List Value) (c : Cell) : Prop := Z.isArrayOf c ty ∧ c.vm ≠ .unknown ∧ c.slots.toList = vs ∧ own_ex Z ("[" ++ ty.toString) c
def own_lay (Z : State) (a0 : Array Value) (C : String) : List (String × String × FieldType) → Prop
  | [] => True
  | q :: r => (Laid Z a0 C C q.1 q.2.1 ∧ parseFieldDescriptor q.2.1 = some q.2.2) ∧ own_lay Z a0 C r
theorem own_lay.mem {Z : State} {a0 : Array Value} {C : String} : ∀ {N : List (String × String × FieldType)}, own_lay Z a0 C N → ∀ q ∈ N, Laid Z a0 C C q.1 q.2.1 ∧ parseFieldDescriptor q.2.1 = some q.2.2
  | [], _, _, h => nomatch h
  | _ :: _, ⟨h1, h2⟩, q, h => (List.mem_cons.mp h).elim (fun e => e ▸ h1) (own_lay.mem h2 q)
def own_S (p : Program) (l : Launch) (e : Env) (R : Room) (s : State) (m : MethodId) (args : Array Value) (below : List Frame) (meth : Method) (c : Code) (Z T : State) (L : List (Addr × (Cell → Prop))) (k n : Nat) : Prop :=
  ∃ locs, Stand p l e R s m args below meth c T locs k n ∧ Fr Z.heap.size locs ∧ own_H Z.heap T.heap L
def own_C (p : Program) (s : State) (m : MethodId) (meth : Method) (c : Code) (Z : State) (own nm : String) (code : ByteArray) (ml : Nat) (rt : Option FieldType) : Prop :=
  p.tables.exec = Jvm.exec ∧ c.code = code ∧ c.maxLocals = ml ∧ Z.Warmed39 s.vm ∧ s.vm.findClass own = some m.cls ∧ meth.name = nm ∧ meth.sig.returnType = rt ∧ meth.locks = false
def own_E (Z s : State) (R : Room) (Q : Option Value → List (Addr × (Cell → Prop)) → Prop) (t : State) (o : Outcome) : Prop :=
  ∃ v L locs, o = .returned v ∧ Q v L ∧ own_H Z.heap t.heap L ∧ Fr Z.heap.size locs ∧ FrameEnd s o t locs R.cells R.slots
def own_Con (l : Launch) (Z : State) (y : MethodName) (bytes : ByteArray) (maxL : Nat) (ret : Option FieldType) (rm : Room) (as' : Array Value) (L : List (Addr × (Cell → Prop))) (Q : Option Value → List (Addr × (Cell → Prop)) → Prop) : Prop :=
  ∀ ws, MetFree l y (head1 (Jvm.Cond.code y bytes maxL ret :: ws) rm) (fun a U => a = as' ∧ Z.Warmed39 U.vm ∧ own_H Z.heap U.heap L) (fun _ _ _ _ _ => True) (fun _ U o U' => own_E Z U rm Q U' o)
/-! the heap's list -/
section Heaps
variable {h0 h h' : Heap} {L : List (Addr × (Cell → Prop))} {a : Addr} {Pq Pq' : Cell → Prop} {i : Nat}
theorem own_H.get (H : own_H h0 h L) (hi : L[i]? = some (a, Pq)) : h0.size ≤ a ∧ ∃ c, h[a]? = some c ∧ Pq c := H.2.1 _ (List.mem_of_getElem? hi)
theorem own_H.lt (H : own_H h0 h L) : ∀ q ∈ L, q.1 < h.size := fun q hq => by
  obtain ⟨-, c, h1, -⟩ := H.2.1 q hq; exact (Array.getElem?_eq_some_iff.mp h1).1
theorem own_H.push (H : own_H h0 h L) (E : Ext h h') {c : Cell} (hc : h'[h.size]? = some c) (hP : Pq c) : own_H h0 h' ((h.size, Pq) :: L) := by
  refine ⟨⟨Nat.le_trans H.1.1 E.1, fun a c q => E.2 a c (H.1.2 a c q)⟩, fun q hq => ?_, ?_⟩
  · rcases List.mem_cons.mp hq with rfl | hq
    · exact ⟨H.1.1, c, hc, hP⟩
    · obtain ⟨h1, c', h2, h3⟩ := H.2.1 q hq; exact ⟨h1, c', E.2 _ _ h2, h3⟩
  · rw [List.map_cons, List.nodup_cons]
    refine ⟨fun hm => ?_, H.2.2⟩
    obtain ⟨q, hq, e⟩ := List.mem_map.mp hm
    exact absurd (H.lt q hq) (by rw [show q.1 = h.size from e]; exact Nat.lt_irrefl _)
theorem own_setmem {α : Type} : ∀ {L : List α} {i : Nat} {x q : α}, q ∈ L.set i x → q = x ∨ ∃ j, j ≠ i ∧ L[j]? = some q
  | [], _, _, _, h => nomatch h
  | y :: L, 0, x, q, h => by
    rcases List.mem_cons.mp h with rfl | h
    · exact Or.inl rfl
    · obtain ⟨j, hj⟩ := List.mem_iff_getElem?.mp h
      exact Or.inr ⟨j + 1, by omega, hj⟩
  | y :: L, i + 1, x, q, h => by
    rcases List.mem_cons.mp h with rfl | h
    · exact Or.inr ⟨0, by omega, rfl⟩
    · rcases own_setmem h with e | ⟨j, hj, e⟩
      · exact Or.inl e
      · exact Or.inr ⟨j + 1, by omega, e⟩
theorem own_nodup_ne {α : Type} {L : List α} (h : L.Nodup) {i j : Nat} {x y : α} (hi : L[i]? = some x) (hj : L[j]? = some y) (hn : i ≠ j) : x ≠ y := fun e => by
  subst e
  obtain ⟨hi1, hi2⟩ := List.getElem?_eq_some_iff.mp hi
  obtain ⟨hj1, hj2⟩ := List.getElem?_eq_some_iff.mp hj
  have hp := List.pairwise_iff_getElem.mp h
  rcases Nat.lt_or_gt_of_ne hn with q | q
  · exact hp i j hi1 hj1 q (hi2.trans hj2.symm)
  · exact hp j i hj1 hi1 q (hj2.trans hi2.symm)
theorem own_setself {α : Type} {L : List α} {i : Nat} {x : α} (h : L[i]? = some x) : L.set i x = L := by
  obtain ⟨h1, h2⟩ := List.getElem?_eq_some_iff.mp h
  rw [← h2]; exact List.set_getElem_self h1
theorem own_erase {α : Type} : ∀ (L : List α) (i : Nat) (x : α), L[i]? = some x → L.Perm (x :: L.eraseIdx i)
  | [], i, x, h => by simp at h
  | y :: L, 0, x, h => by simp at h; subst h; exact List.Perm.refl _
  | y :: L, i + 1, x, h => by
    have q := own_erase L i x (by simpa using h)
    exact (q.cons y).trans (List.Perm.swap x y _)
theorem own_H.set (H : own_H h0 h L) (hi : L[i]? = some (a, Pq)) {sl : Nat} {v : Value} (W : Wr h h' a sl v) (hP : ∀ c : Cell, Pq c → sl < c.slots.size → Pq' (c.setSlot sl v)) : own_H h0 h' (L.set i (a, Pq')) := by
  have hE : Ext h0 h' := by
    refine ⟨by rw [W.size]; exact H.1.1, fun b cb hb => ?_⟩
    obtain ⟨cb', h1, -, -, -, h2, -⟩ := wr_at W (H.1.2 b cb hb)
    have : b ≠ a := by
      have q1 := (Array.getElem?_eq_some_iff.mp hb).1
      have q2 := (H.get hi).1
      intro e; rw [e] at q1; exact absurd q1 (Nat.not_lt.mpr q2)
    rw [h2 this] at h1; exact h1
  refine ⟨hE, fun q hq => ?_, ?_⟩
  · rcases own_setmem hq with rfl | ⟨j, hj, e⟩
    · obtain ⟨h1, c, h2, h3⟩ := H.get hi
      obtain ⟨cb', g1, -, -, -, -, -, g2⟩ := wr_at W h2
      obtain ⟨g3, -, -⟩ := g2 rfl
      subst g3
      refine ⟨h1, _, g1, hP c h3 ?_⟩
      obtain ⟨cc, w1, -, w3, -⟩ := W
      rw [h2] at w1; cases w1; exact w3
    · obtain ⟨h1, c, h2, h3⟩ := H.2.1 q (List.mem_of_getElem? e)
      obtain ⟨cb', g1, -, -, -, g2, -⟩ := wr_at W h2
      have hne : q.1 ≠ a := own_nodup_ne (L := L.map (·.1)) H.2.2 (i := j) (j := i) (by rw [List.getElem?_map, e]; rfl) (by rw [List.getElem?_map, hi]; rfl) hj
      rw [g2 hne] at g1
      exact ⟨h1, c, g1, h3⟩
  · have : (L.set i (a, Pq')).map (·.1) = L.map (·.1) := by
      rw [List.map_set]
      have : (L.map (·.1))[i]? = some a := by rw [List.getElem?_map, hi]; rfl
      exact own_setself this
    rw [this]; exact H.2.2
theorem own_H.sub {M : List (Addr × (Cell → Prop))} (H : own_H h0 h L) (hs : M.Sublist L) : own_H h0 h M :=
  ⟨H.1, fun q hq => H.2.1 q (hs.subset hq), H.2.2.sublist (hs.map _)⟩
theorem own_H.perm {M : List (Addr × (Cell → Prop))} (H : own_H h0 h L) (hs : L.Perm M) : own_H h0 h M :=
  ⟨H.1, fun q hq => H.2.1 q (hs.mem_iff.mpr hq), (hs.map _).nodup_iff.mp H.2.2⟩
theorem own_H.bring (H : own_H h0 h L) (hi : L[i]? = some (a, Pq)) : own_H h0 h ((a, Pq) :: L.eraseIdx i) := by
  exact H.perm (own_erase L i _ hi)
theorem own_H.imp (H : own_H h0 h L) (hi : L[i]? = some (a, Pq)) (hP : ∀ c, Pq c → Pq' c) : own_H h0 h (L.set i (a, Pq')) := by
  refine ⟨H.1, fun q hq => ?_, ?_⟩
  · rcases own_setmem hq with rfl | ⟨j, hj, e⟩
    · obtain ⟨h1, c, h2, h3⟩ := H.get hi; exact ⟨h1, c, h2, hP c h3⟩
    · exact H.2.1 q (List.mem_of_getElem? e)
  · have : (L.set i (a, Pq')).map (·.1) = L.map (·.1) := by
      rw [List.map_set]
      have : (L.map (·.1))[i]? = some a := by rw [List.getElem?_map, hi]; rfl
      exact own_setself this
    rw [this]; exact H.2.2
theorem own_H.ne (H : own_H h0 h L) {j : Nat} {b : Addr} {Pb : Cell → Prop} (hi : L[i]? = some (a, Pq)) (hj : L[j]? = some (b, Pb)) (hn : i ≠ j) : a ≠ b :=
  own_nodup_ne (L := L.map (·.1)) H.2.2 (i := i) (j := j) (by rw [List.getElem?_map, hi]; rfl) (by rw [List.getElem?_map, hj]; rfl) hn
theorem own_ex.exa {Z : State} {C : String} {c : Cell} (hc : h[a]? = some c) (E : own_ex Z C c) : Exa Z h a C := by obtain ⟨k, r⟩ := E; exact ⟨c, k, hc, r⟩
theorem own_ex.of {Z : State} {C : String} (E : Exa Z h a C) {c : Cell} (hc : h[a]? = some c) : own_ex Z C c := by obtain ⟨c', k, h1, r⟩ := E; cases h1.symm.trans hc; exact ⟨k, r⟩
theorem own_fd.fld {Z : State} {C n d : String} {v : Value} {c : Cell} (hc : h[a]? = some c) (E : own_fd Z C n d v c) : Fld Z h a C n d v := by obtain ⟨cf, k, i, f, r⟩ := E; exact ⟨c, cf, k, i, f, hc, r⟩
theorem own_fd.of {Z : State} {C n d : String} {v : Value} {c : Cell} (hc : h[a]? = some c) (E : Fld Z h a C n d v) : own_fd Z C n d v c := by obtain ⟨c', cf, k, i, f, h1, r⟩ := E; cases h1.symm.trans hc; exact ⟨cf, k, i, f, r⟩
theorem own_fL {Z : State} {ix j : Nat} {K f d : String} {v : Value} {fs : List (String × String × Value)} (hi : L[ix]? = some (a, own_ob Z K fs)) (hj : fs[j]? = some (f, d, v)) (H : own_H h0 h L) : Fld Z h a K f d v := by
  obtain ⟨-, cc, h1, h2⟩ := H.get hi
  exact (h2.2 _ (List.mem_of_getElem? hj)).fld h1
theorem own_fO {Z : State} {K f d : String} {v : Value} (F : Fld Z h0 a K f d v) (H : own_H h0 h L) : Fld Z h a K f d v := F.ext H.1
theorem own_eL {Z : State} {ix : Nat} {K : String} {fs : List (String × String × Value)} (hi : L[ix]? = some (a, own_ob Z K fs)) (H : own_H h0 h L) : Exa Z h a K := by
  obtain ⟨-, cc, h1, h2⟩ := H.get hi
  exact h2.1.exa h1
theorem own_eO {Z : State} {K : String} (F : Exa Z h0 a K) (H : own_H h0 h L) : Exa Z h a K := F.ext H.1
theorem own_ar.arr {Z : State} {ty : FieldType} {vs : List Value} {c : Cell} (hc : h[a]? = some c) (E : own_ar Z ty vs c) : Arr Z h a c ty := ⟨hc, E.1, E.2.1⟩
end Heaps

variable {p : Program} {l : Launch} {e : Env} {R : Room} {s : State} {m : MethodId} {args : Array Value} {below : List Frame} {meth : Method} {c : Code} {Z T : State} {L : List (Addr × (Cell → Prop))} {k n : Nat} {own nm : String} {code : ByteArray} {ml : Nat} {rt : Option FieldType} {P : State → Outcome → Prop} {pc npc tpc : Nat} {ls : Array Slot} {st : List Value} {a0 : Array Value}
theorem own_S.stand (X : own_S p l e R s m args below meth c Z T L k n) : ∃ locs, Stand p l e R s m args below meth c T locs k n := by obtain ⟨locs, X, -⟩ := X; exact ⟨locs, X⟩
theorem own_S.heap (X : own_S p l e R s m args below meth c Z T L k n) : own_H Z.heap T.heap L := by obtain ⟨_, _, _, h⟩ := X; exact h
theorem own_S.more (X : own_S p l e R s m args below meth c Z T L k n) {k' n' : Nat} (hk : k ≤ k') (hn : n ≤ n') : own_S p l e R s m args below meth c Z T L k' n' := by obtain ⟨locs, X, h⟩ := X; exact ⟨locs, X.more hk hn, h⟩
theorem own_S.re (X : own_S p l e R s m args below meth c Z T L k n) {M : List (Addr × (Cell → Prop))} (h : own_H Z.heap T.heap L → own_H Z.heap T.heap M) : own_S p l e R s m args below meth c Z T M k n := by obtain ⟨locs, X, h1, h2⟩ := X; exact ⟨locs, X, h1, h h2⟩
theorem own_S.bring (X : own_S p l e R s m args below meth c Z T L k n) {i : Nat} {a : Addr} {Pq : Cell → Prop} (hi : L[i]? = some (a, Pq)) {M : List (Addr × (Cell → Prop))} (hM : (a, Pq) :: L.eraseIdx i = M) : own_S p l e R s m args below meth c Z T M k n := by subst hM; exact X.re fun H => H.bring hi

theorem own_swap3 {a1 a2 a3 b1 b2 b3 : Addr × (Cell → Prop)} (X : own_S p l e R s m args below meth c Z T (a1 :: a2 :: a3 :: b1 :: b2 :: b3 :: L) k n) : own_S p l e R s m args below meth c Z T (b1 :: b2 :: b3 :: a1 :: a2 :: a3 :: L) k n :=
  X.re fun H => H.perm ((List.perm_append_comm (l₁ := [a1, a2, a3]) (l₂ := [b1, b2, b3])).append_right L)

def own_locs : List Value → List Slot
  | [] => []
  | v :: r => if v.category = 2 then .val v :: .second :: own_locs r else .val v :: own_locs r
theorem own_locs_fold : ∀ (l : List Value) (acc : Array Slot), (l.foldl (fun acc v => if v.category = 2 then (acc.push (.val v)).push .second else acc.push (.val v)) acc).toList = acc.toList ++ own_locs l
  | [], acc => (List.append_nil _).symm
  | v :: r, acc => by
    rw [List.foldl_cons, own_locs_fold r]
    by_cases h : v.category = 2
    · rw [if_pos h]; show _ = acc.toList ++ (if v.category = 2 then _ else _); rw [if_pos h, Array.toList_push, Array.toList_push, List.append_assoc, List.append_assoc]; rfl
    · rw [if_neg h]; show _ = acc.toList ++ (if v.category = 2 then _ else _); rw [if_neg h, Array.toList_push, List.append_assoc]; rfl
theorem own_ent (m : MethodId) {as : List Value} {n : Nat} {ls : List Slot} (h : own_locs as ++ List.replicate (n - (own_locs as).length) .unset = ls) : entryFrame m as.toArray n = mkF m 0 ls.toArray [] := by
  have e : argsToLocals as.toArray n = ls.toArray := by
    apply Array.toList_inj.mp
    have q := own_locs_fold as #[]
    rw [show (#[] : Array Slot).toList = [] from rfl, List.nil_append] at q
    show ((as.toArray.foldl (fun (acc : Array Slot) (v : Value) => if v.category = 2 then (acc.push (.val v)).push .second else acc.push (.val v)) #[]) ++ Array.replicate (n - (as.toArray.foldl (fun (acc : Array Slot) (v : Value) => if v.category = 2 then (acc.push (.val v)).push .second else acc.push (.val v)) #[]).size) Slot.unset).toList = ls
    rw [List.foldl_toArray']
    · show (_ ++ _ : Array Slot).toList = ls
      rw [Array.toList_append, q, Array.toList_replicate, ← Array.length_toList, q]; exact h
    all_goals first | rfl | simp
  show ({ method := m, pc := 0, locals := argsToLocals as.toArray n, stack := [], locked := none } : JFrame) = _
  rw [e]

theorem own_con {y : MethodName} {bytes : ByteArray} {maxL : Nat} {ret : Option FieldType} {rm : Room} {as' : Array Value} {Q : Option Value → List (Addr × (Cell → Prop)) → Prop} (hx : plainFor y = true) (hent : ∀ m, entryFrame m as' maxL = mkF m 0 ls [])
    (body : ∀ p e s m below meth c T, own_C p s m meth c Z y.cls y.name bytes maxL ret → own_S p l e rm s m as' below meth c Z T L 0 0 → own_Go p.tables e below (own_E Z s rm Q) (T.setTop (mkF m 0 ls []))) : own_Con l Z y bytes maxL ret rm as' L Q := by
  intro ws
  refine MetFree.of_bodySF hx hisR ?_
  intro p e s m args below meth c s₁ Bd hml hP hK
  obtain ⟨rfl, hZ, hH⟩ := hP
  have hnm := (name_of_methodNamed Bd.named Bd.method).1
  have X0 : Stand p l e rm s m args below meth c s₁ [] 0 0 := Stand.of_body Bd
  have q := body p e s m below meth c s₁ ⟨Bd.exec, Bd.bytes, hml, hZ, findClass_of_methodNamed Bd.named, hnm, Bd.returns, Bd.notSynchronized⟩ ⟨[], X0, Fr.nil _, by rw [Bd.state]; exact hH⟩
  rw [← hent] at q
  exact q

theorem k_iadd (C : own_C p s m meth c Z own nm code ml rt) (X : own_S p l e R s m args below meth c Z T L k n) {x y : Int32} (hd : decode code pc = .ok (.iadd, 1)) (hp : pc + 1 = npc) (g : own_Go p.tables e below P (T.setTop (mkF m npc ls (.int (x + y) :: st)))) : own_Go p.tables e below P (T.setTop (mkF m pc ls (.int y :: .int x :: st))) := by
  subst hp; obtain ⟨_, X, -, -⟩ := X
  exact g.st fun t k => Jvm.Free.XS.iadd X.here C.1 rfl (hb C.2.1 hd) rfl k
theorem k_isub (C : own_C p s m meth c Z own nm code ml rt) (X : own_S p l e R s m args below meth c Z T L k n) {x y : Int32} (hd : decode code pc = .ok (.isub, 1)) (hp : pc + 1 = npc) (g : own_Go p.tables e below P (T.setTop (mkF m npc ls (.int (x - y) :: st)))) : own_Go p.tables e below P (T.setTop (mkF m pc ls (.int y :: .int x :: st))) := by
  subst hp; obtain ⟨_, X, -, -⟩ := X
  exact g.st fun t k => Jvm.Free.XS.isub X.here C.1 rfl (hb C.2.1 hd) rfl k
theorem k_imul (C : own_C p s m meth c Z own nm code ml rt) (X : own_S p l e R s m args below meth c Z T L k n) {x y : Int32} (hd : decode code pc = .ok (.imul, 1)) (hp : pc + 1 = npc) (g : own_Go p.tables e below P (T.setTop (mkF m npc ls (.int (x * y) :: st)))) : own_Go p.tables e below P (T.setTop (mkF m pc ls (.int y :: .int x :: st))) := by
  subst hp; obtain ⟨_, X, -, -⟩ := X
  exact g.st fun t k => Jvm.Free.XS.imul X.here C.1 rfl (hb C.2.1 hd) rfl k
theorem k_iand (C : own_C p s m meth c Z own nm code ml rt) (X : own_S p l e R s m args below meth c Z T L k n) {x y : Int32} (hd : decode code pc = .ok (.iand, 1)) (hp : pc + 1 = npc) (g : own_Go p.tables e below P (T.setTop (mkF m npc ls (.int (x &&& y) :: st)))) : own_Go p.tables e below P (T.setTop (mkF m pc ls (.int y :: .int x :: st))) := by
  subst hp; obtain ⟨_, X, -, -⟩ := X
  exact g.st fun t k => Jvm.Free.XS.iand X.here C.1 rfl (hb C.2.1 hd) rfl k
theorem k_ior (C : own_C p s m meth c Z own nm code ml rt) (X : own_S p l e R s m args below meth c Z T L k n) {x y : Int32} (hd : decode code pc = .ok (.ior, 1)) (hp : pc + 1 = npc) (g : own_Go p.tables e below P (T.setTop (mkF m npc ls (.int (x ||| y) :: st)))) : own_Go p.tables e below P (T.setTop (mkF m pc ls (.int y :: .int x :: st))) := by
  subst hp; obtain ⟨_, X, -, -⟩ := X
  exact g.st fun t k => Jvm.Free.XT.ior X.here C.1 rfl (hb C.2.1 hd) rfl k
theorem k_ixor (C : own_C p s m meth c Z own nm code ml rt) (X : own_S p l e R s m args below meth c Z T L k n) {x y : Int32} (hd : decode code pc = .ok (.ixor, 1)) (hp : pc + 1 = npc) (g : own_Go p.tables e below P (T.setTop (mkF m npc ls (.int (x ^^^ y) :: st)))) : own_Go p.tables e below P (T.setTop (mkF m pc ls (.int y :: .int x :: st))) := by
  subst hp; obtain ⟨_, X, -, -⟩ := X
  exact g.st fun t k => Jvm.Free.XT.ixor X.here C.1 rfl (hb C.2.1 hd) rfl k
theorem k_ishl (C : own_C p s m meth c Z own nm code ml rt) (X : own_S p l e R s m args below meth c Z T L k n) {x y : Int32} (hd : decode code pc = .ok (.ishl, 1)) (hp : pc + 1 = npc) (g : own_Go p.tables e below P (T.setTop (mkF m npc ls (.int (x <<< (y &&& 31)) :: st)))) : own_Go p.tables e below P (T.setTop (mkF m pc ls (.int y :: .int x :: st))) := by
  subst hp; obtain ⟨_, X, -, -⟩ := X
  exact g.st fun t k => Jvm.Free.XT.ishl X.here C.1 rfl (hb C.2.1 hd) rfl k
theorem k_ishr (C : own_C p s m meth c Z own nm code ml rt) (X : own_S p l e R s m args below meth c Z T L k n) {x y : Int32} (hd : decode code pc = .ok (.ishr, 1)) (hp : pc + 1 = npc) (g : own_Go p.tables e below P (T.setTop (mkF m npc ls (.int (x >>> (y &&& 31)) :: st)))) : own_Go p.tables e below P (T.setTop (mkF m pc ls (.int y :: .int x :: st))) := by
  subst hp; obtain ⟨_, X, -, -⟩ := X
  exact g.st fun t k => Jvm.Free.XT.ishr X.here C.1 rfl (hb C.2.1 hd) rfl k
theorem k_iushr (C : own_C p s m meth c Z own nm code ml rt) (X : own_S p l e R s m args below meth c Z T L k n) {x y : Int32} (hd : decode code pc = .ok (.iushr, 1)) (hp : pc + 1 = npc) (g : own_Go p.tables e below P (T.setTop (mkF m npc ls (.int (Jvm.Free.XT.ushr x y) :: st)))) : own_Go p.tables e below P (T.setTop (mkF m pc ls (.int y :: .int x :: st))) := by
  subst hp; obtain ⟨_, X, -, -⟩ := X
  exact g.st fun t k => Jvm.Free.XT.iushr X.here C.1 rfl (hb C.2.1 hd) rfl k
theorem k_ladd (C : own_C p s m meth c Z own nm code ml rt) (X : own_S p l e R s m args below meth c Z T L k n) {x y : Int64} (hd : decode code pc = .ok (.ladd, 1)) (hp : pc + 1 = npc) (g : own_Go p.tables e below P (T.setTop (mkF m npc ls (.long (x + y) :: st)))) : own_Go p.tables e below P (T.setTop (mkF m pc ls (.long y :: .long x :: st))) := by
  subst hp; obtain ⟨_, X, -, -⟩ := X
  exact g.st fun t k => Jvm.Free.XT.ladd X.here C.1 rfl (hb C.2.1 hd) rfl k
theorem k_lsub (C : own_C p s m meth c Z own nm code ml rt) (X : own_S p l e R s m args below meth c Z T L k n) {x y : Int64} (hd : decode code pc = .ok (.lsub, 1)) (hp : pc + 1 = npc) (g : own_Go p.tables e below P (T.setTop (mkF m npc ls (.long (x - y) :: st)))) : own_Go p.tables e below P (T.setTop (mkF m pc ls (.long y :: .long x :: st))) := by
  subst hp; obtain ⟨_, X, -, -⟩ := X
  exact g.st fun t k => Jvm.Free.XT.lsub X.here C.1 rfl (hb C.2.1 hd) rfl k
theorem k_lmul (C : own_C p s m meth c Z own nm code ml rt) (X : own_S p l e R s m args below meth c Z T L k n) {x y : Int64} (hd : decode code pc = .ok (.lmul, 1)) (hp : pc + 1 = npc) (g : own_Go p.tables e below P (T.setTop (mkF m npc ls (.long (x * y) :: st)))) : own_Go p.tables e below P (T.setTop (mkF m pc ls (.long y :: .long x :: st))) := by
  subst hp; obtain ⟨_, X, -, -⟩ := X
  exact g.st fun t k => Jvm.Free.XT.lmul X.here C.1 rfl (hb C.2.1 hd) rfl k
theorem k_land (C : own_C p s m meth c Z own nm code ml rt) (X : own_S p l e R s m args below meth c Z T L k n) {x y : Int64} (hd : decode code pc = .ok (.land, 1)) (hp : pc + 1 = npc) (g : own_Go p.tables e below P (T.setTop (mkF m npc ls (.long (x &&& y) :: st)))) : own_Go p.tables e below P (T.setTop (mkF m pc ls (.long y :: .long x :: st))) := by
  subst hp; obtain ⟨_, X, -, -⟩ := X
  exact g.st fun t k => Jvm.Free.XT.land X.here C.1 rfl (hb C.2.1 hd) rfl k
theorem k_lor (C : own_C p s m meth c Z own nm code ml rt) (X : own_S p l e R s m args below meth c Z T L k n) {x y : Int64} (hd : decode code pc = .ok (.lor, 1)) (hp : pc + 1 = npc) (g : own_Go p.tables e below P (T.setTop (mkF m npc ls (.long (x ||| y) :: st)))) : own_Go p.tables e below P (T.setTop (mkF m pc ls (.long y :: .long x :: st))) := by
  subst hp; obtain ⟨_, X, -, -⟩ := X
  exact g.st fun t k => Jvm.Free.XT.lor X.here C.1 rfl (hb C.2.1 hd) rfl k
theorem k_lxor (C : own_C p s m meth c Z own nm code ml rt) (X : own_S p l e R s m args below meth c Z T L k n) {x y : Int64} (hd : decode code pc = .ok (.lxor, 1)) (hp : pc + 1 = npc) (g : own_Go p.tables e below P (T.setTop (mkF m npc ls (.long (x ^^^ y) :: st)))) : own_Go p.tables e below P (T.setTop (mkF m pc ls (.long y :: .long x :: st))) := by
  subst hp; obtain ⟨_, X, -, -⟩ := X
  exact g.st fun t k => Jvm.Free.XT.lxor X.here C.1 rfl (hb C.2.1 hd) rfl k
theorem k_lshl (C : own_C p s m meth c Z own nm code ml rt) (X : own_S p l e R s m args below meth c Z T L k n) {x : Int64} {y : Int32} (hd : decode code pc = .ok (.lshl, 1)) (hp : pc + 1 = npc) (g : own_Go p.tables e below P (T.setTop (mkF m npc ls (.long (x <<< (y.toInt64 &&& 63)) :: st)))) : own_Go p.tables e below P (T.setTop (mkF m pc ls (.int y :: .long x :: st))) := by
  subst hp; obtain ⟨_, X, -, -⟩ := X
  exact g.st fun t k => Jvm.Free.XT.lshl X.here C.1 rfl (hb C.2.1 hd) rfl k
theorem k_lshr (C : own_C p s m meth c Z own nm code ml rt) (X : own_S p l e R s m args below meth c Z T L k n) {x : Int64} {y : Int32} (hd : decode code pc = .ok (.lshr, 1)) (hp : pc + 1 = npc) (g : own_Go p.tables e below P (T.setTop (mkF m npc ls (.long (x >>> (y.toInt64 &&& 63)) :: st)))) : own_Go p.tables e below P (T.setTop (mkF m pc ls (.int y :: .long x :: st))) := by
  subst hp; obtain ⟨_, X, -, -⟩ := X
  exact g.st fun t k => Jvm.Free.XT.lshr X.here C.1 rfl (hb C.2.1 hd) rfl k
theorem k_lushr (C : own_C p s m meth c Z own nm code ml rt) (X : own_S p l e R s m args below meth c Z T L k n) {x : Int64} {y : Int32} (hd : decode code pc = .ok (.lushr, 1)) (hp : pc + 1 = npc) (g : own_Go p.tables e below P (T.setTop (mkF m npc ls (.long (Jvm.Free.XT.ushrL x y) :: st)))) : own_Go p.tables e below P (T.setTop (mkF m pc ls (.int y :: .long x :: st))) := by
  subst hp; obtain ⟨_, X, -, -⟩ := X
  exact g.st fun t k => Jvm.Free.XT.lushr X.here C.1 rfl (hb C.2.1 hd) rfl k
theorem k_idiv (C : own_C p s m meth c Z own nm code ml rt) (X : own_S p l e R s m args below meth c Z T L k n) {x y : Int32} (hd : decode code pc = .ok (.idiv, 1)) (hp : pc + 1 = npc) (hy : y ≠ 0) (g : own_Go p.tables e below P (T.setTop (mkF m npc ls (.int (x / y) :: st)))) : own_Go p.tables e below P (T.setTop (mkF m pc ls (.int y :: .int x :: st))) := by
  subst hp; obtain ⟨_, X, -, -⟩ := X
  exact g.st fun t k => Jvm.Free.XS.idiv X.here C.1 rfl (hb C.2.1 hd) rfl hy k
theorem k_irem (C : own_C p s m meth c Z own nm code ml rt) (X : own_S p l e R s m args below meth c Z T L k n) {x y : Int32} (hd : decode code pc = .ok (.irem, 1)) (hp : pc + 1 = npc) (hy : y ≠ 0) (g : own_Go p.tables e below P (T.setTop (mkF m npc ls (.int (x % y) :: st)))) : own_Go p.tables e below P (T.setTop (mkF m pc ls (.int y :: .int x :: st))) := by
  subst hp; obtain ⟨_, X, -, -⟩ := X
  exact g.st fun t k => iremM X C.1 rfl (hb C.2.1 hd) rfl hy k
theorem k_ldiv (C : own_C p s m meth c Z own nm code ml rt) (X : own_S p l e R s m args below meth c Z T L k n) {x y : Int64} (hd : decode code pc = .ok (.ldiv, 1)) (hp : pc + 1 = npc) (hy : y ≠ 0) (g : own_Go p.tables e below P (T.setTop (mkF m npc ls (.long (x / y) :: st)))) : own_Go p.tables e below P (T.setTop (mkF m pc ls (.long y :: .long x :: st))) := by
  subst hp; obtain ⟨_, X, -, -⟩ := X
  exact g.st fun t k => Jvm.Free.XT.ldiv X.here C.1 rfl (hb C.2.1 hd) rfl hy k
theorem k_lrem (C : own_C p s m meth c Z own nm code ml rt) (X : own_S p l e R s m args below meth c Z T L k n) {x y : Int64} (hd : decode code pc = .ok (.lrem, 1)) (hp : pc + 1 = npc) (hy : y ≠ 0) (g : own_Go p.tables e below P (T.setTop (mkF m npc ls (.long (x - (x / y) * y) :: st)))) : own_Go p.tables e below P (T.setTop (mkF m pc ls (.long y :: .long x :: st))) := by
  subst hp; obtain ⟨_, X, -, -⟩ := X
  exact g.st fun t k => Jvm.Free.XT.lrem X.here C.1 rfl (hb C.2.1 hd) rfl hy k
theorem k_ineg (C : own_C p s m meth c Z own nm code ml rt) (X : own_S p l e R s m args below meth c Z T L k n) {x : Int32} (hd : decode code pc = .ok (.ineg, 1)) (hp : pc + 1 = npc) (g : own_Go p.tables e below P (T.setTop (mkF m npc ls (.int (-x) :: st)))) : own_Go p.tables e below P (T.setTop (mkF m pc ls (.int x :: st))) := by
  subst hp; obtain ⟨_, X, -, -⟩ := X
  exact g.st fun t k => Jvm.Free.XS.ineg X.here C.1 rfl (hb C.2.1 hd) rfl k
theorem k_lneg (C : own_C p s m meth c Z own nm code ml rt) (X : own_S p l e R s m args below meth c Z T L k n) {x : Int64} (hd : decode code pc = .ok (.lneg, 1)) (hp : pc + 1 = npc) (g : own_Go p.tables e below P (T.setTop (mkF m npc ls (.long (-x) :: st)))) : own_Go p.tables e below P (T.setTop (mkF m pc ls (.long x :: st))) := by
  subst hp; obtain ⟨_, X, -, -⟩ := X
  exact g.st fun t k => Jvm.Free.XT.lneg X.here C.1 rfl (hb C.2.1 hd) rfl k
theorem k_i2l (C : own_C p s m meth c Z own nm code ml rt) (X : own_S p l e R s m args below meth c Z T L k n) {x : Int32} (hd : decode code pc = .ok (.i2l, 1)) (hp : pc + 1 = npc) (g : own_Go p.tables e below P (T.setTop (mkF m npc ls (.long x.toInt64 :: st)))) : own_Go p.tables e below P (T.setTop (mkF m pc ls (.int x :: st))) := by
  subst hp; obtain ⟨_, X, -, -⟩ := X
  exact g.st fun t k => Jvm.Free.XT.i2l X.here C.1 rfl (hb C.2.1 hd) rfl k
theorem k_l2i (C : own_C p s m meth c Z own nm code ml rt) (X : own_S p l e R s m args below meth c Z T L k n) {x : Int64} (hd : decode code pc = .ok (.l2i, 1)) (hp : pc + 1 = npc) (g : own_Go p.tables e below P (T.setTop (mkF m npc ls (.int x.toInt32 :: st)))) : own_Go p.tables e below P (T.setTop (mkF m pc ls (.long x :: st))) := by
  subst hp; obtain ⟨_, X, -, -⟩ := X
  exact g.st fun t k => Jvm.Free.XT.l2i X.here C.1 rfl (hb C.2.1 hd) rfl k
theorem k_i2b (C : own_C p s m meth c Z own nm code ml rt) (X : own_S p l e R s m args below meth c Z T L k n) {x : Int32} (hd : decode code pc = .ok (.i2b, 1)) (hp : pc + 1 = npc) (g : own_Go p.tables e below P (T.setTop (mkF m npc ls (.int x.toInt8.toInt32 :: st)))) : own_Go p.tables e below P (T.setTop (mkF m pc ls (.int x :: st))) := by
  subst hp; obtain ⟨_, X, -, -⟩ := X
  exact g.st fun t k => Jvm.Free.XT.i2b X.here C.1 rfl (hb C.2.1 hd) rfl k
theorem k_i2c (C : own_C p s m meth c Z own nm code ml rt) (X : own_S p l e R s m args below meth c Z T L k n) {x : Int32} (hd : decode code pc = .ok (.i2c, 1)) (hp : pc + 1 = npc) (g : own_Go p.tables e below P (T.setTop (mkF m npc ls (.int x.toUInt32.toUInt16.toUInt32.toInt32 :: st)))) : own_Go p.tables e below P (T.setTop (mkF m pc ls (.int x :: st))) := by
  subst hp; obtain ⟨_, X, -, -⟩ := X
  exact g.st fun t k => Jvm.Free.XT.i2c X.here C.1 rfl (hb C.2.1 hd) rfl k
theorem k_i2s (C : own_C p s m meth c Z own nm code ml rt) (X : own_S p l e R s m args below meth c Z T L k n) {x : Int32} (hd : decode code pc = .ok (.i2s, 1)) (hp : pc + 1 = npc) (g : own_Go p.tables e below P (T.setTop (mkF m npc ls (.int x.toInt16.toInt32 :: st)))) : own_Go p.tables e below P (T.setTop (mkF m pc ls (.int x :: st))) := by
  subst hp; obtain ⟨_, X, -, -⟩ := X
  exact g.st fun t k => Jvm.Free.XT.i2s X.here C.1 rfl (hb C.2.1 hd) rfl k
theorem k_i2d (C : own_C p s m meth c Z own nm code ml rt) (X : own_S p l e R s m args below meth c Z T L k n) {x : Int32} (hd : decode code pc = .ok (.i2d, 1)) (hp : pc + 1 = npc) (g : own_Go p.tables e below P (T.setTop (mkF m npc ls (.double (FP.i2d x) :: st)))) : own_Go p.tables e below P (T.setTop (mkF m pc ls (.int x :: st))) := by
  subst hp; obtain ⟨_, X, -, -⟩ := X
  exact g.st fun t k => Jvm.Free.XS.i2dS X.here C.1 rfl (hb C.2.1 hd) rfl rfl k
theorem k_l2d (C : own_C p s m meth c Z own nm code ml rt) (X : own_S p l e R s m args below meth c Z T L k n) {x : Int64} (hd : decode code pc = .ok (.l2d, 1)) (hp : pc + 1 = npc) (g : own_Go p.tables e below P (T.setTop (mkF m npc ls (.double (FP.l2d x) :: st)))) : own_Go p.tables e below P (T.setTop (mkF m pc ls (.long x :: st))) := by
  subst hp; obtain ⟨_, X, -, -⟩ := X
  exact g.st fun t k => Jvm.Free.XS.l2dS X.here C.1 rfl (hb C.2.1 hd) rfl rfl k
theorem k_d2i (C : own_C p s m meth c Z own nm code ml rt) (X : own_S p l e R s m args below meth c Z T L k n) {x : UInt64} (hd : decode code pc = .ok (.d2i, 1)) (hp : pc + 1 = npc) (g : own_Go p.tables e below P (T.setTop (mkF m npc ls (.int (FP.d2i x) :: st)))) : own_Go p.tables e below P (T.setTop (mkF m pc ls (.double x :: st))) := by
  subst hp; obtain ⟨_, X, -, -⟩ := X
  exact g.st fun t k => Jvm.Free.XS.d2iS X.here C.1 rfl (hb C.2.1 hd) rfl rfl k
theorem k_d2l (C : own_C p s m meth c Z own nm code ml rt) (X : own_S p l e R s m args below meth c Z T L k n) {x : UInt64} (hd : decode code pc = .ok (.d2l, 1)) (hp : pc + 1 = npc) (g : own_Go p.tables e below P (T.setTop (mkF m npc ls (.long (FP.d2l x) :: st)))) : own_Go p.tables e below P (T.setTop (mkF m pc ls (.double x :: st))) := by
  subst hp; obtain ⟨_, X, -, -⟩ := X
  exact g.st fun t k => Jvm.Free.XS.d2lS X.here C.1 rfl (hb C.2.1 hd) rfl rfl k
theorem k_dneg (C : own_C p s m meth c Z own nm code ml rt) (X : own_S p l e R s m args below meth c Z T L k n) {x : UInt64} (hd : decode code pc = .ok (.dneg, 1)) (hp : pc + 1 = npc) (g : own_Go p.tables e below P (T.setTop (mkF m npc ls (.double (FP.dneg x) :: st)))) : own_Go p.tables e below P (T.setTop (mkF m pc ls (.double x :: st))) := by
  subst hp; obtain ⟨_, X, -, -⟩ := X
  exact g.st fun t k => Jvm.Free.XS.dnegS X.here C.1 rfl (hb C.2.1 hd) rfl rfl k
theorem k_lcmp (C : own_C p s m meth c Z own nm code ml rt) (X : own_S p l e R s m args below meth c Z T L k n) {x y : Int64} (hd : decode code pc = .ok (.lcmp, 1)) (hp : pc + 1 = npc) (g : own_Go p.tables e below P (T.setTop (mkF m npc ls (.int (Jvm.Free.XT.cmpL x y) :: st)))) : own_Go p.tables e below P (T.setTop (mkF m pc ls (.long y :: .long x :: st))) := by
  subst hp; obtain ⟨_, X, -, -⟩ := X
  exact g.st fun t k => Jvm.Free.XT.lcmp X.here C.1 rfl (hb C.2.1 hd) rfl k
theorem k_dcmpl (C : own_C p s m meth c Z own nm code ml rt) (X : own_S p l e R s m args below meth c Z T L k n) {x y : UInt64} (hd : decode code pc = .ok (.dcmp .l, 1)) (hp : pc + 1 = npc) (g : own_Go p.tables e below P (T.setTop (mkF m npc ls (.int (FP.cmpInt (-1) (FP.dcmp x y)) :: st)))) : own_Go p.tables e below P (T.setTop (mkF m pc ls (.double y :: .double x :: st))) := by
  subst hp; obtain ⟨_, X, -, -⟩ := X
  exact g.st fun t k => Jvm.Free.XS.dcmpS X.here C.1 rfl (hb C.2.1 hd) rfl (cmpV_l _) k
theorem k_dcmpg (C : own_C p s m meth c Z own nm code ml rt) (X : own_S p l e R s m args below meth c Z T L k n) {x y : UInt64} (hd : decode code pc = .ok (.dcmp .g, 1)) (hp : pc + 1 = npc) (g : own_Go p.tables e below P (T.setTop (mkF m npc ls (.int (FP.cmpInt 1 (FP.dcmp x y)) :: st)))) : own_Go p.tables e below P (T.setTop (mkF m pc ls (.double y :: .double x :: st))) := by
  subst hp; obtain ⟨_, X, -, -⟩ := X
  exact g.st fun t k => Jvm.Free.XS.dcmpS X.here C.1 rfl (hb C.2.1 hd) rfl (cmpV_g _) k
theorem k_dadd (C : own_C p s m meth c Z own nm code ml rt) (X : own_S p l e R s m args below meth c Z T L k n) {x y : UInt64} (hd : decode code pc = .ok (.dadd, 1)) (hp : pc + 1 = npc) (hn : Jvm.Free.Fl.NoNaN64 (FP.dadd x y)) (g : ∀ v, v = FP.dadd x y → own_Go p.tables e below P (T.setTop (mkF m npc ls (.double v :: st)))) : own_Go p.tables e below P (T.setTop (mkF m pc ls (.double y :: .double x :: st))) := by
  subst hp; obtain ⟨_, X, -, -⟩ := X
  exact (g _ rfl).st fun t k => Jvm.Free.XS.daddS X.here C.1 rfl (hb C.2.1 hd) rfl hn rfl k
theorem k_dsub (C : own_C p s m meth c Z own nm code ml rt) (X : own_S p l e R s m args below meth c Z T L k n) {x y : UInt64} (hd : decode code pc = .ok (.dsub, 1)) (hp : pc + 1 = npc) (hn : Jvm.Free.Fl.NoNaN64 (FP.dsub x y)) (g : ∀ v, v = FP.dsub x y → own_Go p.tables e below P (T.setTop (mkF m npc ls (.double v :: st)))) : own_Go p.tables e below P (T.setTop (mkF m pc ls (.double y :: .double x :: st))) := by
  subst hp; obtain ⟨_, X, -, -⟩ := X
  exact (g _ rfl).st fun t k => Jvm.Free.XS.dsubS X.here C.1 rfl (hb C.2.1 hd) rfl hn rfl k
theorem k_dmul (C : own_C p s m meth c Z own nm code ml rt) (X : own_S p l e R s m args below meth c Z T L k n) {x y : UInt64} (hd : decode code pc = .ok (.dmul, 1)) (hp : pc + 1 = npc) (hn : Jvm.Free.Fl.NoNaN64 (FP.dmul x y)) (g : ∀ v, v = FP.dmul x y → own_Go p.tables e below P (T.setTop (mkF m npc ls (.double v :: st)))) : own_Go p.tables e below P (T.setTop (mkF m pc ls (.double y :: .double x :: st))) := by
  subst hp; obtain ⟨_, X, -, -⟩ := X
  exact (g _ rfl).st fun t k => Jvm.Free.XS.dmulS X.here C.1 rfl (hb C.2.1 hd) rfl hn rfl k
theorem k_ddiv (C : own_C p s m meth c Z own nm code ml rt) (X : own_S p l e R s m args below meth c Z T L k n) {x y : UInt64} (hd : decode code pc = .ok (.ddiv, 1)) (hp : pc + 1 = npc) (hn : Jvm.Free.Fl.NoNaN64 (FP.ddiv x y)) (g : ∀ v, v = FP.ddiv x y → own_Go p.tables e below P (T.setTop (mkF m npc ls (.double v :: st)))) : own_Go p.tables e below P (T.setTop (mkF m pc ls (.double y :: .double x :: st))) := by
  subst hp; obtain ⟨_, X, -, -⟩ := X
  exact (g _ rfl).st fun t k => Jvm.Free.XS.ddivS X.here C.1 rfl (hb C.2.1 hd) rfl hn rfl k
theorem k_daddE (C : own_C p s m meth c Z own nm code ml rt) (X : own_S p l e R s m args below meth c Z T L k n) {x y : UInt64} (hd : decode code pc = .ok (.dadd, 1)) (hp : pc + 1 = npc) (hn : Jvm.Free.Fl.NoNaN64 (FP.dadd x y)) (g : own_Go p.tables e below P (T.setTop (mkF m npc ls (.double (FP.dadd x y) :: st)))) : own_Go p.tables e below P (T.setTop (mkF m pc ls (.double y :: .double x :: st))) := by
  subst hp; obtain ⟨_, X, -, -⟩ := X
  exact g.st fun t k => Jvm.Free.XS.daddS X.here C.1 rfl (hb C.2.1 hd) rfl hn rfl k
theorem k_dsubE (C : own_C p s m meth c Z own nm code ml rt) (X : own_S p l e R s m args below meth c Z T L k n) {x y : UInt64} (hd : decode code pc = .ok (.dsub, 1)) (hp : pc + 1 = npc) (hn : Jvm.Free.Fl.NoNaN64 (FP.dsub x y)) (g : own_Go p.tables e below P (T.setTop (mkF m npc ls (.double (FP.dsub x y) :: st)))) : own_Go p.tables e below P (T.setTop (mkF m pc ls (.double y :: .double x :: st))) := by
  subst hp; obtain ⟨_, X, -, -⟩ := X
  exact g.st fun t k => Jvm.Free.XS.dsubS X.here C.1 rfl (hb C.2.1 hd) rfl hn rfl k
theorem k_dmulE (C : own_C p s m meth c Z own nm code ml rt) (X : own_S p l e R s m args below meth c Z T L k n) {x y : UInt64} (hd : decode code pc = .ok (.dmul, 1)) (hp : pc + 1 = npc) (hn : Jvm.Free.Fl.NoNaN64 (FP.dmul x y)) (g : own_Go p.tables e below P (T.setTop (mkF m npc ls (.double (FP.dmul x y) :: st)))) : own_Go p.tables e below P (T.setTop (mkF m pc ls (.double y :: .double x :: st))) := by
  subst hp; obtain ⟨_, X, -, -⟩ := X
  exact g.st fun t k => Jvm.Free.XS.dmulS X.here C.1 rfl (hb C.2.1 hd) rfl hn rfl k
theorem k_ddivE (C : own_C p s m meth c Z own nm code ml rt) (X : own_S p l e R s m args below meth c Z T L k n) {x y : UInt64} (hd : decode code pc = .ok (.ddiv, 1)) (hp : pc + 1 = npc) (hn : Jvm.Free.Fl.NoNaN64 (FP.ddiv x y)) (g : own_Go p.tables e below P (T.setTop (mkF m npc ls (.double (FP.ddiv x y) :: st)))) : own_Go p.tables e below P (T.setTop (mkF m pc ls (.double y :: .double x :: st))) := by
  subst hp; obtain ⟨_, X, -, -⟩ := X
  exact g.st fun t k => Jvm.Free.XS.ddivS X.here C.1 rfl (hb C.2.1 hd) rfl hn rfl k
theorem k_iconst (C : own_C p s m meth c Z own nm code ml rt) (X : own_S p l e R s m args below meth c Z T L k n) {i : Int} {v : Int32} (hd : decode code pc = .ok (.iconst i, 1)) (hp : pc + 1 = npc) (hv : Int32.ofInt i = v) (g : own_Go p.tables e below P (T.setTop (mkF m npc ls (.int v :: st)))) : own_Go p.tables e below P (T.setTop (mkF m pc ls (st))) := by
  subst hp; obtain ⟨_, X, -, -⟩ := X
  exact g.st fun t k => Jvm.Free.XT.iconstV X.here C.1 rfl v (hb C.2.1 hd) hv k
theorem k_bipush (C : own_C p s m meth c Z own nm code ml rt) (X : own_S p l e R s m args below meth c Z T L k n) {i : Int} {v : Int32} (hd : decode code pc = .ok (.bipush i, 2)) (hp : pc + 2 = npc) (hv : (Int8.ofInt i).toInt32 = v) (g : own_Go p.tables e below P (T.setTop (mkF m npc ls (.int v :: st)))) : own_Go p.tables e below P (T.setTop (mkF m pc ls (st))) := by
  subst hp; obtain ⟨_, X, -, -⟩ := X
  exact g.st fun t k => Jvm.Free.XT.bipushV X.here C.1 rfl v (hb C.2.1 hd) hv k
theorem k_sipush (C : own_C p s m meth c Z own nm code ml rt) (X : own_S p l e R s m args below meth c Z T L k n) {i : Int} {v : Int32} (hd : decode code pc = .ok (.sipush i, 3)) (hp : pc + 3 = npc) (hv : (Int16.ofInt i).toInt32 = v) (g : own_Go p.tables e below P (T.setTop (mkF m npc ls (.int v :: st)))) : own_Go p.tables e below P (T.setTop (mkF m pc ls (st))) := by
  subst hp; obtain ⟨_, X, -, -⟩ := X
  exact g.st fun t k => Jvm.Free.XT.sipushV X.here C.1 rfl v (hb C.2.1 hd) hv k
theorem k_lconst (C : own_C p s m meth c Z own nm code ml rt) (X : own_S p l e R s m args below meth c Z T L k n) {i : Fin 2} {v : Int64} (hd : decode code pc = .ok (.lconst i, 1)) (hp : pc + 1 = npc) (hv : Int64.ofNat i = v) (g : own_Go p.tables e below P (T.setTop (mkF m npc ls (.long v :: st)))) : own_Go p.tables e below P (T.setTop (mkF m pc ls (st))) := by
  subst hp; obtain ⟨_, X, -, -⟩ := X
  exact g.st fun t k => Jvm.Free.XT.lconstV X.here C.1 rfl v (hb C.2.1 hd) hv k
theorem k_dconst0 (C : own_C p s m meth c Z own nm code ml rt) (X : own_S p l e R s m args below meth c Z T L k n) (hd : decode code pc = .ok (.dconst 0, 1)) (hp : pc + 1 = npc) (g : own_Go p.tables e below P (T.setTop (mkF m npc ls (.double 0 :: st)))) : own_Go p.tables e below P (T.setTop (mkF m pc ls (st))) := by
  subst hp; obtain ⟨_, X, -, -⟩ := X
  exact g.st fun t k => Jvm.Free.XS.dconst0 X.here C.1 rfl (hb C.2.1 hd) rfl k
theorem k_dconst1 (C : own_C p s m meth c Z own nm code ml rt) (X : own_S p l e R s m args below meth c Z T L k n) (hd : decode code pc = .ok (.dconst 1, 1)) (hp : pc + 1 = npc) (g : own_Go p.tables e below P (T.setTop (mkF m npc ls (.double 4607182418800017408 :: st)))) : own_Go p.tables e below P (T.setTop (mkF m pc ls (st))) := by
  subst hp; obtain ⟨_, X, -, -⟩ := X
  exact g.st fun t k => Jvm.Free.XS.dconst1 X.here C.1 rfl (hb C.2.1 hd) rfl k
theorem k_aconst_null (C : own_C p s m meth c Z own nm code ml rt) (X : own_S p l e R s m args below meth c Z T L k n) (hd : decode code pc = .ok (.aconst_null, 1)) (hp : pc + 1 = npc) (g : own_Go p.tables e below P (T.setTop (mkF m npc ls (.null :: st)))) : own_Go p.tables e below P (T.setTop (mkF m pc ls (st))) := by
  subst hp; obtain ⟨_, X, -, -⟩ := X
  exact g.st fun t k => Jvm.Free.XS.aconstNull X.here C.1 rfl (hb C.2.1 hd)  k
theorem k_pop (C : own_C p s m meth c Z own nm code ml rt) (X : own_S p l e R s m args below meth c Z T L k n) {x : Value} (hd : decode code pc = .ok (.pop, 1)) (hp : pc + 1 = npc) (hc : x.category = 1) (g : own_Go p.tables e below P (T.setTop (mkF m npc ls (st)))) : own_Go p.tables e below P (T.setTop (mkF m pc ls (x :: st))) := by
  subst hp; obtain ⟨_, X, -, -⟩ := X
  exact g.st fun t k => Jvm.Free.XT.pop X.here C.1 rfl (hb C.2.1 hd) rfl hc k
theorem k_dup (C : own_C p s m meth c Z own nm code ml rt) (X : own_S p l e R s m args below meth c Z T L k n) {x : Value} (hd : decode code pc = .ok (.dup, 1)) (hp : pc + 1 = npc) (hc : x.category = 1) (g : own_Go p.tables e below P (T.setTop (mkF m npc ls (x :: x :: st)))) : own_Go p.tables e below P (T.setTop (mkF m pc ls (x :: st))) := by
  subst hp; obtain ⟨_, X, -, -⟩ := X
  exact g.st fun t k => Jvm.Free.XS.dup X.here C.1 rfl (hb C.2.1 hd) rfl hc k
theorem k_dup_x1 (C : own_C p s m meth c Z own nm code ml rt) (X : own_S p l e R s m args below meth c Z T L k n) {x y : Value} (hd : decode code pc = .ok (.dup_x1, 1)) (hp : pc + 1 = npc) (hc : x.category = 1) (hc' : y.category = 1) (g : own_Go p.tables e below P (T.setTop (mkF m npc ls (x :: y :: x :: st)))) : own_Go p.tables e below P (T.setTop (mkF m pc ls (x :: y :: st))) := by
  subst hp; obtain ⟨_, X, -, -⟩ := X
  exact g.st fun t k => Jvm.Free.XT.dupX1 X.here C.1 rfl (hb C.2.1 hd) rfl hc hc' k
theorem k_dup2 (C : own_C p s m meth c Z own nm code ml rt) (X : own_S p l e R s m args below meth c Z T L k n) {x y : Value} (hd : decode code pc = .ok (.dup2, 1)) (hp : pc + 1 = npc) (hc : x.category = 1) (hc' : y.category = 1) (g : own_Go p.tables e below P (T.setTop (mkF m npc ls (x :: y :: x :: y :: st)))) : own_Go p.tables e below P (T.setTop (mkF m pc ls (x :: y :: st))) := by
  subst hp; obtain ⟨_, X, -, -⟩ := X
  exact g.st fun t k => Jvm.Free.XT.dup2 X.here C.1 rfl (hb C.2.1 hd) rfl hc hc' k
theorem k_iload (C : own_C p s m meth c Z own nm code ml rt) (X : own_S p l e R s m args below meth c Z T L k n) {i : Nat} {v : Int32} (hd : decode code pc = .ok (.iload i, 2)) (hp : pc + 2 = npc) (hl : ls[i]? = some (.val (.int v))) (g : own_Go p.tables e below P (T.setTop (mkF m npc ls (.int v :: st)))) : own_Go p.tables e below P (T.setTop (mkF m pc ls (st))) := by
  subst hp; obtain ⟨_, X, -, -⟩ := X
  exact g.st fun t k => Jvm.Free.XS.iload X.here C.1 rfl (hb C.2.1 hd) hl k
theorem k_istore (C : own_C p s m meth c Z own nm code ml rt) (X : own_S p l e R s m args below meth c Z T L k n) {i : Nat} {v : Int32} {l' : Array Slot} (hd : decode code pc = .ok (.istore i, 2)) (hp : pc + 2 = npc) (hl : storeLocals ls i (.int v) = some l') (g : own_Go p.tables e below P (T.setTop (mkF m npc l' st))) : own_Go p.tables e below P (T.setTop (mkF m pc ls (.int v :: st))) := by
  subst hp; obtain ⟨_, X, -, -⟩ := X
  exact g.st fun t k => Jvm.Free.XS.istore X.here C.1 rfl (hb C.2.1 hd) rfl hl k
theorem k_iloadN (C : own_C p s m meth c Z own nm code ml rt) (X : own_S p l e R s m args below meth c Z T L k n) {i : Fin 4} {v : Int32} (hd : decode code pc = .ok (.iload_n i, 1)) (hp : pc + 1 = npc) (hl : ls[i.val]? = some (.val (.int v))) (g : own_Go p.tables e below P (T.setTop (mkF m npc ls (.int v :: st)))) : own_Go p.tables e below P (T.setTop (mkF m pc ls (st))) := by
  subst hp; obtain ⟨_, X, -, -⟩ := X
  exact g.st fun t k => Jvm.Free.XS.iloadN X.here C.1 rfl (hb C.2.1 hd) hl k
theorem k_istoreN (C : own_C p s m meth c Z own nm code ml rt) (X : own_S p l e R s m args below meth c Z T L k n) {i : Fin 4} {v : Int32} {l' : Array Slot} (hd : decode code pc = .ok (.istore_n i, 1)) (hp : pc + 1 = npc) (hl : storeLocals ls i.val (.int v) = some l') (g : own_Go p.tables e below P (T.setTop (mkF m npc l' st))) : own_Go p.tables e below P (T.setTop (mkF m pc ls (.int v :: st))) := by
  subst hp; obtain ⟨_, X, -, -⟩ := X
  exact g.st fun t k => Jvm.Free.XS.istoreN X.here C.1 rfl (hb C.2.1 hd) rfl hl k
theorem k_lload (C : own_C p s m meth c Z own nm code ml rt) (X : own_S p l e R s m args below meth c Z T L k n) {i : Nat} {v : Int64} (hd : decode code pc = .ok (.lload i, 2)) (hp : pc + 2 = npc) (hl : ls[i]? = some (.val (.long v))) (g : own_Go p.tables e below P (T.setTop (mkF m npc ls (.long v :: st)))) : own_Go p.tables e below P (T.setTop (mkF m pc ls (st))) := by
  subst hp; obtain ⟨_, X, -, -⟩ := X
  exact g.st fun t k => Jvm.Free.XT.lload X.here C.1 rfl (hb C.2.1 hd) hl k
theorem k_lstore (C : own_C p s m meth c Z own nm code ml rt) (X : own_S p l e R s m args below meth c Z T L k n) {i : Nat} {v : Int64} {l' : Array Slot} (hd : decode code pc = .ok (.lstore i, 2)) (hp : pc + 2 = npc) (hl : storeLocals ls i (.long v) = some l') (g : own_Go p.tables e below P (T.setTop (mkF m npc l' st))) : own_Go p.tables e below P (T.setTop (mkF m pc ls (.long v :: st))) := by
  subst hp; obtain ⟨_, X, -, -⟩ := X
  exact g.st fun t k => Jvm.Free.XT.lstore X.here C.1 rfl (hb C.2.1 hd) rfl hl k
theorem k_lloadN (C : own_C p s m meth c Z own nm code ml rt) (X : own_S p l e R s m args below meth c Z T L k n) {i : Fin 4} {v : Int64} (hd : decode code pc = .ok (.lload_n i, 1)) (hp : pc + 1 = npc) (hl : ls[i.val]? = some (.val (.long v))) (g : own_Go p.tables e below P (T.setTop (mkF m npc ls (.long v :: st)))) : own_Go p.tables e below P (T.setTop (mkF m pc ls (st))) := by
  subst hp; obtain ⟨_, X, -, -⟩ := X
  exact g.st fun t k => Jvm.Free.XT.lloadN X.here C.1 rfl (hb C.2.1 hd) hl k
theorem k_lstoreN (C : own_C p s m meth c Z own nm code ml rt) (X : own_S p l e R s m args below meth c Z T L k n) {i : Fin 4} {v : Int64} {l' : Array Slot} (hd : decode code pc = .ok (.lstore_n i, 1)) (hp : pc + 1 = npc) (hl : storeLocals ls i.val (.long v) = some l') (g : own_Go p.tables e below P (T.setTop (mkF m npc l' st))) : own_Go p.tables e below P (T.setTop (mkF m pc ls (.long v :: st))) := by
  subst hp; obtain ⟨_, X, -, -⟩ := X
  exact g.st fun t k => Jvm.Free.XT.lstoreN X.here C.1 rfl (hb C.2.1 hd) rfl hl k
theorem k_dload (C : own_C p s m meth c Z own nm code ml rt) (X : own_S p l e R s m args below meth c Z T L k n) {i : Nat} {v : UInt64} (hd : decode code pc = .ok (.dload i, 2)) (hp : pc + 2 = npc) (hl : ls[i]? = some (.val (.double v))) (g : own_Go p.tables e below P (T.setTop (mkF m npc ls (.double v :: st)))) : own_Go p.tables e below P (T.setTop (mkF m pc ls (st))) := by
  subst hp; obtain ⟨_, X, -, -⟩ := X
  exact g.st fun t k => Jvm.Free.XS.dload X.here C.1 rfl (hb C.2.1 hd) hl k
theorem k_dstore (C : own_C p s m meth c Z own nm code ml rt) (X : own_S p l e R s m args below meth c Z T L k n) {i : Nat} {v : UInt64} {l' : Array Slot} (hd : decode code pc = .ok (.dstore i, 2)) (hp : pc + 2 = npc) (hl : storeLocals ls i (.double v) = some l') (g : own_Go p.tables e below P (T.setTop (mkF m npc l' st))) : own_Go p.tables e below P (T.setTop (mkF m pc ls (.double v :: st))) := by
  subst hp; obtain ⟨_, X, -, -⟩ := X
  exact g.st fun t k => Jvm.Free.XS.dstore X.here C.1 rfl (hb C.2.1 hd) rfl hl k
theorem k_dloadN (C : own_C p s m meth c Z own nm code ml rt) (X : own_S p l e R s m args below meth c Z T L k n) {i : Fin 4} {v : UInt64} (hd : decode code pc = .ok (.dload_n i, 1)) (hp : pc + 1 = npc) (hl : ls[i.val]? = some (.val (.double v))) (g : own_Go p.tables e below P (T.setTop (mkF m npc ls (.double v :: st)))) : own_Go p.tables e below P (T.setTop (mkF m pc ls (st))) := by
  subst hp; obtain ⟨_, X, -, -⟩ := X
  exact g.st fun t k => Jvm.Free.XS.dloadN X.here C.1 rfl (hb C.2.1 hd) hl k
theorem k_dstoreN (C : own_C p s m meth c Z own nm code ml rt) (X : own_S p l e R s m args below meth c Z T L k n) {i : Fin 4} {v : UInt64} {l' : Array Slot} (hd : decode code pc = .ok (.dstore_n i, 1)) (hp : pc + 1 = npc) (hl : storeLocals ls i.val (.double v) = some l') (g : own_Go p.tables e below P (T.setTop (mkF m npc l' st))) : own_Go p.tables e below P (T.setTop (mkF m pc ls (.double v :: st))) := by
  subst hp; obtain ⟨_, X, -, -⟩ := X
  exact g.st fun t k => Jvm.Free.XS.dstoreN X.here C.1 rfl (hb C.2.1 hd) rfl hl k
theorem k_aload (C : own_C p s m meth c Z own nm code ml rt) (X : own_S p l e R s m args below meth c Z T L k n) {i : Nat} {v : Value} (hd : decode code pc = .ok (.aload i, 2)) (hp : pc + 2 = npc) (hl : ls[i]? = some (.val (v))) (hv : v.isRef = true) (g : own_Go p.tables e below P (T.setTop (mkF m npc ls (v :: st)))) : own_Go p.tables e below P (T.setTop (mkF m pc ls (st))) := by
  subst hp; obtain ⟨_, X, -, -⟩ := X
  exact g.st fun t k => Jvm.Free.XS.aload X.here C.1 rfl (hb C.2.1 hd) hl hv k
theorem k_astore (C : own_C p s m meth c Z own nm code ml rt) (X : own_S p l e R s m args below meth c Z T L k n) {i : Nat} {v : Value} {l' : Array Slot} (hd : decode code pc = .ok (.astore i, 2)) (hp : pc + 2 = npc) (hv : v.isRef = true) (hl : storeLocals ls i (v) = some l') (g : own_Go p.tables e below P (T.setTop (mkF m npc l' st))) : own_Go p.tables e below P (T.setTop (mkF m pc ls (v :: st))) := by
  subst hp; obtain ⟨_, X, -, -⟩ := X
  exact g.st fun t k => Jvm.Free.XS.astore X.here C.1 rfl (hb C.2.1 hd) rfl hv hl k
theorem k_aloadN (C : own_C p s m meth c Z own nm code ml rt) (X : own_S p l e R s m args below meth c Z T L k n) {i : Fin 4} {v : Value} (hd : decode code pc = .ok (.aload_n i, 1)) (hp : pc + 1 = npc) (hl : ls[i.val]? = some (.val (v))) (hv : v.isRef = true) (g : own_Go p.tables e below P (T.setTop (mkF m npc ls (v :: st)))) : own_Go p.tables e below P (T.setTop (mkF m pc ls (st))) := by
  subst hp; obtain ⟨_, X, -, -⟩ := X
  exact g.st fun t k => Jvm.Free.XS.aloadN X.here C.1 rfl (hb C.2.1 hd) hl hv k
theorem k_astoreN (C : own_C p s m meth c Z own nm code ml rt) (X : own_S p l e R s m args below meth c Z T L k n) {i : Fin 4} {v : Value} {l' : Array Slot} (hd : decode code pc = .ok (.astore_n i, 1)) (hp : pc + 1 = npc) (hv : v.isRef = true) (hl : storeLocals ls i.val (v) = some l') (g : own_Go p.tables e below P (T.setTop (mkF m npc l' st))) : own_Go p.tables e below P (T.setTop (mkF m pc ls (v :: st))) := by
  subst hp; obtain ⟨_, X, -, -⟩ := X
  exact g.st fun t k => Jvm.Free.XS.astoreN X.here C.1 rfl (hb C.2.1 hd) rfl hv hl k
theorem k_iinc (C : own_C p s m meth c Z own nm code ml rt) (X : own_S p l e R s m args below meth c Z T L k n) {i : Nat} {cst : Int} {x v : Int32} {l' : Array Slot} (hd : decode code pc = .ok (.iinc i cst, 3)) (hp : pc + 3 = npc) (hv : Int32.ofInt cst = v) (hl : ls[i]? = some (.val (.int x))) (hl' : storeLocals ls i (.int (x + v)) = some l') (g : own_Go p.tables e below P (T.setTop (mkF m npc l' st))) : own_Go p.tables e below P (T.setTop (mkF m pc ls st)) := by
  subst hp; obtain ⟨_, X, -, -⟩ := X
  exact g.st fun t k => Jvm.Free.XT.iincV X.here C.1 rfl v (hb C.2.1 hd) hv hl hl' k
theorem k_goto (C : own_C p s m meth c Z own nm code ml rt) (X : own_S p l e R s m args below meth c Z T L k n) {o : Int} (hd : decode code pc = .ok (.goto o, 3)) (ht : (pc : Int) + o = (tpc : Int)) (g : own_Go p.tables e below P (T.setTop (mkF m tpc ls st))) : own_Go p.tables e below P (T.setTop (mkF m pc ls st)) := by
  obtain ⟨_, X, -, -⟩ := X
  exact g.st fun t k => Jvm.Free.XS.goto X.here C.1 rfl (pc0 := pc) (pc' := tpc) rfl (hb C.2.1 hd) (by omega) (by omega) k
theorem k_if_eq (C : own_C p s m meth c Z own nm code ml rt) (X : own_S p l e R s m args below meth c Z T L k n) {x : Int32} {o : Int} (hd : decode code pc = .ok (.ifCond .eq o, 3)) (hp : pc + 3 = npc) (ht : (pc : Int) + o = (tpc : Int)) (yes : x = 0 → own_Go p.tables e below P (T.setTop (mkF m tpc ls st))) (no : ¬ x = 0 → own_Go p.tables e below P (T.setTop (mkF m npc ls st))) : own_Go p.tables e below P (T.setTop (mkF m pc ls (.int x :: st))) := by
  subst hp; obtain ⟨_, X, -, -⟩ := X
  by_cases q : x = 0
  · exact (yes q).st fun t k => Jvm.Free.XS.ifYes X.here C.1 rfl (pc0 := pc) (pc' := tpc) rfl (hb C.2.1 hd) rfl (Jvm.Free.XT.i0_eq_t q) (by omega) (by omega) k
  · exact (no q).st fun t k => Jvm.Free.XS.ifNo X.here C.1 rfl (hb C.2.1 hd) rfl (Jvm.Free.XT.i0_eq_f q) k
theorem k_if_ne (C : own_C p s m meth c Z own nm code ml rt) (X : own_S p l e R s m args below meth c Z T L k n) {x : Int32} {o : Int} (hd : decode code pc = .ok (.ifCond .ne o, 3)) (hp : pc + 3 = npc) (ht : (pc : Int) + o = (tpc : Int)) (yes : ¬ x = 0 → own_Go p.tables e below P (T.setTop (mkF m tpc ls st))) (no : x = 0 → own_Go p.tables e below P (T.setTop (mkF m npc ls st))) : own_Go p.tables e below P (T.setTop (mkF m pc ls (.int x :: st))) := by
  subst hp; obtain ⟨_, X, -, -⟩ := X
  by_cases q : ¬ x = 0
  · exact (yes q).st fun t k => Jvm.Free.XS.ifYes X.here C.1 rfl (pc0 := pc) (pc' := tpc) rfl (hb C.2.1 hd) rfl (Jvm.Free.XT.i0_ne_t q) (by omega) (by omega) k
  · have q := Decidable.not_not.mp q
    exact (no q).st fun t k => Jvm.Free.XS.ifNo X.here C.1 rfl (hb C.2.1 hd) rfl (Jvm.Free.XT.i0_ne_f q) k
theorem k_if_lt (C : own_C p s m meth c Z own nm code ml rt) (X : own_S p l e R s m args below meth c Z T L k n) {x : Int32} {o : Int} (hd : decode code pc = .ok (.ifCond .lt o, 3)) (hp : pc + 3 = npc) (ht : (pc : Int) + o = (tpc : Int)) (yes : x < 0 → own_Go p.tables e below P (T.setTop (mkF m tpc ls st))) (no : ¬ x < 0 → own_Go p.tables e below P (T.setTop (mkF m npc ls st))) : own_Go p.tables e below P (T.setTop (mkF m pc ls (.int x :: st))) := by
  subst hp; obtain ⟨_, X, -, -⟩ := X
  by_cases q : x < 0
  · exact (yes q).st fun t k => Jvm.Free.XS.ifYes X.here C.1 rfl (pc0 := pc) (pc' := tpc) rfl (hb C.2.1 hd) rfl (Jvm.Free.XT.i0_lt_t q) (by omega) (by omega) k
  · exact (no q).st fun t k => Jvm.Free.XS.ifNo X.here C.1 rfl (hb C.2.1 hd) rfl (Jvm.Free.XT.i0_lt_f q) k
theorem k_if_ge (C : own_C p s m meth c Z own nm code ml rt) (X : own_S p l e R s m args below meth c Z T L k n) {x : Int32} {o : Int} (hd : decode code pc = .ok (.ifCond .ge o, 3)) (hp : pc + 3 = npc) (ht : (pc : Int) + o = (tpc : Int)) (yes : ¬ x < 0 → own_Go p.tables e below P (T.setTop (mkF m tpc ls st))) (no : x < 0 → own_Go p.tables e below P (T.setTop (mkF m npc ls st))) : own_Go p.tables e below P (T.setTop (mkF m pc ls (.int x :: st))) := by
  subst hp; obtain ⟨_, X, -, -⟩ := X
  by_cases q : ¬ x < 0
  · exact (yes q).st fun t k => Jvm.Free.XS.ifYes X.here C.1 rfl (pc0 := pc) (pc' := tpc) rfl (hb C.2.1 hd) rfl (Jvm.Free.XT.i0_ge_t q) (by omega) (by omega) k
  · have q := Decidable.not_not.mp q
    exact (no q).st fun t k => Jvm.Free.XS.ifNo X.here C.1 rfl (hb C.2.1 hd) rfl (Jvm.Free.XT.i0_ge_f q) k
theorem k_if_gt (C : own_C p s m meth c Z own nm code ml rt) (X : own_S p l e R s m args below meth c Z T L k n) {x : Int32} {o : Int} (hd : decode code pc = .ok (.ifCond .gt o, 3)) (hp : pc + 3 = npc) (ht : (pc : Int) + o = (tpc : Int)) (yes : 0 < x → own_Go p.tables e below P (T.setTop (mkF m tpc ls st))) (no : ¬ 0 < x → own_Go p.tables e below P (T.setTop (mkF m npc ls st))) : own_Go p.tables e below P (T.setTop (mkF m pc ls (.int x :: st))) := by
  subst hp; obtain ⟨_, X, -, -⟩ := X
  by_cases q : 0 < x
  · exact (yes q).st fun t k => Jvm.Free.XS.ifYes X.here C.1 rfl (pc0 := pc) (pc' := tpc) rfl (hb C.2.1 hd) rfl (Jvm.Free.XT.i0_gt_t q) (by omega) (by omega) k
  · exact (no q).st fun t k => Jvm.Free.XS.ifNo X.here C.1 rfl (hb C.2.1 hd) rfl (Jvm.Free.XT.i0_gt_f q) k
theorem k_if_le (C : own_C p s m meth c Z own nm code ml rt) (X : own_S p l e R s m args below meth c Z T L k n) {x : Int32} {o : Int} (hd : decode code pc = .ok (.ifCond .le o, 3)) (hp : pc + 3 = npc) (ht : (pc : Int) + o = (tpc : Int)) (yes : ¬ 0 < x → own_Go p.tables e below P (T.setTop (mkF m tpc ls st))) (no : 0 < x → own_Go p.tables e below P (T.setTop (mkF m npc ls st))) : own_Go p.tables e below P (T.setTop (mkF m pc ls (.int x :: st))) := by
  subst hp; obtain ⟨_, X, -, -⟩ := X
  by_cases q : ¬ 0 < x
  · exact (yes q).st fun t k => Jvm.Free.XS.ifYes X.here C.1 rfl (pc0 := pc) (pc' := tpc) rfl (hb C.2.1 hd) rfl (Jvm.Free.XT.i0_le_t q) (by omega) (by omega) k
  · have q := Decidable.not_not.mp q
    exact (no q).st fun t k => Jvm.Free.XS.ifNo X.here C.1 rfl (hb C.2.1 hd) rfl (Jvm.Free.XT.i0_le_f q) k
theorem k_icmp_eq (C : own_C p s m meth c Z own nm code ml rt) (X : own_S p l e R s m args below meth c Z T L k n) {x y : Int32} {o : Int} (hd : decode code pc = .ok (.if_icmp .eq o, 3)) (hp : pc + 3 = npc) (ht : (pc : Int) + o = (tpc : Int)) (yes : x = y → own_Go p.tables e below P (T.setTop (mkF m tpc ls st))) (no : ¬ x = y → own_Go p.tables e below P (T.setTop (mkF m npc ls st))) : own_Go p.tables e below P (T.setTop (mkF m pc ls (.int y :: .int x :: st))) := by
  subst hp; obtain ⟨_, X, -, -⟩ := X
  by_cases q : x = y
  · exact (yes q).st fun t k => Jvm.Free.XS.icmpYes X.here C.1 rfl (pc0 := pc) (pc' := tpc) rfl (hb C.2.1 hd) rfl (Jvm.Free.XT.ii_eq_t q) (by omega) (by omega) k
  · exact (no q).st fun t k => Jvm.Free.XS.icmpNo X.here C.1 rfl (hb C.2.1 hd) rfl (Jvm.Free.XT.ii_eq_f q) k
theorem k_icmp_ne (C : own_C p s m meth c Z own nm code ml rt) (X : own_S p l e R s m args below meth c Z T L k n) {x y : Int32} {o : Int} (hd : decode code pc = .ok (.if_icmp .ne o, 3)) (hp : pc + 3 = npc) (ht : (pc : Int) + o = (tpc : Int)) (yes : ¬ x = y → own_Go p.tables e below P (T.setTop (mkF m tpc ls st))) (no : x = y → own_Go p.tables e below P (T.setTop (mkF m npc ls st))) : own_Go p.tables e below P (T.setTop (mkF m pc ls (.int y :: .int x :: st))) := by
  subst hp; obtain ⟨_, X, -, -⟩ := X
  by_cases q : ¬ x = y
  · exact (yes q).st fun t k => Jvm.Free.XS.icmpYes X.here C.1 rfl (pc0 := pc) (pc' := tpc) rfl (hb C.2.1 hd) rfl (Jvm.Free.XT.ii_ne_t q) (by omega) (by omega) k
  · have q := Decidable.not_not.mp q
    exact (no q).st fun t k => Jvm.Free.XS.icmpNo X.here C.1 rfl (hb C.2.1 hd) rfl (Jvm.Free.XT.ii_ne_f q) k
theorem k_icmp_lt (C : own_C p s m meth c Z own nm code ml rt) (X : own_S p l e R s m args below meth c Z T L k n) {x y : Int32} {o : Int} (hd : decode code pc = .ok (.if_icmp .lt o, 3)) (hp : pc + 3 = npc) (ht : (pc : Int) + o = (tpc : Int)) (yes : x < y → own_Go p.tables e below P (T.setTop (mkF m tpc ls st))) (no : ¬ x < y → own_Go p.tables e below P (T.setTop (mkF m npc ls st))) : own_Go p.tables e below P (T.setTop (mkF m pc ls (.int y :: .int x :: st))) := by
  subst hp; obtain ⟨_, X, -, -⟩ := X
  by_cases q : x < y
  · exact (yes q).st fun t k => Jvm.Free.XS.icmpYes X.here C.1 rfl (pc0 := pc) (pc' := tpc) rfl (hb C.2.1 hd) rfl (Jvm.Free.XT.ii_lt_t q) (by omega) (by omega) k
  · exact (no q).st fun t k => Jvm.Free.XS.icmpNo X.here C.1 rfl (hb C.2.1 hd) rfl (Jvm.Free.XT.ii_lt_f q) k
theorem k_icmp_ge (C : own_C p s m meth c Z own nm code ml rt) (X : own_S p l e R s m args below meth c Z T L k n) {x y : Int32} {o : Int} (hd : decode code pc = .ok (.if_icmp .ge o, 3)) (hp : pc + 3 = npc) (ht : (pc : Int) + o = (tpc : Int)) (yes : ¬ x < y → own_Go p.tables e below P (T.setTop (mkF m tpc ls st))) (no : x < y → own_Go p.tables e below P (T.setTop (mkF m npc ls st))) : own_Go p.tables e below P (T.setTop (mkF m pc ls (.int y :: .int x :: st))) := by
  subst hp; obtain ⟨_, X, -, -⟩ := X
  by_cases q : ¬ x < y
  · exact (yes q).st fun t k => Jvm.Free.XS.icmpYes X.here C.1 rfl (pc0 := pc) (pc' := tpc) rfl (hb C.2.1 hd) rfl (Jvm.Free.XT.ii_ge_t q) (by omega) (by omega) k
  · have q := Decidable.not_not.mp q
    exact (no q).st fun t k => Jvm.Free.XS.icmpNo X.here C.1 rfl (hb C.2.1 hd) rfl (Jvm.Free.XT.ii_ge_f q) k
theorem k_icmp_gt (C : own_C p s m meth c Z own nm code ml rt) (X : own_S p l e R s m args below meth c Z T L k n) {x y : Int32} {o : Int} (hd : decode code pc = .ok (.if_icmp .gt o, 3)) (hp : pc + 3 = npc) (ht : (pc : Int) + o = (tpc : Int)) (yes : y < x → own_Go p.tables e below P (T.setTop (mkF m tpc ls st))) (no : ¬ y < x → own_Go p.tables e below P (T.setTop (mkF m npc ls st))) : own_Go p.tables e below P (T.setTop (mkF m pc ls (.int y :: .int x :: st))) := by
  subst hp; obtain ⟨_, X, -, -⟩ := X
  by_cases q : y < x
  · exact (yes q).st fun t k => Jvm.Free.XS.icmpYes X.here C.1 rfl (pc0 := pc) (pc' := tpc) rfl (hb C.2.1 hd) rfl (Jvm.Free.XT.ii_gt_t q) (by omega) (by omega) k
  · exact (no q).st fun t k => Jvm.Free.XS.icmpNo X.here C.1 rfl (hb C.2.1 hd) rfl (Jvm.Free.XT.ii_gt_f q) k
theorem k_icmp_le (C : own_C p s m meth c Z own nm code ml rt) (X : own_S p l e R s m args below meth c Z T L k n) {x y : Int32} {o : Int} (hd : decode code pc = .ok (.if_icmp .le o, 3)) (hp : pc + 3 = npc) (ht : (pc : Int) + o = (tpc : Int)) (yes : ¬ y < x → own_Go p.tables e below P (T.setTop (mkF m tpc ls st))) (no : y < x → own_Go p.tables e below P (T.setTop (mkF m npc ls st))) : own_Go p.tables e below P (T.setTop (mkF m pc ls (.int y :: .int x :: st))) := by
  subst hp; obtain ⟨_, X, -, -⟩ := X
  by_cases q : ¬ y < x
  · exact (yes q).st fun t k => Jvm.Free.XS.icmpYes X.here C.1 rfl (pc0 := pc) (pc' := tpc) rfl (hb C.2.1 hd) rfl (Jvm.Free.XT.ii_le_t q) (by omega) (by omega) k
  · have q := Decidable.not_not.mp q
    exact (no q).st fun t k => Jvm.Free.XS.icmpNo X.here C.1 rfl (hb C.2.1 hd) rfl (Jvm.Free.XT.ii_le_f q) k
theorem k_ifl_eq (C : own_C p s m meth c Z own nm code ml rt) (X : own_S p l e R s m args below meth c Z T L k n) {x y : Int64} {o : Int} (hd : decode code pc = .ok (.ifCond .eq o, 3)) (hp : pc + 3 = npc) (ht : (pc : Int) + o = (tpc : Int)) (yes : x = y → own_Go p.tables e below P (T.setTop (mkF m tpc ls st))) (no : ¬ x = y → own_Go p.tables e below P (T.setTop (mkF m npc ls st))) : own_Go p.tables e below P (T.setTop (mkF m pc ls (.int (Jvm.Free.XT.cmpL x y) :: st))) := by
  subst hp; obtain ⟨_, X, -, -⟩ := X
  by_cases q : x = y
  · exact (yes q).st fun t k => Jvm.Free.XS.ifYes X.here C.1 rfl (pc0 := pc) (pc' := tpc) rfl (hb C.2.1 hd) rfl (Jvm.Free.XT.ll_eq_t q) (by omega) (by omega) k
  · exact (no q).st fun t k => Jvm.Free.XS.ifNo X.here C.1 rfl (hb C.2.1 hd) rfl (Jvm.Free.XT.ll_eq_f q) k
theorem k_ifl_ne (C : own_C p s m meth c Z own nm code ml rt) (X : own_S p l e R s m args below meth c Z T L k n) {x y : Int64} {o : Int} (hd : decode code pc = .ok (.ifCond .ne o, 3)) (hp : pc + 3 = npc) (ht : (pc : Int) + o = (tpc : Int)) (yes : ¬ x = y → own_Go p.tables e below P (T.setTop (mkF m tpc ls st))) (no : x = y → own_Go p.tables e below P (T.setTop (mkF m npc ls st))) : own_Go p.tables e below P (T.setTop (mkF m pc ls (.int (Jvm.Free.XT.cmpL x y) :: st))) := by
  subst hp; obtain ⟨_, X, -, -⟩ := X
  by_cases q : ¬ x = y
  · exact (yes q).st fun t k => Jvm.Free.XS.ifYes X.here C.1 rfl (pc0 := pc) (pc' := tpc) rfl (hb C.2.1 hd) rfl (Jvm.Free.XT.ll_ne_t q) (by omega) (by omega) k
  · have q := Decidable.not_not.mp q
    exact (no q).st fun t k => Jvm.Free.XS.ifNo X.here C.1 rfl (hb C.2.1 hd) rfl (Jvm.Free.XT.ll_ne_f q) k
theorem k_ifl_lt (C : own_C p s m meth c Z own nm code ml rt) (X : own_S p l e R s m args below meth c Z T L k n) {x y : Int64} {o : Int} (hd : decode code pc = .ok (.ifCond .lt o, 3)) (hp : pc + 3 = npc) (ht : (pc : Int) + o = (tpc : Int)) (yes : x < y → own_Go p.tables e below P (T.setTop (mkF m tpc ls st))) (no : ¬ x < y → own_Go p.tables e below P (T.setTop (mkF m npc ls st))) : own_Go p.tables e below P (T.setTop (mkF m pc ls (.int (Jvm.Free.XT.cmpL x y) :: st))) := by
  subst hp; obtain ⟨_, X, -, -⟩ := X
  by_cases q : x < y
  · exact (yes q).st fun t k => Jvm.Free.XS.ifYes X.here C.1 rfl (pc0 := pc) (pc' := tpc) rfl (hb C.2.1 hd) rfl (Jvm.Free.XT.ll_lt_t q) (by omega) (by omega) k
  · exact (no q).st fun t k => Jvm.Free.XS.ifNo X.here C.1 rfl (hb C.2.1 hd) rfl (Jvm.Free.XT.ll_lt_f q) k
theorem k_ifl_ge (C : own_C p s m meth c Z own nm code ml rt) (X : own_S p l e R s m args below meth c Z T L k n) {x y : Int64} {o : Int} (hd : decode code pc = .ok (.ifCond .ge o, 3)) (hp : pc + 3 = npc) (ht : (pc : Int) + o = (tpc : Int)) (yes : ¬ x < y → own_Go p.tables e below P (T.setTop (mkF m tpc ls st))) (no : x < y → own_Go p.tables e below P (T.setTop (mkF m npc ls st))) : own_Go p.tables e below P (T.setTop (mkF m pc ls (.int (Jvm.Free.XT.cmpL x y) :: st))) := by
  subst hp; obtain ⟨_, X, -, -⟩ := X
  by_cases q : ¬ x < y
  · exact (yes q).st fun t k => Jvm.Free.XS.ifYes X.here C.1 rfl (pc0 := pc) (pc' := tpc) rfl (hb C.2.1 hd) rfl (Jvm.Free.XT.ll_ge_t q) (by omega) (by omega) k
  · have q := Decidable.not_not.mp q
    exact (no q).st fun t k => Jvm.Free.XS.ifNo X.here C.1 rfl (hb C.2.1 hd) rfl (Jvm.Free.XT.ll_ge_f q) k
theorem k_ifl_gt (C : own_C p s m meth c Z own nm code ml rt) (X : own_S p l e R s m args below meth c Z T L k n) {x y : Int64} {o : Int} (hd : decode code pc = .ok (.ifCond .gt o, 3)) (hp : pc + 3 = npc) (ht : (pc : Int) + o = (tpc : Int)) (yes : y < x → own_Go p.tables e below P (T.setTop (mkF m tpc ls st))) (no : ¬ y < x → own_Go p.tables e below P (T.setTop (mkF m npc ls st))) : own_Go p.tables e below P (T.setTop (mkF m pc ls (.int (Jvm.Free.XT.cmpL x y) :: st))) := by
  subst hp; obtain ⟨_, X, -, -⟩ := X
  by_cases q : y < x
  · exact (yes q).st fun t k => Jvm.Free.XS.ifYes X.here C.1 rfl (pc0 := pc) (pc' := tpc) rfl (hb C.2.1 hd) rfl (Jvm.Free.XT.ll_gt_t q) (by omega) (by omega) k
  · exact (no q).st fun t k => Jvm.Free.XS.ifNo X.here C.1 rfl (hb C.2.1 hd) rfl (Jvm.Free.XT.ll_gt_f q) k
theorem k_ifl_le (C : own_C p s m meth c Z own nm code ml rt) (X : own_S p l e R s m args below meth c Z T L k n) {x y : Int64} {o : Int} (hd : decode code pc = .ok (.ifCond .le o, 3)) (hp : pc + 3 = npc) (ht : (pc : Int) + o = (tpc : Int)) (yes : ¬ y < x → own_Go p.tables e below P (T.setTop (mkF m tpc ls st))) (no : y < x → own_Go p.tables e below P (T.setTop (mkF m npc ls st))) : own_Go p.tables e below P (T.setTop (mkF m pc ls (.int (Jvm.Free.XT.cmpL x y) :: st))) := by
  subst hp; obtain ⟨_, X, -, -⟩ := X
  by_cases q : ¬ y < x
  · exact (yes q).st fun t k => Jvm.Free.XS.ifYes X.here C.1 rfl (pc0 := pc) (pc' := tpc) rfl (hb C.2.1 hd) rfl (Jvm.Free.XT.ll_le_t q) (by omega) (by omega) k
  · have q := Decidable.not_not.mp q
    exact (no q).st fun t k => Jvm.Free.XS.ifNo X.here C.1 rfl (hb C.2.1 hd) rfl (Jvm.Free.XT.ll_le_f q) k
theorem k_ifdl_eq (C : own_C p s m meth c Z own nm code ml rt) (X : own_S p l e R s m args below meth c Z T L k n) {x y : UInt64} {o : Int} (hd : decode code pc = .ok (.ifCond .eq o, 3)) (hp : pc + 3 = npc) (ht : (pc : Int) + o = (tpc : Int)) (yes : (FP.dcmp x y = some .eq) → own_Go p.tables e below P (T.setTop (mkF m tpc ls st))) (no : ¬ (FP.dcmp x y = some .eq) → own_Go p.tables e below P (T.setTop (mkF m npc ls st))) : own_Go p.tables e below P (T.setTop (mkF m pc ls (.int (FP.cmpInt (-1) (FP.dcmp x y)) :: st))) := by
  subst hp; obtain ⟨_, X, -, -⟩ := X
  rcases hq : FP.dcmp x y with _ | (_ | _ | _) <;> simp only [hq] at yes no
  all_goals first
    | exact (yes (by simp)).st fun t k => Jvm.Free.XS.ifYes X.here C.1 rfl (pc0 := pc) (pc' := tpc) rfl (hb C.2.1 hd) rfl (by decide) (by omega) (by omega) k
    | exact (no (by simp)).st fun t k => Jvm.Free.XS.ifNo X.here C.1 rfl (hb C.2.1 hd) rfl (by decide) k
theorem k_ifdl_ne (C : own_C p s m meth c Z own nm code ml rt) (X : own_S p l e R s m args below meth c Z T L k n) {x y : UInt64} {o : Int} (hd : decode code pc = .ok (.ifCond .ne o, 3)) (hp : pc + 3 = npc) (ht : (pc : Int) + o = (tpc : Int)) (yes : ¬ (FP.dcmp x y = some .eq) → own_Go p.tables e below P (T.setTop (mkF m tpc ls st))) (no : (FP.dcmp x y = some .eq) → own_Go p.tables e below P (T.setTop (mkF m npc ls st))) : own_Go p.tables e below P (T.setTop (mkF m pc ls (.int (FP.cmpInt (-1) (FP.dcmp x y)) :: st))) := by
  subst hp; obtain ⟨_, X, -, -⟩ := X
  rcases hq : FP.dcmp x y with _ | (_ | _ | _) <;> simp only [hq] at yes no
  all_goals first
    | exact (yes (by simp)).st fun t k => Jvm.Free.XS.ifYes X.here C.1 rfl (pc0 := pc) (pc' := tpc) rfl (hb C.2.1 hd) rfl (by decide) (by omega) (by omega) k
    | exact (no (by simp)).st fun t k => Jvm.Free.XS.ifNo X.here C.1 rfl (hb C.2.1 hd) rfl (by decide) k
theorem k_ifdl_lt (C : own_C p s m meth c Z own nm code ml rt) (X : own_S p l e R s m args below meth c Z T L k n) {x y : UInt64} {o : Int} (hd : decode code pc = .ok (.ifCond .lt o, 3)) (hp : pc + 3 = npc) (ht : (pc : Int) + o = (tpc : Int)) (yes : (FP.dcmp x y = some .lt ∨ FP.dcmp x y = none) → own_Go p.tables e below P (T.setTop (mkF m tpc ls st))) (no : ¬ (FP.dcmp x y = some .lt ∨ FP.dcmp x y = none) → own_Go p.tables e below P (T.setTop (mkF m npc ls st))) : own_Go p.tables e below P (T.setTop (mkF m pc ls (.int (FP.cmpInt (-1) (FP.dcmp x y)) :: st))) := by
  subst hp; obtain ⟨_, X, -, -⟩ := X
  rcases hq : FP.dcmp x y with _ | (_ | _ | _) <;> simp only [hq] at yes no
  all_goals first
    | exact (yes (by simp)).st fun t k => Jvm.Free.XS.ifYes X.here C.1 rfl (pc0 := pc) (pc' := tpc) rfl (hb C.2.1 hd) rfl (by decide) (by omega) (by omega) k
    | exact (no (by simp)).st fun t k => Jvm.Free.XS.ifNo X.here C.1 rfl (hb C.2.1 hd) rfl (by decide) k
theorem k_ifdl_ge (C : own_C p s m meth c Z own nm code ml rt) (X : own_S p l e R s m args below meth c Z T L k n) {x y : UInt64} {o : Int} (hd : decode code pc = .ok (.ifCond .ge o, 3)) (hp : pc + 3 = npc) (ht : (pc : Int) + o = (tpc : Int)) (yes : ¬ (FP.dcmp x y = some .lt ∨ FP.dcmp x y = none) → own_Go p.tables e below P (T.setTop (mkF m tpc ls st))) (no : (FP.dcmp x y = some .lt ∨ FP.dcmp x y = none) → own_Go p.tables e below P (T.setTop (mkF m npc ls st))) : own_Go p.tables e below P (T.setTop (mkF m pc ls (.int (FP.cmpInt (-1) (FP.dcmp x y)) :: st))) := by
  subst hp; obtain ⟨_, X, -, -⟩ := X
  rcases hq : FP.dcmp x y with _ | (_ | _ | _) <;> simp only [hq] at yes no
  all_goals first
    | exact (yes (by simp)).st fun t k => Jvm.Free.XS.ifYes X.here C.1 rfl (pc0 := pc) (pc' := tpc) rfl (hb C.2.1 hd) rfl (by decide) (by omega) (by omega) k
    | exact (no (by simp)).st fun t k => Jvm.Free.XS.ifNo X.here C.1 rfl (hb C.2.1 hd) rfl (by decide) k
theorem k_ifdl_gt (C : own_C p s m meth c Z own nm code ml rt) (X : own_S p l e R s m args below meth c Z T L k n) {x y : UInt64} {o : Int} (hd : decode code pc = .ok (.ifCond .gt o, 3)) (hp : pc + 3 = npc) (ht : (pc : Int) + o = (tpc : Int)) (yes : (FP.dcmp x y = some .gt) → own_Go p.tables e below P (T.setTop (mkF m tpc ls st))) (no : ¬ (FP.dcmp x y = some .gt) → own_Go p.tables e below P (T.setTop (mkF m npc ls st))) : own_Go p.tables e below P (T.setTop (mkF m pc ls (.int (FP.cmpInt (-1) (FP.dcmp x y)) :: st))) := by
  subst hp; obtain ⟨_, X, -, -⟩ := X
  rcases hq : FP.dcmp x y with _ | (_ | _ | _) <;> simp only [hq] at yes no
  all_goals first
    | exact (yes (by simp)).st fun t k => Jvm.Free.XS.ifYes X.here C.1 rfl (pc0 := pc) (pc' := tpc) rfl (hb C.2.1 hd) rfl (by decide) (by omega) (by omega) k
    | exact (no (by simp)).st fun t k => Jvm.Free.XS.ifNo X.here C.1 rfl (hb C.2.1 hd) rfl (by decide) k
theorem k_ifdl_le (C : own_C p s m meth c Z own nm code ml rt) (X : own_S p l e R s m args below meth c Z T L k n) {x y : UInt64} {o : Int} (hd : decode code pc = .ok (.ifCond .le o, 3)) (hp : pc + 3 = npc) (ht : (pc : Int) + o = (tpc : Int)) (yes : ¬ (FP.dcmp x y = some .gt) → own_Go p.tables e below P (T.setTop (mkF m tpc ls st))) (no : (FP.dcmp x y = some .gt) → own_Go p.tables e below P (T.setTop (mkF m npc ls st))) : own_Go p.tables e below P (T.setTop (mkF m pc ls (.int (FP.cmpInt (-1) (FP.dcmp x y)) :: st))) := by
  subst hp; obtain ⟨_, X, -, -⟩ := X
  rcases hq : FP.dcmp x y with _ | (_ | _ | _) <;> simp only [hq] at yes no
  all_goals first
    | exact (yes (by simp)).st fun t k => Jvm.Free.XS.ifYes X.here C.1 rfl (pc0 := pc) (pc' := tpc) rfl (hb C.2.1 hd) rfl (by decide) (by omega) (by omega) k
    | exact (no (by simp)).st fun t k => Jvm.Free.XS.ifNo X.here C.1 rfl (hb C.2.1 hd) rfl (by decide) k
theorem k_ifdg_eq (C : own_C p s m meth c Z own nm code ml rt) (X : own_S p l e R s m args below meth c Z T L k n) {x y : UInt64} {o : Int} (hd : decode code pc = .ok (.ifCond .eq o, 3)) (hp : pc + 3 = npc) (ht : (pc : Int) + o = (tpc : Int)) (yes : (FP.dcmp x y = some .eq) → own_Go p.tables e below P (T.setTop (mkF m tpc ls st))) (no : ¬ (FP.dcmp x y = some .eq) → own_Go p.tables e below P (T.setTop (mkF m npc ls st))) : own_Go p.tables e below P (T.setTop (mkF m pc ls (.int (FP.cmpInt 1 (FP.dcmp x y)) :: st))) := by
  subst hp; obtain ⟨_, X, -, -⟩ := X
  rcases hq : FP.dcmp x y with _ | (_ | _ | _) <;> simp only [hq] at yes no
  all_goals first
    | exact (yes (by simp)).st fun t k => Jvm.Free.XS.ifYes X.here C.1 rfl (pc0 := pc) (pc' := tpc) rfl (hb C.2.1 hd) rfl (by decide) (by omega) (by omega) k
    | exact (no (by simp)).st fun t k => Jvm.Free.XS.ifNo X.here C.1 rfl (hb C.2.1 hd) rfl (by decide) k
theorem k_ifdg_ne (C : own_C p s m meth c Z own nm code ml rt) (X : own_S p l e R s m args below meth c Z T L k n) {x y : UInt64} {o : Int} (hd : decode code pc = .ok (.ifCond .ne o, 3)) (hp : pc + 3 = npc) (ht : (pc : Int) + o = (tpc : Int)) (yes : ¬ (FP.dcmp x y = some .eq) → own_Go p.tables e below P (T.setTop (mkF m tpc ls st))) (no : (FP.dcmp x y = some .eq) → own_Go p.tables e below P (T.setTop (mkF m npc ls st))) : own_Go p.tables e below P (T.setTop (mkF m pc ls (.int (FP.cmpInt 1 (FP.dcmp x y)) :: st))) := by
  subst hp; obtain ⟨_, X, -, -⟩ := X
  rcases hq : FP.dcmp x y with _ | (_ | _ | _) <;> simp only [hq] at yes no
  all_goals first
    | exact (yes (by simp)).st fun t k => Jvm.Free.XS.ifYes X.here C.1 rfl (pc0 := pc) (pc' := tpc) rfl (hb C.2.1 hd) rfl (by decide) (by omega) (by omega) k
    | exact (no (by simp)).st fun t k => Jvm.Free.XS.ifNo X.here C.1 rfl (hb C.2.1 hd) rfl (by decide) k
theorem k_ifdg_lt (C : own_C p s m meth c Z own nm code ml rt) (X : own_S p l e R s m args below meth c Z T L k n) {x y : UInt64} {o : Int} (hd : decode code pc = .ok (.ifCond .lt o, 3)) (hp : pc + 3 = npc) (ht : (pc : Int) + o = (tpc : Int)) (yes : (FP.dcmp x y = some .lt) → own_Go p.tables e below P (T.setTop (mkF m tpc ls st))) (no : ¬ (FP.dcmp x y = some .lt) → own_Go p.tables e below P (T.setTop (mkF m npc ls st))) : own_Go p.tables e below P (T.setTop (mkF m pc ls (.int (FP.cmpInt 1 (FP.dcmp x y)) :: st))) := by
  subst hp; obtain ⟨_, X, -, -⟩ := X
  rcases hq : FP.dcmp x y with _ | (_ | _ | _) <;> simp only [hq] at yes no
  all_goals first
    | exact (yes (by simp)).st fun t k => Jvm.Free.XS.ifYes X.here C.1 rfl (pc0 := pc) (pc' := tpc) rfl (hb C.2.1 hd) rfl (by decide) (by omega) (by omega) k
    | exact (no (by simp)).st fun t k => Jvm.Free.XS.ifNo X.here C.1 rfl (hb C.2.1 hd) rfl (by decide) k
theorem k_ifdg_ge (C : own_C p s m meth c Z own nm code ml rt) (X : own_S p l e R s m args below meth c Z T L k n) {x y : UInt64} {o : Int} (hd : decode code pc = .ok (.ifCond .ge o, 3)) (hp : pc + 3 = npc) (ht : (pc : Int) + o = (tpc : Int)) (yes : ¬ (FP.dcmp x y = some .lt) → own_Go p.tables e below P (T.setTop (mkF m tpc ls st))) (no : (FP.dcmp x y = some .lt) → own_Go p.tables e below P (T.setTop (mkF m npc ls st))) : own_Go p.tables e below P (T.setTop (mkF m pc ls (.int (FP.cmpInt 1 (FP.dcmp x y)) :: st))) := by
  subst hp; obtain ⟨_, X, -, -⟩ := X
  rcases hq : FP.dcmp x y with _ | (_ | _ | _) <;> simp only [hq] at yes no
  all_goals first
    | exact (yes (by simp)).st fun t k => Jvm.Free.XS.ifYes X.here C.1 rfl (pc0 := pc) (pc' := tpc) rfl (hb C.2.1 hd) rfl (by decide) (by omega) (by omega) k
    | exact (no (by simp)).st fun t k => Jvm.Free.XS.ifNo X.here C.1 rfl (hb C.2.1 hd) rfl (by decide) k
theorem k_ifdg_gt (C : own_C p s m meth c Z own nm code ml rt) (X : own_S p l e R s m args below meth c Z T L k n) {x y : UInt64} {o : Int} (hd : decode code pc = .ok (.ifCond .gt o, 3)) (hp : pc + 3 = npc) (ht : (pc : Int) + o = (tpc : Int)) (yes : (FP.dcmp x y = some .gt ∨ FP.dcmp x y = none) → own_Go p.tables e below P (T.setTop (mkF m tpc ls st))) (no : ¬ (FP.dcmp x y = some .gt ∨ FP.dcmp x y = none) → own_Go p.tables e below P (T.setTop (mkF m npc ls st))) : own_Go p.tables e below P (T.setTop (mkF m pc ls (.int (FP.cmpInt 1 (FP.dcmp x y)) :: st))) := by
  subst hp; obtain ⟨_, X, -, -⟩ := X
  rcases hq : FP.dcmp x y with _ | (_ | _ | _) <;> simp only [hq] at yes no
  all_goals first
    | exact (yes (by simp)).st fun t k => Jvm.Free.XS.ifYes X.here C.1 rfl (pc0 := pc) (pc' := tpc) rfl (hb C.2.1 hd) rfl (by decide) (by omega) (by omega) k
    | exact (no (by simp)).st fun t k => Jvm.Free.XS.ifNo X.here C.1 rfl (hb C.2.1 hd) rfl (by decide) k
theorem k_ifdg_le (C : own_C p s m meth c Z own nm code ml rt) (X : own_S p l e R s m args below meth c Z T L k n) {x y : UInt64} {o : Int} (hd : decode code pc = .ok (.ifCond .le o, 3)) (hp : pc + 3 = npc) (ht : (pc : Int) + o = (tpc : Int)) (yes : ¬ (FP.dcmp x y = some .gt ∨ FP.dcmp x y = none) → own_Go p.tables e below P (T.setTop (mkF m tpc ls st))) (no : (FP.dcmp x y = some .gt ∨ FP.dcmp x y = none) → own_Go p.tables e below P (T.setTop (mkF m npc ls st))) : own_Go p.tables e below P (T.setTop (mkF m pc ls (.int (FP.cmpInt 1 (FP.dcmp x y)) :: st))) := by
  subst hp; obtain ⟨_, X, -, -⟩ := X
  rcases hq : FP.dcmp x y with _ | (_ | _ | _) <;> simp only [hq] at yes no
  all_goals first
    | exact (yes (by simp)).st fun t k => Jvm.Free.XS.ifYes X.here C.1 rfl (pc0 := pc) (pc' := tpc) rfl (hb C.2.1 hd) rfl (by decide) (by omega) (by omega) k
    | exact (no (by simp)).st fun t k => Jvm.Free.XS.ifNo X.here C.1 rfl (hb C.2.1 hd) rfl (by decide) k
theorem k_ifnull_y (C : own_C p s m meth c Z own nm code ml rt) (X : own_S p l e R s m args below meth c Z T L k n)  {o : Int} (hd : decode code pc = .ok (.ifnull o, 3)) (ht : (pc : Int) + o = (tpc : Int)) (g : own_Go p.tables e below P (T.setTop (mkF m tpc ls st))) : own_Go p.tables e below P (T.setTop (mkF m pc ls (.null :: st))) := by
  obtain ⟨_, X, -, -⟩ := X
  exact g.st fun t k => Jvm.Free.XS.ifnullYes X.here C.1 rfl (pc0 := pc) (pc' := tpc) rfl (hb C.2.1 hd) rfl (by omega) (by omega) k
theorem k_ifnull_n (C : own_C p s m meth c Z own nm code ml rt) (X : own_S p l e R s m args below meth c Z T L k n) {b : Addr} {o : Int} (hd : decode code pc = .ok (.ifnull o, 3)) (hp : pc + 3 = npc) (g : own_Go p.tables e below P (T.setTop (mkF m npc ls st))) : own_Go p.tables e below P (T.setTop (mkF m pc ls (.ref b :: st))) := by
  subst hp; obtain ⟨_, X, -, -⟩ := X
  exact g.st fun t k => Jvm.Free.XS.ifnullNo X.here C.1 rfl (hb C.2.1 hd) rfl k
theorem k_ifnonnull_y (C : own_C p s m meth c Z own nm code ml rt) (X : own_S p l e R s m args below meth c Z T L k n) {b : Addr} {o : Int} (hd : decode code pc = .ok (.ifnonnull o, 3)) (ht : (pc : Int) + o = (tpc : Int)) (g : own_Go p.tables e below P (T.setTop (mkF m tpc ls st))) : own_Go p.tables e below P (T.setTop (mkF m pc ls (.ref b :: st))) := by
  obtain ⟨_, X, -, -⟩ := X
  exact g.st fun t k => Jvm.Free.XT.ifnonnullYes X.here C.1 rfl (pc0 := pc) (pc' := tpc) rfl (hb C.2.1 hd) rfl (by omega) (by omega) k
theorem k_ifnonnull_n (C : own_C p s m meth c Z own nm code ml rt) (X : own_S p l e R s m args below meth c Z T L k n)  {o : Int} (hd : decode code pc = .ok (.ifnonnull o, 3)) (hp : pc + 3 = npc) (g : own_Go p.tables e below P (T.setTop (mkF m npc ls st))) : own_Go p.tables e below P (T.setTop (mkF m pc ls (.null :: st))) := by
  subst hp; obtain ⟨_, X, -, -⟩ := X
  exact g.st fun t k => Jvm.Free.XT.ifnonnullNo X.here C.1 rfl (hb C.2.1 hd) rfl k
theorem k_acmp_eq (C : own_C p s m meth c Z own nm code ml rt) (X : own_S p l e R s m args below meth c Z T L k n) {x y : Value} {o : Int} (hd : decode code pc = .ok (.if_acmp .eq o, 3)) (hp : pc + 3 = npc) (ht : (pc : Int) + o = (tpc : Int)) (hx : x.isRef = true) (hy : y.isRef = true) (yes : x = y → own_Go p.tables e below P (T.setTop (mkF m tpc ls st))) (no : ¬ x = y → own_Go p.tables e below P (T.setTop (mkF m npc ls st))) : own_Go p.tables e below P (T.setTop (mkF m pc ls (y :: x :: st))) := by
  subst hp; obtain ⟨_, X, -, -⟩ := X
  by_cases q : x = y
  · exact (yes q).st fun t k => Jvm.Free.XT.acmpYes X.here C.1 rfl (pc0 := pc) (pc' := tpc) rfl (hb C.2.1 hd) rfl hx hy (Jvm.Free.XT.aa_eq_t q) (by omega) (by omega) k
  · exact (no q).st fun t k => Jvm.Free.XT.acmpNo X.here C.1 rfl (hb C.2.1 hd) rfl hx hy (Jvm.Free.XT.aa_eq_f q) k
theorem k_acmp_ne (C : own_C p s m meth c Z own nm code ml rt) (X : own_S p l e R s m args below meth c Z T L k n) {x y : Value} {o : Int} (hd : decode code pc = .ok (.if_acmp .ne o, 3)) (hp : pc + 3 = npc) (ht : (pc : Int) + o = (tpc : Int)) (hx : x.isRef = true) (hy : y.isRef = true) (yes : ¬ x = y → own_Go p.tables e below P (T.setTop (mkF m tpc ls st))) (no : x = y → own_Go p.tables e below P (T.setTop (mkF m npc ls st))) : own_Go p.tables e below P (T.setTop (mkF m pc ls (y :: x :: st))) := by
  subst hp; obtain ⟨_, X, -, -⟩ := X
  by_cases q : ¬ x = y
  · exact (yes q).st fun t k => Jvm.Free.XT.acmpYes X.here C.1 rfl (pc0 := pc) (pc' := tpc) rfl (hb C.2.1 hd) rfl hx hy (Jvm.Free.XT.aa_ne_t q) (by omega) (by omega) k
  · have q := Decidable.not_not.mp q
    exact (no q).st fun t k => Jvm.Free.XT.acmpNo X.here C.1 rfl (hb C.2.1 hd) rfl hx hy (Jvm.Free.XT.aa_ne_f q) k
theorem k_ldc (C : own_C p s m meth c Z own nm code ml rt) (X : own_S p l e R s m args below meth c Z T L k n) {i : Nat} {v : Int32} (hd : decode code pc = .ok (.ldc i, 2)) (hp : pc + 2 = npc) (hw : (Jvm.Cond.constant own i v).before a0 Z = true) (g : own_Go p.tables e below P (T.setTop (mkF m npc ls (.int v :: st)))) : own_Go p.tables e below P (T.setTop (mkF m pc ls st)) := by
  subst hp; obtain ⟨_, X, -, -⟩ := X
  exact g.st fun t k => X.ldcI C.1 C.2.2.2.2.1 (mv C.2.2.2.1 hw) rfl (hb C.2.1 hd) k
theorem k_ldc2l (C : own_C p s m meth c Z own nm code ml rt) (X : own_S p l e R s m args below meth c Z T L k n) {i : Nat} {v : Int64} (hd : decode code pc = .ok (.ldc2_w i, 3)) (hp : pc + 3 = npc) (hw : (Jvm.Cond.constantLong own i v).before a0 Z = true) (g : own_Go p.tables e below P (T.setTop (mkF m npc ls (.long v :: st)))) : own_Go p.tables e below P (T.setTop (mkF m pc ls st)) := by
  subst hp; obtain ⟨_, X, -, -⟩ := X
  exact g.st fun t k => X.ldc2J C.1 C.2.2.2.2.1 (mv C.2.2.2.1 hw) rfl (hb C.2.1 hd) k
theorem k_ldc2d (C : own_C p s m meth c Z own nm code ml rt) (X : own_S p l e R s m args below meth c Z T L k n) {i : Nat} {v : UInt64} (hd : decode code pc = .ok (.ldc2_w i, 3)) (hp : pc + 3 = npc) (hw : (Jvm.Cond.constantDouble own i v).before a0 Z = true) (g : own_Go p.tables e below P (T.setTop (mkF m npc ls (.double v :: st)))) : own_Go p.tables e below P (T.setTop (mkF m pc ls st)) := by
  subst hp; obtain ⟨_, X, -, -⟩ := X
  exact g.st fun t k => X.ldc2DoubleC C.1 C.2.2.2.2.1 (mv C.2.2.2.1 hw) (g := mkF m pc ls st) rfl (hb C.2.1 hd) _ k
theorem k_new (C : own_C p s m meth c Z own nm code ml rt) (X : own_S p l e R s m args below meth c Z T L k n) {i sl : Nat} {K : String} {N : List (String × String × FieldType)} {fs : List (String × String × Value)} (hd : decode code pc = .ok (.new i, 3)) (hp : pc + 3 = npc) (w1 : (Jvm.Cond.classLink own i K).before a0 Z = true) (w2 : (Jvm.Cond.instantiable K sl).before a0 Z = true) (w3 : (Jvm.Cond.initialized K).before a0 Z = true) (hN : own_lay Z a0 K N) (hfs : N.map (fun q => (q.1, q.2.1, defaultValue q.2.2)) = fs) (hk : k + 1 ≤ R.cells) (hn : n + sl ≤ R.slots)
    (g : ∀ T' a, own_S p l e R s m args below meth c Z T' ((a, own_ob Z K fs) :: L) (k + 1) (n + sl) → own_Go p.tables e below P (T'.setTop (mkF m npc ls (.ref a :: st)))) : own_Go p.tables e below P (T.setTop (mkF m pc ls st)) := by
  subst hp hfs; obtain ⟨locs, X, hF, hH⟩ := X
  obtain ⟨T', h', X', e', E', A', D', -, st'⟩ := newO X C.1 C.2.2.2.1 C.2.2.2.2.1 w1 w2 w3 rfl (g := mkF m pc ls st) rfl (hb C.2.1 hd) hk hn
  subst e'
  refine (g T' _ ⟨locs, X', hF, ?_⟩).st st'
  obtain ⟨c', q1, q2⟩ : ∃ c', T'.heap[T.heap.size]? = some c' ∧ own_ex Z K c' := by obtain ⟨c', kk, h1, r⟩ := A'; exact ⟨c', h1, kk, r⟩
  refine hH.push E' q1 ⟨q2, fun q hq => ?_⟩
  obtain ⟨r, hr, rfl⟩ := List.mem_map.mp hq
  obtain ⟨r1, r2⟩ := hN.mem r hr
  exact own_fd.of q1 (D' r1 r2)

theorem k_getfield (C : own_C p s m meth c Z own nm code ml rt) (X : own_S p l e R s m args below meth c Z T L k n) {i : Nat} {K f d host : String} {a : Addr} {v : Value} (hd : decode code pc = .ok (.getfield i, 3)) (hp : pc + 3 = npc) (hw : (Jvm.Cond.fieldLink own i K f d).before a0 Z = true ∨ (Jvm.Cond.fieldLinkNest own i K f d host).before a0 Z = true) (hF' : own_H Z.heap T.heap L → Fld Z T.heap a K f d v)
    (g : ∀ T', own_S p l e R s m args below meth c Z T' L k n → own_Go p.tables e below P (T'.setTop (mkF m npc ls (v :: st)))) : own_Go p.tables e below P (T.setTop (mkF m pc ls (.ref a :: st))) := by
  subst hp; obtain ⟨locs, X, hF, hH⟩ := X
  obtain ⟨T', X', e', st'⟩ := getF X C.1 C.2.2.2.1 C.2.2.2.2.1 hw Via.refl rfl (hF' hH) (g := mkF m pc ls (.ref a :: st)) rfl rfl (hb C.2.1 hd)
  exact (g T' ⟨locs, X', hF, by rw [e']; exact hH⟩).st st'

theorem k_putfield (C : own_C p s m meth c Z own nm code ml rt) (X : own_S p l e R s m args below meth c Z T L k n) {i ix j sl : Nat} {K f d host : String} {a : Addr} {v old : Value} {fs fs' : List (String × String × Value)} {N : List (String × String × FieldType)} {ty : FieldType} {L' : List (Addr × (Cell → Prop))} (hd : decode code pc = .ok (.putfield i, 3)) (hp : pc + 3 = npc) (hw : (Jvm.Cond.fieldLink own i K f d).before a0 Z = true ∨ (Jvm.Cond.fieldLinkNest own i K f d host).before a0 Z = true) (w2 : (Jvm.Cond.instantiable K sl).before a0 Z = true) (hlay : (Jvm.Cond.lays K K f d).before a0 Z = true ∨ ((Jvm.Cond.laysFinal K K f d).before a0 Z = true ∧ own = K ∧ nm = "<init>"))
    (hN : own_lay Z a0 K N) (hND : (N.map (·.1)).Nodup) (hi : L[ix]? = some (a, own_ob Z K fs)) (hfN : fs.map (fun q => (q.1, q.2.1)) = N.map (fun q => (q.1, q.2.1))) (hj : fs[j]? = some (f, d, old)) (hfs : fs.set j (f, d, v) = fs') (hty : parseFieldDescriptor d = some ty) (hnar : narrow ty v = v) (hfit : fits ty v = true) (hL : L.set ix (a, own_ob Z K fs') = L')
    (g : ∀ T', own_S p l e R s m args below meth c Z T' L' k n → own_Go p.tables e below P (T'.setTop (mkF m npc ls st))) : own_Go p.tables e below P (T.setTop (mkF m pc ls (v :: .ref a :: st))) := by
  subst hp hfs hL; obtain ⟨locs, X, hF, hH⟩ := X
  obtain ⟨ha, cc, h1, h2⟩ := hH.get hi
  have F := (h2.2 _ (List.mem_of_getElem? hj)).fld h1
  obtain ⟨T', h', X', e', W', st'⟩ := putF X C.1 C.2.2.2.1 C.2.2.2.2.1 hw Via.refl rfl F (h2.1.exa h1) (hlay.imp id fun q => ⟨q.1, q.2.1, C.2.2.2.2.2.1.trans q.2.2⟩) w2 hty hnar hfit (g := mkF m pc ls (v :: .ref a :: st)) rfl rfl (hb C.2.1 hd)
  subst e'
  refine (g T' ⟨_, X', Fr.snoc X' hF ha, ?_⟩).st st'
  have hname : ∀ q ∈ fs, ∃ t, Laid Z a0 K K q.1 q.2.1 ∧ parseFieldDescriptor q.2.1 = some t := fun q hq => by
    have : (q.1, q.2.1) ∈ N.map (fun q => (q.1, q.2.1)) := by rw [← hfN]; exact List.mem_map.mpr ⟨q, hq, rfl⟩
    obtain ⟨r, hr, e⟩ := List.mem_map.mp this
    obtain ⟨r1, r2⟩ := hN.mem r hr
    have e1 : r.1 = q.1 := congrArg Prod.fst e
    have e2 : r.2.1 = q.2.1 := congrArg Prod.snd e
    exact ⟨_, by rw [← e1, ← e2]; exact r1, by rw [← e2]; exact r2⟩
  have hnd : (fs.map (·.1)).Nodup := by
    have : fs.map (·.1) = N.map (·.1) := by
      have := congrArg (List.map Prod.fst) hfN
      simpa [List.map_map, Function.comp_def] using this
    rw [this]; exact hND
  obtain ⟨t1, hl1, hp1⟩ := hname _ (List.mem_of_getElem? hj)
  refine hH.set hi W' fun c hc hsl => ⟨?_, fun q hq => ?_⟩
  · obtain ⟨k1, r1, r2, r3, r4⟩ := hc.1
    exact ⟨k1, r1, r2, r3, fun q => by rw [← r4 q]; simp [Cell.setSlot]⟩
  · rcases own_setmem hq with rfl | ⟨j', hj', e⟩
    · obtain ⟨cf, k1, i1, f1, r1, r2, r3, r4, r5, r6⟩ := hc.2 _ (List.mem_of_getElem? hj)
      refine ⟨cf, k1, i1, f1, r1, r2, r3, r4, r5, ?_⟩
      have es : Jvm.RoadKit.slotOf Z K f d = f1.slot := by simp [Jvm.RoadKit.slotOf, r1]
      rw [es] at hsl ⊢
      simp [Cell.setSlot, hsl]
    · obtain ⟨cf, k1, i1, f1, r1, r2, r3, r4, r5, r6⟩ := hc.2 q (List.mem_of_getElem? e)
      refine ⟨cf, k1, i1, f1, r1, r2, r3, r4, r5, ?_⟩
      obtain ⟨t2, hl2, hp2⟩ := hname q (List.mem_of_getElem? e)
      have hne : q.1 ≠ f := own_nodup_ne (L := fs.map (·.1)) hnd (i := j') (j := j) (by rw [List.getElem?_map, e]; rfl) (by rw [List.getElem?_map, hj]; rfl) hj'
      have hs := slot_ne hl2 hl1 hne hp2 hp1
      have es : Jvm.RoadKit.slotOf Z K q.1 q.2.1 = f1.slot := by simp [Jvm.RoadKit.slotOf, r1]
      rw [es] at hs
      rw [← r6]
      simp only [Cell.setSlot]
      exact Array.getElem?_setIfInBounds_ne (fun z => hs z.symm)

theorem k_getstatic (C : own_C p s m meth c Z own nm code ml rt) (X : own_S p l e R s m args below meth c Z T L k n) {i : Nat} {K f d : String} {v : Value} (hd : decode code pc = .ok (.getstatic i, 3)) (hp : pc + 3 = npc) (hw : (Jvm.Cond.fieldLink own i K f d).before a0 Z = true) (F : Sta Z Z.heap K f d v)
    (g : ∀ T', own_S p l e R s m args below meth c Z T' L k n → own_Go p.tables e below P (T'.setTop (mkF m npc ls (v :: st)))) : own_Go p.tables e below P (T.setTop (mkF m pc ls st)) := by
  subst hp; obtain ⟨locs, X, hF, hH⟩ := X
  obtain ⟨T', X', e', st'⟩ := getS X C.1 C.2.2.2.1 (host := "") C.2.2.2.2.1 hw Via.refl rfl (F.ext hH.1) (g := mkF m pc ls st) rfl (hb C.2.1 hd)
  exact (g T' ⟨locs, X', hF, by rw [e']; exact hH⟩).st st'

theorem k_newarray (C : own_C p s m meth c Z own nm code ml rt) (X : own_S p l e R s m args below meth c Z T L k n) {aty : ArrayType} {ty : FieldType} {z : Int32} {cap : Nat} {vs : List Value} (hd : decode code pc = .ok (.newarray aty, 2)) (hp : pc + 2 = npc) (hty : newarray.typeOf aty = ty) (w1 : (Jvm.Cond.arrayClass ty).before a0 Z = true) (hz : ¬ z < 0) (hcap : z.toNatClampNeg ≤ cap) (hb' : cap * 8 ≤ 536870912) (hk : k + 1 ≤ R.cells) (hn : n + cap ≤ R.slots) (hvs : List.replicate z.toNatClampNeg (defaultValue ty) = vs)
    (g : ∀ T' a, own_S p l e R s m args below meth c Z T' ((a, own_ar Z ty vs) :: L) (k + 1) (n + cap) → own_Go p.tables e below P (T'.setTop (mkF m npc ls (.ref a :: st)))) : own_Go p.tables e below P (T.setTop (mkF m pc ls (.int z :: st))) := by
  subst hp hvs hty; obtain ⟨locs, X, hF, hH⟩ := X
  obtain ⟨T', h', cA, X', e', E', A', B', st'⟩ := newPE X C.1 C.2.2.2.1 w1 rfl (g := mkF m pc ls (.int z :: st)) rfl (hb C.2.1 hd) rfl hz hcap hb' hk hn (ad := "[" ++ (newarray.typeOf aty).toString) rfl
  subst e'
  refine (g T' _ ⟨locs, X', hF, ?_⟩).st st'
  exact hH.push E' A'.1 ⟨A'.2.1, A'.2.2, by simp [newA], own_ex.of B' A'.1⟩

theorem k_arraylength (C : own_C p s m meth c Z own nm code ml rt) (X : own_S p l e R s m args below meth c Z T L k n) {ix : Nat} {a : Addr} {ty : FieldType} {vs : List Value} {z : Int32} (hd : decode code pc = .ok (.arraylength, 1)) (hp : pc + 1 = npc) (hi : L[ix]? = some (a, own_ar Z ty vs)) (hz : vs.length.toInt32 = z) (g : own_Go p.tables e below P (T.setTop (mkF m npc ls (.int z :: st)))) : own_Go p.tables e below P (T.setTop (mkF m pc ls (.ref a :: st))) := by
  subst hp hz; obtain ⟨locs, X, hF, hH⟩ := X
  obtain ⟨-, cc, h1, h2⟩ := hH.get hi
  have e : cc.slots.size = vs.length := by rw [← h2.2.2.1]; simp
  rw [← e] at g
  exact g.st fun t k => X.arraylength C.1 h1 (State.isArrayOf_alike C.2.2.2.1.alike h2.1) (g := mkF m pc ls (.ref a :: st)) rfl rfl (hb C.2.1 hd) _ k
theorem own_in {j : Int32} {i : Nat} {c : Cell} {vs : List Value} {v : Value} (hn : ¬ j < 0) (hj : j.toNatClampNeg = i) (e : c.slots.toList = vs) (hv : vs[i]? = some v) : ¬ (j < 0 ∨ c.slots.size ≤ j.toNatClampNeg) ∧ c.slots[j.toNatClampNeg]? = some v := by
  subst hj e
  rw [Array.getElem?_toList] at hv
  have := (Array.getElem?_eq_some_iff.mp hv).1
  exact ⟨fun q => q.elim hn (by omega), hv⟩
theorem own_len32 (L : Nat) (h : L < 2147483648) : (L.toInt32).toNatClampNeg = L ∧ ¬ L.toInt32 < 0 := by
  have q : L.toInt32.toInt = L := len_toInt (by omega)
  simp only [Int32.lt_iff_toInt_lt, Int32.toNatClampNeg, q, Int32.reduceToInt]; omega

theorem k_iaload (C : own_C p s m meth c Z own nm code ml rt) (X : own_S p l e R s m args below meth c Z T L k n) {ix i : Nat} {a : Addr} {j : Int32} {vs : List Value} {v : Value} (hd : decode code pc = .ok (.iaload, 1)) (hp : pc + 1 = npc) (hi : L[ix]? = some (a, own_ar Z .int vs)) (hn : ¬ j < 0) (hj : j.toNatClampNeg = i) (hv : vs[i]? = some v) (g : own_Go p.tables e below P (T.setTop (mkF m npc ls (v :: st)))) : own_Go p.tables e below P (T.setTop (mkF m pc ls (.int j :: .ref a :: st))) := by
  subst hp; obtain ⟨locs, X, hF, hH⟩ := X
  obtain ⟨-, cc, h1, h2⟩ := hH.get hi
  obtain ⟨q1, q2⟩ := own_in hn hj h2.2.2.1 hv
  exact g.st fun t k => X.iaload C.1 h1 (State.isArrayOf_alike C.2.2.2.1.alike h2.1) h2.2.1 q1 q2 (g := mkF m pc ls (.int j :: .ref a :: st)) rfl rfl (hb C.2.1 hd) _ k

theorem k_daload (C : own_C p s m meth c Z own nm code ml rt) (X : own_S p l e R s m args below meth c Z T L k n) {ix i : Nat} {a : Addr} {j : Int32} {vs : List Value} {v : Value} (hd : decode code pc = .ok (.daload, 1)) (hp : pc + 1 = npc) (hi : L[ix]? = some (a, own_ar Z .double vs)) (hn : ¬ j < 0) (hj : j.toNatClampNeg = i) (hv : vs[i]? = some v) (g : own_Go p.tables e below P (T.setTop (mkF m npc ls (v :: st)))) : own_Go p.tables e below P (T.setTop (mkF m pc ls (.int j :: .ref a :: st))) := by
  subst hp; obtain ⟨locs, X, hF, hH⟩ := X
  obtain ⟨-, cc, h1, h2⟩ := hH.get hi
  obtain ⟨q1, q2⟩ := own_in hn hj h2.2.2.1 hv
  exact g.st fun t k => X.daload C.1 h1 (State.isArrayOf_alike C.2.2.2.1.alike h2.1) h2.2.1 q1 q2 (g := mkF m pc ls (.int j :: .ref a :: st)) rfl rfl (hb C.2.1 hd) _ k

theorem k_laload (C : own_C p s m meth c Z own nm code ml rt) (X : own_S p l e R s m args below meth c Z T L k n) {ix i : Nat} {a : Addr} {j : Int32} {vs : List Value} {v : Value} (hd : decode code pc = .ok (.laload, 1)) (hp : pc + 1 = npc) (hi : L[ix]? = some (a, own_ar Z .long vs)) (hn : ¬ j < 0) (hj : j.toNatClampNeg = i) (hv : vs[i]? = some v) (g : own_Go p.tables e below P (T.setTop (mkF m npc ls (v :: st)))) : own_Go p.tables e below P (T.setTop (mkF m pc ls (.int j :: .ref a :: st))) := by
  subst hp; obtain ⟨locs, X, hF, hH⟩ := X
  obtain ⟨-, cc, h1, h2⟩ := hH.get hi
  obtain ⟨q1, q2⟩ := own_in hn hj h2.2.2.1 hv
  exact g.st fun t k => X.laload C.1 h1 (State.isArrayOf_alike C.2.2.2.1.alike h2.1) h2.2.1 q1 q2 (g := mkF m pc ls (.int j :: .ref a :: st)) rfl rfl (hb C.2.1 hd) _ k

theorem k_caload (C : own_C p s m meth c Z own nm code ml rt) (X : own_S p l e R s m args below meth c Z T L k n) {ix i : Nat} {a : Addr} {j : Int32} {vs : List Value} {v : Value} (hd : decode code pc = .ok (.caload, 1)) (hp : pc + 1 = npc) (hi : L[ix]? = some (a, own_ar Z .char vs)) (hn : ¬ j < 0) (hj : j.toNatClampNeg = i) (hv : vs[i]? = some v) (g : own_Go p.tables e below P (T.setTop (mkF m npc ls (v :: st)))) : own_Go p.tables e below P (T.setTop (mkF m pc ls (.int j :: .ref a :: st))) := by
  subst hp; obtain ⟨locs, X, hF, hH⟩ := X
  obtain ⟨-, cc, h1, h2⟩ := hH.get hi
  obtain ⟨q1, q2⟩ := own_in hn hj h2.2.2.1 hv
  exact g.st fun t k => X.caload C.1 h1 (State.isArrayOf_alike C.2.2.2.1.alike h2.1) h2.2.1 q1 q2 (g := mkF m pc ls (.int j :: .ref a :: st)) rfl rfl (hb C.2.1 hd) _ k

theorem k_iastore (C : own_C p s m meth c Z own nm code ml rt) (X : own_S p l e R s m args below meth c Z T L k n) {ix i : Nat} {a : Addr} {j : Int32} {x : Int32} {vs vs' : List Value} {L' : List (Addr × (Cell → Prop))} (hd : decode code pc = .ok (.iastore, 1)) (hp : pc + 1 = npc) (hi : L[ix]? = some (a, own_ar Z .int vs)) (hn : ¬ j < 0) (hj : j.toNatClampNeg = i) (hl : i < vs.length) (hvs : vs.set i (.int x) = vs') (hL : L.set ix (a, own_ar Z .int vs') = L')
    (g : ∀ T', own_S p l e R s m args below meth c Z T' L' k n → own_Go p.tables e below P (T'.setTop (mkF m npc ls st))) : own_Go p.tables e below P (T.setTop (mkF m pc ls (.int x :: .int j :: .ref a :: st))) := by
  subst hp hvs hL; obtain ⟨locs, X, hF, hH⟩ := X
  obtain ⟨ha, cc, h1, h2⟩ := hH.get hi
  obtain ⟨q1, -⟩ := own_in hn hj h2.2.2.1 (List.getElem?_eq_getElem hl)
  obtain ⟨T', h', X', e', W', st'⟩ := stI X C.1 C.2.2.2.1 rfl (h2.arr h1) (j := j) (x := x) q1 (g := mkF m pc ls (.int x :: .int j :: .ref a :: st)) rfl rfl (hb C.2.1 hd)
  subst e'
  refine (g T' ⟨_, X', Fr.snoc X' hF ha, ?_⟩).st st'
  refine hH.set hi W' fun c hc hsl => ⟨hc.1, hc.2.1, ?_, ?_⟩
  · rw [← hc.2.2.1, hj]; simp [Cell.setSlot]
  · obtain ⟨k1, r1, r2, r3, r4⟩ := hc.2.2.2
    exact ⟨k1, r1, r2, r3, fun q => by rw [← r4 q]; simp [Cell.setSlot]⟩

theorem k_dastore (C : own_C p s m meth c Z own nm code ml rt) (X : own_S p l e R s m args below meth c Z T L k n) {ix i : Nat} {a : Addr} {j : Int32} {x : UInt64} {vs vs' : List Value} {L' : List (Addr × (Cell → Prop))} (hd : decode code pc = .ok (.dastore, 1)) (hp : pc + 1 = npc) (hi : L[ix]? = some (a, own_ar Z .double vs)) (hn : ¬ j < 0) (hj : j.toNatClampNeg = i) (hl : i < vs.length) (hvs : vs.set i (.double x) = vs') (hL : L.set ix (a, own_ar Z .double vs') = L')
    (g : ∀ T', own_S p l e R s m args below meth c Z T' L' k n → own_Go p.tables e below P (T'.setTop (mkF m npc ls st))) : own_Go p.tables e below P (T.setTop (mkF m pc ls (.double x :: .int j :: .ref a :: st))) := by
  subst hp hvs hL; obtain ⟨locs, X, hF, hH⟩ := X
  obtain ⟨ha, cc, h1, h2⟩ := hH.get hi
  obtain ⟨q1, -⟩ := own_in hn hj h2.2.2.1 (List.getElem?_eq_getElem hl)
  obtain ⟨T', h', X', e', W', st'⟩ := stD X C.1 C.2.2.2.1 rfl (h2.arr h1) (j := j) (x := x) q1 (g := mkF m pc ls (.double x :: .int j :: .ref a :: st)) rfl rfl (hb C.2.1 hd)
  subst e'
  refine (g T' ⟨_, X', Fr.snoc X' hF ha, ?_⟩).st st'
  refine hH.set hi W' fun c hc hsl => ⟨hc.1, hc.2.1, ?_, ?_⟩
  · rw [← hc.2.2.1, hj]; simp [Cell.setSlot]
  · obtain ⟨k1, r1, r2, r3, r4⟩ := hc.2.2.2
    exact ⟨k1, r1, r2, r3, fun q => by rw [← r4 q]; simp [Cell.setSlot]⟩

theorem k_lastore (C : own_C p s m meth c Z own nm code ml rt) (X : own_S p l e R s m args below meth c Z T L k n) {ix i : Nat} {a : Addr} {j : Int32} {x : Int64} {vs vs' : List Value} {L' : List (Addr × (Cell → Prop))} (hd : decode code pc = .ok (.lastore, 1)) (hp : pc + 1 = npc) (hi : L[ix]? = some (a, own_ar Z .long vs)) (hn : ¬ j < 0) (hj : j.toNatClampNeg = i) (hl : i < vs.length) (hvs : vs.set i (.long x) = vs') (hL : L.set ix (a, own_ar Z .long vs') = L')
    (g : ∀ T', own_S p l e R s m args below meth c Z T' L' k n → own_Go p.tables e below P (T'.setTop (mkF m npc ls st))) : own_Go p.tables e below P (T.setTop (mkF m pc ls (.long x :: .int j :: .ref a :: st))) := by
  subst hp hvs hL; obtain ⟨locs, X, hF, hH⟩ := X
  obtain ⟨ha, cc, h1, h2⟩ := hH.get hi
  obtain ⟨q1, -⟩ := own_in hn hj h2.2.2.1 (List.getElem?_eq_getElem hl)
  obtain ⟨T', h', X', e', W', st'⟩ := stJ X C.1 C.2.2.2.1 rfl (h2.arr h1) (j := j) (x := x) q1 (g := mkF m pc ls (.long x :: .int j :: .ref a :: st)) rfl rfl (hb C.2.1 hd)
  subst e'
  refine (g T' ⟨_, X', Fr.snoc X' hF ha, ?_⟩).st st'
  refine hH.set hi W' fun c hc hsl => ⟨hc.1, hc.2.1, ?_, ?_⟩
  · rw [← hc.2.2.1, hj]; simp [Cell.setSlot]
  · obtain ⟨k1, r1, r2, r3, r4⟩ := hc.2.2.2
    exact ⟨k1, r1, r2, r3, fun q => by rw [← r4 q]; simp [Cell.setSlot]⟩

theorem own_fitsD (xs : List UInt64) : ∀ v ∈ xs.map Value.double, fits .double v = true := fun v hv => by obtain ⟨x, -, rfl⟩ := List.mem_map.mp hv; rfl
theorem k_clone (C : own_C p s m meth c Z own nm code ml rt) (X : own_S p l e R s m args below meth c Z T L k n) {i ix cap W : Nat} {a : Addr} {ty : FieldType} {ad : String} {vs : List Value} (hd : decode code pc = .ok (.invokevirtual i, 3)) (hp : pc + 3 = npc) (w1 : (Jvm.Cond.methodLink own i ⟨ad, "clone", "()Ljava/lang/Object;"⟩).before a0 Z = true) (w2 : (Jvm.Cond.sameMethod ad "java/lang/Object" "clone" "()Ljava/lang/Object;").before a0 Z = true) (w3 : (Jvm.Cond.native ⟨"java/lang/Object", "clone", "()Ljava/lang/Object;"⟩).before a0 Z = true) (w4 : (Jvm.Cond.instanceMethod ⟨"java/lang/Object", "clone", "()Ljava/lang/Object;"⟩).before a0 Z = true) (w5 : (Jvm.Cond.selects ad ⟨ad, "clone", "()Ljava/lang/Object;"⟩ ⟨"java/lang/Object", "clone", "()Ljava/lang/Object;"⟩).before a0 Z = true) (w6 : (Jvm.Cond.castable ad "java/lang/Cloneable").before a0 Z = true)
    (hi : L[ix]? = some (a, own_ar Z ty vs)) (had : "[" ++ ty.toString = ad) (hfit : ∀ v ∈ vs, fits ty v = true) (hsz : ls.size = ml) (hW : (st.map fun v => v.category).sum ≤ W) (hf : 1 ≤ R.frames) (hlo : W + 14 ≤ R.locals) (hcap : vs.length ≤ cap) (hk : k + 1 ≤ R.cells) (hn : n + cap ≤ R.slots)
    (g : ∀ T' b, own_S p l e R s m args below meth c Z T' ((b, own_ar Z ty vs) :: L) (k + 1) (n + cap) → own_Go p.tables e below P (T'.setTop (mkF m npc ls (.ref b :: st)))) : own_Go p.tables e below P (T.setTop (mkF m pc ls (.ref a :: st))) := by
  subst hp had; obtain ⟨locs, X, hF, hH⟩ := X
  obtain ⟨-, cc, h1, h2⟩ := hH.get hi
  have A := h2.arr h1
  have FC : FitC Z cc := fitC_of A fun j hj v hv => hfit v (by rw [← h2.2.2.1]; exact Array.mem_toList_iff.mpr (Array.mem_of_getElem? hv))
  have hl : cc.slots.size = vs.length := by rw [← h2.2.2.1]; simp
  obtain ⟨T', h', X', e', E', A', B', st'⟩ := cloneA X C.1 C.2.2.2.1 C.2.2.2.2.1 w1 w2 w3 w4 w5 w6 rfl A (h2.2.2.2.exa h1) FC (g := mkF m pc ls (.ref a :: st)) rfl (hsz.trans C.2.2.1.symm) rfl (hb C.2.1 hd) hf (W := W) (cap := cap) (by show 2 * 0 + _ ≤ _; omega) hlo (by omega) hk hn
  subst e'
  refine (g T' _ ⟨locs, X', hF, ?_⟩).st st'
  exact hH.push E' A'.1 ⟨A'.2.1, A'.2.2, h2.2.2.1, own_ex.of B' A'.1⟩
theorem k_checkcast (C : own_C p s m meth c Z own nm code ml rt) (X : own_S p l e R s m args below meth c Z T L k n) {i : Nat} {a : Addr} {K : String} (hd : decode code pc = .ok (.checkcast i, 3)) (hp : pc + 3 = npc) (hw : (Jvm.Cond.classLink own i K).before a0 Z = true) (hI : own_H Z.heap T.heap L → Ins Z T.heap a K true)
    (g : ∀ T', own_S p l e R s m args below meth c Z T' L k n → own_Go p.tables e below P (T'.setTop (mkF m npc ls (.ref a :: st)))) : own_Go p.tables e below P (T.setTop (mkF m pc ls (.ref a :: st))) := by
  subst hp; obtain ⟨locs, X, hF, hH⟩ := X
  obtain ⟨T', X', e', st'⟩ := castY X C.1 C.2.2.2.1 C.2.2.2.2.1 hw rfl (hI hH) (g := mkF m pc ls (.ref a :: st)) rfl rfl (hb C.2.1 hd)
  exact (g T' ⟨locs, X', hF, by rw [e']; exact hH⟩).st st'
theorem own_iA {ix : Nat} {a : Addr} {ty : FieldType} {K : String} {vs : List Value} (hi : L[ix]? = some (a, own_ar Z ty vs)) (hK : "[" ++ ty.toString = K) (H : own_H Z.heap T.heap L) : Ins Z T.heap a K true := by
  subst hK
  obtain ⟨-, cc, h1, h2⟩ := H.get hi
  exact Ins.self (h2.2.2.2.exa h1)

theorem own_Con.back {y : MethodName} {bytes : ByteArray} {maxL : Nat} {ret : Option FieldType} {rm : Room} {as' : Array Value} {Q : Option Value → List (Addr × (Cell → Prop)) → Prop} (K : own_Con l Z y bytes maxL ret rm as' L Q) (hZ : Z.Warmed39 s.vm) (hH : own_H Z.heap T.heap L) (wc : (Jvm.Cond.code y bytes maxL ret).before a0 Z = true) (wz : (Jvm.Cond.initialized y.cls).before a0 Z = true) {W : Nat} (hf : rm.frames + 1 ≤ R.frames) (hl : W + (maxL + 11) + rm.locals ≤ R.locals) :
    Back l R p e below s args y 3 W (fun A a => a = as' ∧ A.U.heap = T.heap ∧ A.cells + rm.cells ≤ R.cells ∧ A.slots + rm.slots ≤ R.slots)
      (fun A _ v B => ∃ L0, (∃ M, Q v M ∧ own_H Z.heap B.U.heap M ∧ Fr Z.heap.size L0) ∧ B.locs = A.locs ++ L0 ∧ B.cells = A.cells + rm.cells ∧ B.slots = A.slots + rm.slots) :=
  backOf (h := T.heap) (Q := fun v h L0 => ∃ M, Q v M ∧ own_H Z.heap h M ∧ Fr Z.heap.size L0) ((K []).mono (fun a U q => ⟨q.1, q.2.1, by rw [q.2.2]; exact hH⟩) (fun _ _ _ _ _ q => q) fun a U o U' _ ⟨v, M, locs, q1, q2, q3, q4, q5⟩ => ⟨v, locs, q1, ⟨M, q2, q3, q4⟩, q5⟩) hZ wc wz hf hl
theorem own_Con.weak {y : MethodName} {bytes : ByteArray} {maxL : Nat} {ret : Option FieldType} {rm : Room} {as' : Array Value} {Q Q' : Option Value → List (Addr × (Cell → Prop)) → Prop} (K : own_Con l Z y bytes maxL ret rm as' L Q) (h : ∀ v M, Q v M → Q' v M) : own_Con l Z y bytes maxL ret rm as' L Q' := fun ws =>
  (K ws).mono (fun _ _ q => q) (fun _ _ _ _ _ q => q) fun a U o U' _ ⟨v, M, locs, q1, q2, q3⟩ => ⟨v, M, locs, q1, h v M q2, q3⟩

theorem k_static (C : own_C p s m meth c Z own nm code ml rt) (X : own_S p l e R s m args below meth c Z T L k n) {y : MethodName} {i : Nat} {bytes : ByteArray} {maxL : Nat} {ret : Option FieldType} {rm : Room} {as' : Array Value} {Q : Option Value → List (Addr × (Cell → Prop)) → Prop} {W : Nat} {rest argsL : List Value} {ps : List FieldType} {rr : Option FieldType} (hd : decode code pc = .ok (.invokestatic i, 3)) (hp : pc + 3 = npc) (w1 : (Jvm.Cond.methodLink own i y).before a0 Z = true) (w2 : (Jvm.Cond.static y).before a0 Z = true) (w3 : (Jvm.Cond.initialized y.cls).before a0 Z = true) (w4 : (Jvm.Cond.code y bytes maxL ret).before a0 Z = true) (hy : y.cls ≠ "java/lang/invoke/MethodHandle" ∧ y.cls ≠ "java/lang/invoke/VarHandle") (K : own_Con l Z y bytes maxL ret rm as' L Q) (hst : argsL.reverse ++ rest = st) (has : argsL.toArray = as') (hsz : ls.size = ml) (hpd : parseMethodDescriptor y.desc = some ⟨ps, rr⟩) (hle : argsL.length = ps.length) (hW : (rest.map fun v => v.category).sum ≤ W) (hf : rm.frames + 1 ≤ R.frames) (hlo : W + (maxL + 11) + rm.locals ≤ R.locals) (hk : k + rm.cells ≤ R.cells) (hn : n + rm.slots ≤ R.slots)
    (g : ∀ v T' M, Q v M → own_S p l e R s m args below meth c Z T' M (k + rm.cells) (n + rm.slots) → own_Go p.tables e below P (T'.setTop (mkF m npc ls (v.toList ++ rest)))) : own_Go p.tables e below P (T.setTop (mkF m pc ls st)) := by
  subst hp hst has; obtain ⟨locs, X, hF, hH⟩ := X
  obtain ⟨v, vm1, ⟨T1, Lq, kq, nq⟩, -, X1, ⟨L0, ⟨M, hQ, hH1, hF1⟩, hl1, hc1, hs1⟩, st1⟩ := Jvm.LawKit.callS X C.1 (y := y) C.2.2.2.2.1 (mvT C.2.2.2.1 w1) (mvT C.2.2.2.1 w2) (mvT C.2.2.2.1 w3) (mvT C.2.2.2.1 w4) hy (K.back (T := T) (W := W) C.2.2.2.1 hH w4 w3 hf hlo) (g := mkF m pc ls (argsL.reverse ++ rest)) rfl (hsz.trans C.2.2.1.symm) (argsL := argsL) (rest := rest) (lenOf hpd hle) rfl (by show 2 * 0 + _ ≤ _; omega) (hb C.2.1 hd) (fun _ _ => ⟨rfl, rfl, hk, hn⟩)
  dsimp only [Pt.U, Pt.locs, Pt.cells, Pt.slots] at X1 hl1 hc1 hs1 st1 hH1
  subst hl1 hc1 hs1
  exact (g v T1 M hQ ⟨_, X1, hF.app hF1, hH1⟩).st st1
theorem k_init (C : own_C p s m meth c Z own nm code ml rt) (X : own_S p l e R s m args below meth c Z T L k n) {y : MethodName} {i : Nat} {bytes : ByteArray} {maxL : Nat} {rm : Room} {as' : Array Value} {Q : Option Value → List (Addr × (Cell → Prop)) → Prop} {W : Nat} {rest argsL : List Value} {ps : List FieldType} {rr : Option FieldType} {a : Addr} (hd : decode code pc = .ok (.invokespecial i, 3)) (hp : pc + 3 = npc) (hnm : y.name = "<init>") (w1 : (Jvm.Cond.methodLink own i y).before a0 Z = true) (w2 : (Jvm.Cond.instanceMethod y).before a0 Z = true) (w3 : (Jvm.Cond.initialized y.cls).before a0 Z = true) (w4 : (Jvm.Cond.code y bytes maxL none).before a0 Z = true) (hy : y.cls ≠ "java/lang/invoke/MethodHandle" ∧ y.cls ≠ "java/lang/invoke/VarHandle") (K : own_Con l Z y bytes maxL none rm as' L Q) (hst : argsL.reverse ++ .ref a :: rest = st) (has : (.ref a :: argsL).toArray = as') (hsz : ls.size = ml) (hpd : parseMethodDescriptor y.desc = some ⟨ps, rr⟩) (hle : argsL.length = ps.length) (hW : (rest.map fun v => v.category).sum ≤ W) (hf : rm.frames + 1 ≤ R.frames) (hlo : W + (maxL + 11) + rm.locals ≤ R.locals) (hk : k + rm.cells ≤ R.cells) (hn : n + rm.slots ≤ R.slots)
    (g : ∀ v T' M, Q v M → own_S p l e R s m args below meth c Z T' M (k + rm.cells) (n + rm.slots) → own_Go p.tables e below P (T'.setTop (mkF m npc ls (v.toList ++ rest)))) : own_Go p.tables e below P (T.setTop (mkF m pc ls st)) := by
  subst hp hst has; obtain ⟨locs, X, hF, hH⟩ := X
  obtain ⟨v, vm1, ⟨T1, Lq, kq, nq⟩, -, X1, ⟨L0, ⟨M, hQ, hH1, hF1⟩, hl1, hc1, hs1⟩, st1⟩ := X.specialBack C.1 (y := y) hnm C.2.2.2.2.1 (mvT C.2.2.2.1 w1) (mvT C.2.2.2.1 w2) (mvT C.2.2.2.1 w4) hy (K.back (T := T) (W := W) C.2.2.2.1 hH w4 w3 hf hlo) (g := mkF m pc ls (argsL.reverse ++ .ref a :: rest)) rfl (hsz.trans C.2.2.1.symm) (Steps.refl _) (a := a) (argsL := argsL) (rest := rest) (lenOf hpd hle) rfl (by show 2 * 0 + _ ≤ _; omega) (hb C.2.1 hd) (fun _ _ => ⟨rfl, rfl, hk, hn⟩)
  dsimp only [Pt.U, Pt.locs, Pt.cells, Pt.slots] at X1 hl1 hc1 hs1 st1 hH1
  subst hl1 hc1 hs1
  exact (g v T1 M hQ ⟨_, X1, hF.app hF1, hH1⟩).st fun t q => st1.trans q
theorem k_virtual (C : own_C p s m meth c Z own nm code ml rt) (X : own_S p l e R s m args below meth c Z T L k n) {y : MethodName} {i : Nat} {bytes : ByteArray} {maxL : Nat} {ret : Option FieldType} {rm : Room} {as' : Array Value} {Q : Option Value → List (Addr × (Cell → Prop)) → Prop} {W : Nat} {rest argsL : List Value} {ps : List FieldType} {rr : Option FieldType} {K' : String} {a : Addr} (hd : decode code pc = .ok (.invokevirtual i, 3)) (hp : pc + 3 = npc) (w1 : (Jvm.Cond.methodLink own i y).before a0 Z = true) (w2 : (Jvm.Cond.declares y).before a0 Z = true) (w3 : (Jvm.Cond.initialized y.cls).before a0 Z = true) (w4 : (Jvm.Cond.code y bytes maxL ret).before a0 Z = true) (w5 : (Jvm.Cond.selects K' y y).before a0 Z = true) (w6 : (Jvm.Cond.instanceMethod y).before a0 Z = true) (hy : y.cls ≠ "java/lang/invoke/MethodHandle" ∧ y.cls ≠ "java/lang/invoke/VarHandle") (nf : NotFace s y) (hE : own_H Z.heap T.heap L → Exa Z T.heap a K') (K : own_Con l Z y bytes maxL ret rm as' L Q) (hst : argsL.reverse ++ .ref a :: rest = st) (has : (.ref a :: argsL).toArray = as') (hsz : ls.size = ml) (hpd : parseMethodDescriptor y.desc = some ⟨ps, rr⟩) (hle : argsL.length = ps.length) (hW : (rest.map fun v => v.category).sum ≤ W) (hf : rm.frames + 1 ≤ R.frames) (hlo : W + (maxL + 11) + rm.locals ≤ R.locals) (hk : k + rm.cells ≤ R.cells) (hn : n + rm.slots ≤ R.slots)
    (g : ∀ v T' M, Q v M → own_S p l e R s m args below meth c Z T' M (k + rm.cells) (n + rm.slots) → own_Go p.tables e below P (T'.setTop (mkF m npc ls (v.toList ++ rest)))) : own_Go p.tables e below P (T.setTop (mkF m pc ls st)) := by
  subst hp hst has; obtain ⟨locs, X, hF, hH⟩ := X
  obtain ⟨cB, kB, qa, -, qc⟩ := isOf (T := T) C.2.2.2.1 rfl (hE hH)
  obtain ⟨v, vm1, ⟨T1, Lq, kq, nq⟩, -, X1, ⟨L0, ⟨M, hQ, hH1, hF1⟩, hl1, hc1, hs1⟩, st1⟩ := X.virtualBack C.1 (y := y) (z := y) C.2.2.2.2.1 (mvT C.2.2.2.1 w1) (mvT C.2.2.2.1 w2) nf (mvT C.2.2.2.1 w5) (mvT C.2.2.2.1 w6) hy (K.back (T := T) (W := W) C.2.2.2.1 hH w4 w3 hf hlo) qa qc (g := mkF m pc ls (argsL.reverse ++ .ref a :: rest)) rfl (hsz.trans C.2.2.1.symm) (Steps.refl _) (argsL := argsL) (rest := rest) (lenOf hpd hle) rfl (by show 2 * 0 + _ ≤ _; omega) (hb C.2.1 hd) (fun _ _ => ⟨rfl, rfl, hk, hn⟩)
  dsimp only [Pt.U, Pt.locs, Pt.cells, Pt.slots] at X1 hl1 hc1 hs1 st1 hH1
  subst hl1 hc1 hs1
  exact (g v T1 M hQ ⟨_, X1, hF.app hF1, hH1⟩).st fun t q => st1.trans q
theorem k_initO (C : own_C p s m meth c Z own nm code ml rt) (X : own_S p l e R s m args below meth c Z T L k n) {i : Nat} {a : Addr} {W : Nat} (hd : decode code pc = .ok (.invokespecial i, 3)) (hp : pc + 3 = npc) (w1 : (Jvm.Cond.methodLink own i Lib.objectInit).before a0 Z = true) (w2 : (Jvm.Cond.instanceMethod Lib.objectInit).before a0 Z = true) (w3 : (Jvm.Cond.code Lib.objectInit ⟨#[0xb1]⟩ 1 none).before a0 Z = true) (hsz : ls.size = ml) (hW : (st.map fun v => v.category).sum ≤ W) (hf : 1 ≤ R.frames) (hlo : W + 12 ≤ R.locals)
    (g : ∀ T', own_S p l e R s m args below meth c Z T' L k n → own_Go p.tables e below P (T'.setTop (mkF m npc ls st))) : own_Go p.tables e below P (T.setTop (mkF m pc ls (.ref a :: st))) := by
  subst hp; obtain ⟨locs, X, hF, hH⟩ := X
  obtain ⟨T', X', e', st'⟩ := initO X C.1 C.2.2.2.1 C.2.2.2.2.1 w1 w2 w3 rfl (g := mkF m pc ls (.ref a :: st)) rfl (hsz.trans C.2.2.1.symm) rfl (hb C.2.1 hd) hf (W := W) (by show 2 * 0 + _ ≤ _; omega) hlo
  exact (g T' ⟨locs, X', hF, by rw [e']; exact hH⟩).st st'

theorem k_abs (C : own_C p s m meth c Z own nm code ml rt) (X : own_S p l e R s m args below meth c Z T L k n) {i : Nat} {bytes : ByteArray} {maxL W : Nat} {x : UInt64} (hd : decode code pc = .ok (.invokestatic i, 3)) (hp : pc + 3 = npc) (w1 : (Jvm.Cond.methodLink own i Jvm.Free.NT.mathAbs64N).before a0 Z = true) (w2 : (Jvm.Cond.static Jvm.Free.NT.mathAbs64N).before a0 Z = true) (w3 : (Jvm.Cond.initialized "java/lang/Math").before a0 Z = true) (w4 : (Jvm.Cond.code Jvm.Free.NT.mathAbs64N bytes maxL (some .double)).before a0 Z = true) (hx : Jvm.Free.Fl.NoNaN64 x) (hsz : ls.size = ml) (hW : (st.map fun v => v.category).sum ≤ W) (hf : 1 ≤ R.frames) (hlo : W + (maxL + 11) ≤ R.locals)
    (g : ∀ T', own_S p l e R s m args below meth c Z T' L k n → own_Go p.tables e below P (T'.setTop (mkF m npc ls (.double (x &&& 0x7fffffffffffffff) :: st)))) : own_Go p.tables e below P (T.setTop (mkF m pc ls (.double x :: st))) := by
  subst hp; obtain ⟨locs, X, hF, hH⟩ := X
  obtain ⟨v, vm1, ⟨T1, Lq, kq, nq⟩, -, X1, ⟨hB, hv⟩, st1⟩ := Jvm.LawKit.callS X C.1 (y := Jvm.Free.NT.mathAbs64N) C.2.2.2.2.1 (mvT C.2.2.2.1 w1) (mvT C.2.2.2.1 w2) (mvT C.2.2.2.1 w3) (mvT C.2.2.2.1 w4) (by decide) (Jvm.Free.NT.Abs64.pays (W := W) (len := 3) (mvT C.2.2.2.1 w4) (mvT C.2.2.2.1 w2) hf hlo) (g := mkF m pc ls (.double x :: st)) rfl (hsz.trans C.2.2.1.symm) (argsL := [.double x]) (rest := st) (lenOf Jvm.Free.NT.mathAbs64_desc rfl) rfl (by show 2 * 0 + _ ≤ _; omega) (hb C.2.1 hd) (fun _ _ => ⟨x, rfl, hx⟩)
  cases hB
  rw [hv x ⟨rfl, hx⟩] at st1
  exact (g _ ⟨locs, X1, hF, hH⟩).st st1

theorem k_return (C : own_C p s m meth c Z own nm code ml none) (X : own_S p l e R s m args below meth c Z T L k n) {Q : Option Value → List (Addr × (Cell → Prop)) → Prop} (hd : decode code pc = .ok (.return_, 1)) (hQ : Q none L) (hk : k ≤ R.cells) (hn : n ≤ R.slots) : own_Go p.tables e below (own_E Z s R Q) (T.setTop (mkF m pc ls [])) := by
  obtain ⟨locs, X, hF, hH⟩ := X
  obtain ⟨fs, hr, hrun, hended, hW, hsame⟩ := X.leave (v := none) (fun _ => rfl) C.2.2.2.2.2.2.2
  exact ⟨_, _, X.returnOut C.1 C.2.2.2.2.2.2.1 (hb C.2.1 hd) hr, hrun, hended, none, L, locs, rfl, hQ, hH, hF, ⟨_, rfl⟩, hW, hsame.mono hk hn⟩

theorem k_ireturn {t : FieldType} (C : own_C p s m meth c Z own nm code ml (some t)) (X : own_S p l e R s m args below meth c Z T L k n) {x : Int32} {Q : Option Value → List (Addr × (Cell → Prop)) → Prop} (hd : decode code pc = .ok (.ireturn, 1)) (ht : t = .int ∨ t = .boolean ∨ t = .byte ∨ t = .char ∨ t = .short) (hnr : narrow t (.int x) = .int x) (hQ : Q (some (.int x)) L) (hk : k ≤ R.cells) (hn : n ≤ R.slots) : own_Go p.tables e below (own_E Z s R Q) (T.setTop (mkF m pc ls (.int x :: st))) := by
  obtain ⟨locs, X, hF, hH⟩ := X
  obtain ⟨fs, hr, hrun, hended, hW, hsame⟩ := X.leave (v := some (.int x)) (fun h => by rw [C.2.2.2.2.2.2.1] at h; cases h) C.2.2.2.2.2.2.2
  exact ⟨_, _, retOut X C.1 C.2.2.2.2.2.2.1 hnr (Or.inl ⟨rfl, ht, x, rfl⟩) (hb C.2.1 hd) hr, hrun, hended, _, L, locs, rfl, hQ, hH, hF, ⟨_, rfl⟩, hW, hsame.mono hk hn⟩

theorem k_lreturn (C : own_C p s m meth c Z own nm code ml (some .long)) (X : own_S p l e R s m args below meth c Z T L k n) {x : Int64} {Q : Option Value → List (Addr × (Cell → Prop)) → Prop} (hd : decode code pc = .ok (.lreturn, 1)) (hQ : Q (some (.long x)) L) (hk : k ≤ R.cells) (hn : n ≤ R.slots) : own_Go p.tables e below (own_E Z s R Q) (T.setTop (mkF m pc ls (.long x :: st))) := by
  obtain ⟨locs, X, hF, hH⟩ := X
  obtain ⟨fs, hr, hrun, hended, hW, hsame⟩ := X.leave (v := some (.long x)) (fun h => by rw [C.2.2.2.2.2.2.1] at h; cases h) C.2.2.2.2.2.2.2
  exact ⟨_, _, retOut X C.1 C.2.2.2.2.2.2.1 rfl (Or.inr (Or.inl ⟨rfl, rfl, x, rfl⟩)) (hb C.2.1 hd) hr, hrun, hended, _, L, locs, rfl, hQ, hH, hF, ⟨_, rfl⟩, hW, hsame.mono hk hn⟩

theorem k_dreturn (C : own_C p s m meth c Z own nm code ml (some .double)) (X : own_S p l e R s m args below meth c Z T L k n) {x : UInt64} {Q : Option Value → List (Addr × (Cell → Prop)) → Prop} (hd : decode code pc = .ok (.dreturn, 1)) (hQ : Q (some (.double x)) L) (hk : k ≤ R.cells) (hn : n ≤ R.slots) : own_Go p.tables e below (own_E Z s R Q) (T.setTop (mkF m pc ls (.double x :: st))) := by
  obtain ⟨locs, X, hF, hH⟩ := X
  obtain ⟨fs, hr, hrun, hended, hW, hsame⟩ := X.leave (v := some (.double x)) (fun h => by rw [C.2.2.2.2.2.2.1] at h; cases h) C.2.2.2.2.2.2.2
  exact ⟨_, _, retOut X C.1 C.2.2.2.2.2.2.1 rfl (Or.inr (Or.inr (Or.inl ⟨rfl, rfl, x, rfl⟩))) (hb C.2.1 hd) hr, hrun, hended, _, L, locs, rfl, hQ, hH, hF, ⟨_, rfl⟩, hW, hsame.mono hk hn⟩

theorem k_areturn {t : FieldType} (C : own_C p s m meth c Z own nm code ml (some t)) (X : own_S p l e R s m args below meth c Z T L k n) {x : Value} {Q : Option Value → List (Addr × (Cell → Prop)) → Prop} (hd : decode code pc = .ok (.areturn, 1)) (ht : t.isReference = true) (hx : x.isRef = true) (hnr : narrow t x = x) (hQ : Q (some (x)) L) (hk : k ≤ R.cells) (hn : n ≤ R.slots) : own_Go p.tables e below (own_E Z s R Q) (T.setTop (mkF m pc ls (x :: st))) := by
  obtain ⟨locs, X, hF, hH⟩ := X
  obtain ⟨fs, hr, hrun, hended, hW, hsame⟩ := X.leave (v := some (x)) (fun h => by rw [C.2.2.2.2.2.2.1] at h; cases h) C.2.2.2.2.2.2.2
  exact ⟨_, _, retOut X C.1 C.2.2.2.2.2.2.1 hnr (Or.inr (Or.inr (Or.inr (Or.inr ⟨rfl, ht, hx⟩)))) (hb C.2.1 hd) hr, hrun, hended, _, L, locs, rfl, hQ, hH, hF, ⟨_, rfl⟩, hW, hsame.mono hk hn⟩

theorem own_nf {y : MethodName} {K' : String} (hZ : Z.Warmed39 s.vm) (w : (Jvm.Cond.selects K' y y).before a0 Z = true) : NotFace s y := notFace_of_selects (args := #[]) (mvT hZ w)
theorem own_i32 (x : Int32) : -2147483648 ≤ x.toInt ∧ x.toInt ≤ 2147483647 := by have h1 := Int32.toInt_lt x; have h2 := Int32.le_toInt x; omega
theorem own_fin {i : Int} {a : UInt64} (h : Jvm.FP.Core.DInt i a) : Jvm.Free.Fl.Fin64 a := by
  refine Jvm.Free.Fl.fin64_core.mpr ?_
  unfold Jvm.FP.Core.DInt at h
  rcases hv : Jvm.FP.Core.val64 a with _ | _ | ⟨s, c, q⟩
  · rw [hv] at h; exact h.elim
  · rw [hv] at h; exact h.elim
  · exact ⟨s, c, q, hv⟩
theorem own_nn {i : Int} {a : UInt64} (h : Jvm.FP.Core.DInt i a) : Jvm.Free.Fl.NoNaN64 a := (own_fin h).noNaN
theorem own_l (x : Int32) : x.toInt64.toInt = x.toInt := Int32.toInt_toInt64 x
theorem own_eq {i j : Int} {a b : UInt64} (ha : Jvm.FP.Core.DInt i a) (hb : Jvm.FP.Core.DInt j b) (h : i = j) : FP.dcmp a b = some .eq := by
  have q := Jvm.FP.Core.dcmp_int ha hb
  rw [show FP.dcmp a b = Jvm.FP.Core.dcmp a b from rfl, q, h, Jvm.FP.Core.compare_eq_iff _ _ |>.mpr rfl]
theorem own_lit (n : Int32) {d : UInt64} (h : FP.i2d n = d) : Jvm.FP.Core.DInt n.toInt d := h ▸ Jvm.FP.Core.i2d_int n
theorem own_litI (n : Int32) {d : UInt64} {i : Int} (h : FP.i2d n = d) (hi : n.toInt = i) : Jvm.FP.Core.DInt i d := hi ▸ h ▸ Jvm.FP.Core.i2d_int n
theorem own_self {x : UInt64} (h : Jvm.Free.Fl.NoNaN64 x) : FP.dcmp x x = some .eq := by
  have q := dcmpV_self h .l
  rcases hq : FP.dcmp x x with _ | (_ | _ | _) <;> rw [hq] at q <;> first | rfl | exact absurd q (by decide)
theorem own_mask (x : Int32) : ¬ (x &&& 2147483647) < 0 := fun h => absurd ((Jvm.Free.XT.and_neg32 _ _).mp h).2 (by decide)
theorem own_mod (m : Int32) (hm : 0 < m.toInt) {x : Int32} (hx : ¬ x < 0) : ¬ (x % m) < 0 ∧ (x % m).toNatClampNeg < m.toNatClampNeg ∧ 0 ≤ (x % m).toInt ∧ (x % m).toInt < m.toInt := by
  have h0 : 0 ≤ x.toInt := by rw [Int32.lt_iff_toInt_lt] at hx; simpa using hx
  have e : (x % m).toInt = x.toInt % m.toInt := by rw [Int32.toInt_mod, Int.tmod_eq_emod_of_nonneg h0]
  have a1 := Int.emod_nonneg x.toInt (Int.ne_of_gt hm)
  have a2 := Int.emod_lt_of_pos x.toInt hm
  rw [Int32.lt_iff_toInt_lt]
  simp only [Int32.toNatClampNeg, e, Int32.reduceToInt]
  omega
theorem own_dd (a b : Int32) : Jvm.Free.Fl.NoNaN64 (FP.dadd (FP.i2d a) (FP.i2d b)) := own_nn (Jvm.FP.Core.dadd_int (Jvm.FP.Core.i2d_int a) (Jvm.FP.Core.i2d_int b) (by have q := own_i32 a; have q2 := own_i32 b; omega))
theorem own_bool {x : Int32} (h : x = 0 ∨ x = 1) : narrow .boolean (.int x) = .int x := by rcases h with rfl | rfl <;> rfl
end OwnKit
section OwnAdd
variable {p : Program} {l : Launch} {e : Env} {R : Room} {s : State} {m : MethodId} {args : Array Value} {below : List Frame} {meth : Method} {c : Code} {Z T : State} {L : List (Addr × (Cell → Prop))} {k n : Nat} {own nm : String} {code : ByteArray} {ml : Nat} {rt : Option FieldType} {P : State → Outcome → Prop} {pc npc tpc : Nat} {ls : Array Slot} {st : List Value} {a0 : Array Value}
theorem own_H.ext {h0 h h' : Heap} (H : own_H h0 h L) (E : Ext h h') : own_H h0 h' L :=
  ⟨⟨Nat.le_trans H.1.1 E.1, fun a c q => E.2 a c (H.1.2 a c q)⟩, fun q hq => by obtain ⟨h1, c', h2, h3⟩ := H.2.1 q hq; exact ⟨h1, c', E.2 _ _ h2, h3⟩, H.2.2⟩
theorem own_H.add {h0 h : Heap} {a : Addr} {Pq : Cell → Prop} {c : Cell} (H : own_H h0 h L) (ha : h0.size ≤ a) (hc : h[a]? = some c) (hP : Pq c) (hn : ∀ q ∈ L, q.1 ≠ a) : own_H h0 h ((a, Pq) :: L) := by
  refine ⟨H.1, fun q hq => ?_, ?_⟩
  · rcases List.mem_cons.mp hq with rfl | hq
    · exact ⟨ha, c, hc, hP⟩
    · exact H.2.1 q hq
  · rw [List.map_cons, List.nodup_cons]
    refine ⟨fun hm => ?_, H.2.2⟩
    obtain ⟨q, hq, e⟩ := List.mem_map.mp hm
    exact hn q hq e
end OwnAdd
section OwnWide
variable {p : Program} {l : Launch} {e : Env} {R : Room} {s : State} {m : MethodId} {args : Array Value} {below : List Frame} {meth : Method} {c : Code} {Z T : State} {L : List (Addr × (Cell → Prop))} {k n : Nat} {own nm : String} {code : ByteArray} {ml : Nat} {rt : Option FieldType} {P : State → Outcome → Prop} {pc npc tpc : Nat} {ls : Array Slot} {st : List Value} {a0 : Array Value}
variable {vm0 : Vm} {Lq A M G : List (Addr × (Cell → Prop))}
/-- what the walk has interned since its start lies in cells that the list G names -/
def own_W (s : State) (vm : Vm) (G : List (Addr × (Cell → Prop))) : Prop := (∃ n, s.Since vm n) ∧ ∀ (h0 h : Heap), own_H h0 h G → ∀ (j : Nat) (p : Array UInt16 × Addr), s.vm.interned.size ≤ j → vm.interned[j]? = some p → p.2 < h.size
def own_EW (Z s : State) (R : Room) (Q : Option Value → List (Addr × (Cell → Prop)) → List (Addr × (Cell → Prop)) → Prop) (t : State) (o : Outcome) : Prop :=
  ∃ v M G locs, o = .returned v ∧ Q v M G ∧ own_H Z.heap t.heap (M ++ G) ∧ (∀ (h0 h : Heap), own_H h0 h G → ∀ (j : Nat) (p : Array UInt16 × Addr), s.vm.interned.size ≤ j → t.vm.interned[j]? = some p → p.2 < h.size) ∧ Fr Z.heap.size locs ∧ ReturnedEndW s o t locs R.cells R.slots
def own_ConW (l : Launch) (Z : State) (y : MethodName) (bytes : ByteArray) (maxL : Nat) (ret : Option FieldType) (rm : Room) (as' : Array Value) (L : List (Addr × (Cell → Prop))) (Jv : Vm → Prop) (Q : Option Value → List (Addr × (Cell → Prop)) → List (Addr × (Cell → Prop)) → Prop) : Prop :=
  ∀ ws, MetFree l y (head1 (Jvm.Cond.code y bytes maxL ret :: ws) rm) (fun a U => a = as' ∧ Z.Warmed39 U.vm ∧ own_H Z.heap U.heap L ∧ Jv U.vm) (fun _ _ _ _ _ => True) (fun _ U o U' => own_EW Z U rm Q U' o)
theorem own_conW {y : MethodName} {bytes : ByteArray} {maxL : Nat} {ret : Option FieldType} {rm : Room} {as' : Array Value} {Jv : Vm → Prop} {Q : Option Value → List (Addr × (Cell → Prop)) → List (Addr × (Cell → Prop)) → Prop} (hx : plainFor y = true) (hent : ∀ m, entryFrame m as' maxL = mkF m 0 ls [])
    (body : ∀ p e s m below meth c T, own_C p s m meth c Z y.cls y.name bytes maxL ret → own_S p l e rm s m as' below meth c Z T L 0 0 → Jv s.vm → own_Go p.tables e below (own_EW Z s rm Q) (T.setTop (mkF m 0 ls []))) : own_ConW l Z y bytes maxL ret rm as' L Jv Q := by
  intro ws
  refine MetFree.of_bodySF hx hisR ?_
  intro p e s m args below meth c s₁ Bd hml hP hK
  obtain ⟨rfl, hZ, hH, hJ⟩ := hP
  have hnm := (name_of_methodNamed Bd.named Bd.method).1
  have X0 : Stand p l e rm s m args below meth c s₁ [] 0 0 := Stand.of_body Bd
  have q := body p e s m below meth c s₁ ⟨Bd.exec, Bd.bytes, hml, hZ, findClass_of_methodNamed Bd.named, hnm, Bd.returns, Bd.notSynchronized⟩ ⟨[], X0, Fr.nil _, by rw [Bd.state]; exact hH⟩ hJ
  rw [← hent] at q
  exact q
theorem own_W.start : own_W s s.vm [] := by
  refine ⟨⟨0, State.Warmed39.refl s, fun j p hj hp => ?_⟩, fun h0 h _ j p hj hp => ?_⟩
  · have := (Array.getElem?_eq_some_iff.mp hp).1; omega
  · have := (Array.getElem?_eq_some_iff.mp hp).1; omega
theorem k_ldcS (C : own_C p (s.setVm vm0) m meth c Z own nm code ml rt) (X : own_S p l e R (s.setVm vm0) m args below meth c Z T Lq k n) (hA : A ++ G = Lq) (W : own_W s vm0 G) {i N : Nat} {text : String} (hd : decode code pc = .ok (.ldc i, 2)) (hp : pc + 2 = npc) (w1 : (Jvm.Cond.stringLink own i text).before a0 Z = true) (wS : ∀ d ∈ Bundle.stringAtoms, d.before a0 Z = true) (hN : 4 * text.toList.length ≤ N) (hbig : N ≤ 536870912) (hk : k + 2 ≤ R.cells) (hl : n + (N + 4) ≤ R.slots)
    (g : ∀ T' vm1 a G1, own_C p (s.setVm vm1) m meth c Z own nm code ml rt → own_W s vm1 G1 → own_S p l e R (s.setVm vm1) m args below meth c Z T' (A ++ G1) (k + 2) (n + (N + 4)) → own_Go p.tables e below P (T'.setTop (mkF m npc ls (.ref a :: st)))) : own_Go p.tables e below P (T.setTop (mkF m pc ls st)) := by
  subst hp hA; obtain ⟨locs, X, hF, hH⟩ := X
  have hZ : Z.Warmed39 vm0 := C.2.2.2.1
  obtain ⟨a, T', X', hS', -, hq, hI, st'⟩ := X.ldcStringCold C.1 (own := own) C.2.2.2.2.1 (mvS hZ w1) (fun d hd' => by
    have q := wS d hd'
    simp only [Bundle.stringAtoms, List.mem_cons, List.not_mem_nil, or_false] at hd'
    rcases hd' with rfl | rfl | rfl | rfl | rfl | rfl | rfl
    · exact mv (s := s.setVm vm0) hZ q
    · exact mv (s := s.setVm vm0) hZ q
    · exact mvA (s := s.setVm vm0) hZ q
    · exact mv (s := s.setVm vm0) hZ q
    · exact mv (s := s.setVm vm0) hZ q
    · exact mv (s := s.setVm vm0) hZ q
    · exact mv (s := s.setVm vm0) hZ q) (g := mkF m pc ls st) rfl (hb C.2.1 hd) hN hbig hk hl
  have hW : Z.Warmed39 T'.vm := State.Warmed39.trans (t := s.setVm vm0) hZ hS'.1
  have hown : T'.vm.findClass own = some m.cls := by rw [hS'.1.alike.findClass]; exact C.2.2.2.2.1
  have C' : own_C p (s.setVm T'.vm) m meth c Z own nm code ml rt := ⟨C.1, C.2.1, C.2.2.1, hW, hown, C.2.2.2.2.2⟩
  have HA : own_H Z.heap T'.heap (A ++ G) := hH.ext (ext_of hq)
  obtain ⟨⟨n0, hS0⟩, hB⟩ := W
  have hi : T.vm.interned = vm0.interned := X.warmed.interned_eq
  have hS1 : s.Since T'.vm (max n0 T'.heap.size) := hS0.trans ⟨hS'.1, hS'.2.mono (Nat.le_max_right _ _)⟩ (Nat.le_max_left _ _)
  rcases hI with ⟨hsz, e1 | ⟨u, b, e1, hb1, hb2⟩⟩
  · refine (g T' T'.vm a G C' ⟨⟨_, hS1⟩, fun h0 h H j p hj hp => ?_⟩ ⟨locs, X', hF, HA⟩).st st'
    exact hB h0 h H j p hj (by rw [← hi, ← e1]; exact hp)
  · have hcb := Array.getElem?_eq_getElem hb2
    have H2 : own_H Z.heap T'.heap ((b, fun _ => True) :: (A ++ G)) := HA.add (by have := hH.1.1; omega) hcb trivial (fun q hq' => Nat.ne_of_lt (Nat.lt_of_lt_of_le (hH.lt q hq') hb1))
    have H3 : own_H Z.heap T'.heap (A ++ (b, fun _ => True) :: G) := H2.perm List.perm_middle.symm
    refine (g T' T'.vm a ((b, fun _ => True) :: G) C' ⟨⟨_, hS1⟩, fun h0 h H j p hj hp => ?_⟩ ⟨locs, X', hF, H3⟩).st st'
    have hp' : (vm0.interned.push (u, b))[j]? = some p := by rw [← hi, ← e1]; exact hp
    rw [Array.getElem?_push] at hp'
    split at hp'
    · cases hp'; exact H.lt _ List.mem_cons_self
    · exact hB h0 h (H.sub (List.sublist_cons_self _ _)) j p hj hp'
theorem k_returnW (C : own_C p (s.setVm vm0) m meth c Z own nm code ml none) (X : own_S p l e R (s.setVm vm0) m args below meth c Z T Lq k n) {Q : Option Value → List (Addr × (Cell → Prop)) → List (Addr × (Cell → Prop)) → Prop} (hM : M ++ G = Lq) (W : own_W s vm0 G) (hd : decode code pc = .ok (.return_, 1)) (hQ : Q none M G) (hk : k ≤ R.cells) (hn : n ≤ R.slots) : own_Go p.tables e below (own_EW Z s R Q) (T.setTop (mkF m pc ls [])) := by
  subst hM; obtain ⟨locs, X, hF, hH⟩ := X
  obtain ⟨⟨n0, hS0⟩, hB⟩ := W
  have HG : own_H Z.heap T.heap G := hH.sub (List.sublist_append_right _ _)
  have hS : s.Since vm0 T.heap.size := ⟨hS0.1, fun j p hj hp => ⟨(hS0.2 j p hj hp).1, hB _ _ HG j p hj hp⟩⟩
  have hi : T.vm.interned = vm0.interned := X.warmed.interned_eq
  obtain ⟨fs, hr, hrun, hended, hE⟩ := X.leaveW hS (Nat.le_refl _) (v := none) (fun _ => rfl) C.2.2.2.2.2.2.2
  refine ⟨_, _, X.returnOut C.1 C.2.2.2.2.2.2.1 (hb C.2.1 hd) hr, hrun, hended, _, M, G, locs, rfl, hQ, hH, ?_, hF, hE.1, hE.2.1, hE.2.2.1, hE.2.2.2.mono hk hn⟩
  intro h0 h H j p hj hp
  exact hB h0 h H j p hj (by rw [← hi]; exact hp)
theorem k_ireturnW {t : FieldType} (C : own_C p (s.setVm vm0) m meth c Z own nm code ml (some t)) (X : own_S p l e R (s.setVm vm0) m args below meth c Z T Lq k n) {x : Int32} {Q : Option Value → List (Addr × (Cell → Prop)) → List (Addr × (Cell → Prop)) → Prop} (hM : M ++ G = Lq) (W : own_W s vm0 G) (hd : decode code pc = .ok (.ireturn, 1)) (ht : t = .int ∨ t = .boolean ∨ t = .byte ∨ t = .char ∨ t = .short) (hnr : narrow t (.int x) = .int x) (hQ : Q (some (.int x)) M G) (hk : k ≤ R.cells) (hn : n ≤ R.slots) : own_Go p.tables e below (own_EW Z s R Q) (T.setTop (mkF m pc ls (.int x :: st))) := by
  subst hM; obtain ⟨locs, X, hF, hH⟩ := X
  obtain ⟨⟨n0, hS0⟩, hB⟩ := W
  have HG : own_H Z.heap T.heap G := hH.sub (List.sublist_append_right _ _)
  have hS : s.Since vm0 T.heap.size := ⟨hS0.1, fun j p hj hp => ⟨(hS0.2 j p hj hp).1, hB _ _ HG j p hj hp⟩⟩
  have hi : T.vm.interned = vm0.interned := X.warmed.interned_eq
  obtain ⟨fs, hr, hrun, hended, hE⟩ := X.leaveW hS (Nat.le_refl _) (v := some (.int x)) (fun h => by rw [C.2.2.2.2.2.2.1] at h; cases h) C.2.2.2.2.2.2.2
  refine ⟨_, _, retOut X C.1 C.2.2.2.2.2.2.1 hnr (Or.inl ⟨rfl, ht, x, rfl⟩) (hb C.2.1 hd) hr, hrun, hended, _, M, G, locs, rfl, hQ, hH, ?_, hF, hE.1, hE.2.1, hE.2.2.1, hE.2.2.2.mono hk hn⟩
  intro h0 h H j p hj hp
  exact hB h0 h H j p hj (by rw [← hi]; exact hp)
theorem k_areturnW {t : FieldType} (C : own_C p (s.setVm vm0) m meth c Z own nm code ml (some t)) (X : own_S p l e R (s.setVm vm0) m args below meth c Z T Lq k n) {x : Value} {Q : Option Value → List (Addr × (Cell → Prop)) → List (Addr × (Cell → Prop)) → Prop} (hM : M ++ G = Lq) (W : own_W s vm0 G) (hd : decode code pc = .ok (.areturn, 1)) (ht : t.isReference = true) (hx : x.isRef = true) (hnr : narrow t x = x) (hQ : Q (some x) M G) (hk : k ≤ R.cells) (hn : n ≤ R.slots) : own_Go p.tables e below (own_EW Z s R Q) (T.setTop (mkF m pc ls (x :: st))) := by
  subst hM; obtain ⟨locs, X, hF, hH⟩ := X
  obtain ⟨⟨n0, hS0⟩, hB⟩ := W
  have HG : own_H Z.heap T.heap G := hH.sub (List.sublist_append_right _ _)
  have hS : s.Since vm0 T.heap.size := ⟨hS0.1, fun j p hj hp => ⟨(hS0.2 j p hj hp).1, hB _ _ HG j p hj hp⟩⟩
  have hi : T.vm.interned = vm0.interned := X.warmed.interned_eq
  obtain ⟨fs, hr, hrun, hended, hE⟩ := X.leaveW hS (Nat.le_refl _) (v := some x) (fun h => by rw [C.2.2.2.2.2.2.1] at h; cases h) C.2.2.2.2.2.2.2
  refine ⟨_, _, retOut X C.1 C.2.2.2.2.2.2.1 hnr (Or.inr (Or.inr (Or.inr (Or.inr ⟨rfl, ht, hx⟩)))) (hb C.2.1 hd) hr, hrun, hended, _, M, G, locs, rfl, hQ, hH, ?_, hF, hE.1, hE.2.1, hE.2.2.1, hE.2.2.2.mono hk hn⟩
  intro h0 h H j p hj hp
  exact hB h0 h H j p hj (by rw [← hi]; exact hp)
theorem own_ConW.back {y : MethodName} {bytes : ByteArray} {maxL : Nat} {ret : Option FieldType} {rm : Room} {as' : Array Value} {Jv : Vm → Prop} {Q : Option Value → List (Addr × (Cell → Prop)) → List (Addr × (Cell → Prop)) → Prop} (K : own_ConW l Z y bytes maxL ret rm as' L Jv Q) (hZ : Z.Warmed39 s.vm) (hH : own_H Z.heap T.heap L) (hJ : ∀ vm1 : Vm, vm1.interned = s.vm.interned → Jv vm1) (wc : (Jvm.Cond.code y bytes maxL ret).before a0 Z = true) (wz : (Jvm.Cond.initialized y.cls).before a0 Z = true) {W : Nat} (hf : rm.frames + 1 ≤ R.frames) (hl : W + (maxL + 11) + rm.locals ≤ R.locals) :
    BackS l R p e below s args y 3 W (fun A a => a = as' ∧ A.U.heap = T.heap ∧ A.cells + rm.cells ≤ R.cells ∧ A.slots + rm.slots ≤ R.slots)
      (fun A _ v B => ∃ M G L0, Q v M G ∧ own_H Z.heap B.U.heap (M ++ G) ∧ (∀ (h0 h : Heap), own_H h0 h G → ∀ (j : Nat) (p : Array UInt16 × Addr), A.U.vm.interned.size ≤ j → B.U.vm.interned[j]? = some p → p.2 < h.size) ∧ Fr Z.heap.size L0 ∧ B.locs = A.locs ++ L0 ∧ B.cells = A.cells + rm.cells ∧ B.slots = A.slots + rm.slots) :=
  BackS.of_freeW (bytes := bytes) (maxL := maxL) (ret := ret) (E := fun _ U o t L0 k n => k = rm.cells ∧ n = rm.slots ∧ ∃ v M G, o = .returned v ∧ Q v M G ∧ own_H Z.heap t.heap (M ++ G) ∧ (∀ (h0 h : Heap), own_H h0 h G → ∀ (j : Nat) (p : Array UInt16 × Addr), U.vm.interned.size ≤ j → t.vm.interned[j]? = some p → p.2 < h.size) ∧ Fr Z.heap.size L0) (K []) hf hl
    (fun m meth c A a Y hp => have hU : Z.Warmed39 A.U.vm := wtrans hZ Y.warmed
      ⟨by show (Cond.and _ .tt).before a A.U = true; rw [Cond.before_and, mv hU wc]; rfl, mv hU wc, mv hU wz, hp.2.2.1, hp.2.2.2⟩)
    (fun m meth c A a g mk Y hp => ⟨hp.1, wtrans hZ Y.warmed, by show own_H Z.heap A.U.heap L; rw [hp.2.1]; exact hH, hJ _ Y.warmed.interned_eq⟩) (fun _ _ _ _ _ _ _ _ _ => trivial)
    (fun _ _ _ _ ⟨v, M, G, L0, h1, h2, h3, h4, h5, h6⟩ => ⟨L0, _, _, h6, rfl, rfl, v, M, G, h1, h2, h3, h4, h5⟩)
    (fun m meth c A a g mk v t L0 k n Y hp _ _ ⟨e1, e2, v', M, G, e3, h2, h3, h4, h5⟩ => by cases e3; subst e1 e2; exact ⟨M, G, L0, h2, h3, h4, h5, rfl, rfl, rfl⟩)
theorem k_initW (C : own_C p (s.setVm vm0) m meth c Z own nm code ml rt) (X : own_S p l e R (s.setVm vm0) m args below meth c Z T L k n) {y : MethodName} {i : Nat} {bytes : ByteArray} {maxL : Nat} {rm : Room} {as' : Array Value} {Jv : Vm → Prop} {Q : Option Value → List (Addr × (Cell → Prop)) → List (Addr × (Cell → Prop)) → Prop} {W : Nat} {rest argsL : List Value} {ps : List FieldType} {rr : Option FieldType} {a : Addr} (W0 : own_W s vm0 G) (hJ : ∀ vm1 : Vm, vm1.interned = vm0.interned → Jv vm1) (hd : decode code pc = .ok (.invokespecial i, 3)) (hp : pc + 3 = npc) (hnm : y.name = "<init>") (w1 : (Jvm.Cond.methodLink own i y).before a0 Z = true) (w2 : (Jvm.Cond.instanceMethod y).before a0 Z = true) (w3 : (Jvm.Cond.initialized y.cls).before a0 Z = true) (w4 : (Jvm.Cond.code y bytes maxL none).before a0 Z = true) (hy : y.cls ≠ "java/lang/invoke/MethodHandle" ∧ y.cls ≠ "java/lang/invoke/VarHandle") (K : own_ConW l Z y bytes maxL none rm as' L Jv Q) (hst : argsL.reverse ++ .ref a :: rest = st) (has : (.ref a :: argsL).toArray = as') (hsz : ls.size = ml) (hpd : parseMethodDescriptor y.desc = some ⟨ps, rr⟩) (hle : argsL.length = ps.length) (hW : (rest.map fun v => v.category).sum ≤ W) (hf : rm.frames + 1 ≤ R.frames) (hlo : W + (maxL + 11) + rm.locals ≤ R.locals) (hk : k + rm.cells ≤ R.cells) (hn : n + rm.slots ≤ R.slots)
    (g : ∀ v T' M vm1 G1, Q v M G1 → own_C p (s.setVm vm1) m meth c Z own nm code ml rt → own_W s vm1 (G ++ G1) → own_S p l e R (s.setVm vm1) m args below meth c Z T' (M ++ G1) (k + rm.cells) (n + rm.slots) → own_Go p.tables e below P (T'.setTop (mkF m npc ls (v.toList ++ rest)))) : own_Go p.tables e below P (T.setTop (mkF m pc ls st)) := by
  subst hp hst has; obtain ⟨locs, X, hF, hH⟩ := X
  obtain ⟨v, vm1, ⟨T1, Lz, kq, nq⟩, hw1, X1, hS1, -, ⟨M, G1, L0, hQ, hH1, hB1, hF1, hl1, hc1, hs1⟩, st1⟩ := X.specialBackS C.1 (y := y) hnm C.2.2.2.2.1 (mvT C.2.2.2.1 w1) (mvT C.2.2.2.1 w2) (mvT C.2.2.2.1 w4) hy (K.back (s := s.setVm vm0) (T := T) (W := W) C.2.2.2.1 hH hJ w4 w3 hf hlo) (g := mkF m pc ls (argsL.reverse ++ .ref a :: rest)) rfl (hsz.trans C.2.2.1.symm) (Steps.refl _) (a := a) (argsL := argsL) (rest := rest) (lenOf hpd hle) rfl (by show 2 * 0 + _ ≤ _; omega) (hb C.2.1 hd) (fun _ _ => ⟨rfl, rfl, hk, hn⟩)
  dsimp only [Pt.U, Pt.locs, Pt.cells, Pt.slots] at X1 hl1 hc1 hs1 st1 hH1 hB1 hS1
  subst hl1 hc1 hs1
  have hW : Z.Warmed39 T1.vm := State.Warmed39.trans (t := s.setVm vm0) C.2.2.2.1 hS1.1
  have hown : T1.vm.findClass own = some m.cls := by rw [hS1.1.alike.findClass]; exact C.2.2.2.2.1
  obtain ⟨⟨n0, hS0⟩, hB0⟩ := W0
  have hS2 : s.Since T1.vm (max n0 T1.heap.size) := hS0.trans ⟨hS1.1, hS1.2.mono (Nat.le_max_right _ _)⟩ (Nat.le_max_left _ _)
  have hi : vm1.interned = vm0.interned := hw1.interned_eq
  refine (g v T1 M T1.vm G1 hQ ⟨C.1, C.2.1, C.2.2.1, hW, hown, C.2.2.2.2.2⟩ ⟨⟨_, hS2⟩, fun h0 h H j p hj hp => ?_⟩ ⟨_, X1, hF.app hF1, hH1⟩).st fun t q => st1.trans q
  by_cases hj' : j < vm0.interned.size
  · rw [hS1.1.old_pair (s := s.setVm vm0) hj'] at hp
    exact hB0 h0 h (H.sub (List.sublist_append_left _ _)) j p hj hp
  · refine hB1 h0 h (H.sub (List.sublist_append_right _ _)) j p ?_ hp
    show vm1.interned.size ≤ j
    rw [hi]; exact Nat.le_of_not_lt hj'
theorem k_staticW (C : own_C p (s.setVm vm0) m meth c Z own nm code ml rt) (X : own_S p l e R (s.setVm vm0) m args below meth c Z T L k n) {y : MethodName} {i : Nat} {bytes : ByteArray} {maxL : Nat} {ret : Option FieldType} {rm : Room} {as' : Array Value} {Jv : Vm → Prop} {Q : Option Value → List (Addr × (Cell → Prop)) → List (Addr × (Cell → Prop)) → Prop} {W : Nat} {rest argsL : List Value} {ps : List FieldType} {rr : Option FieldType} (W0 : own_W s vm0 G) (hJ : ∀ vm1 : Vm, vm1.interned = vm0.interned → Jv vm1) (hd : decode code pc = .ok (.invokestatic i, 3)) (hp : pc + 3 = npc) (w1 : (Jvm.Cond.methodLink own i y).before a0 Z = true) (w2 : (Jvm.Cond.static y).before a0 Z = true) (w3 : (Jvm.Cond.initialized y.cls).before a0 Z = true) (w4 : (Jvm.Cond.code y bytes maxL ret).before a0 Z = true) (hy : y.cls ≠ "java/lang/invoke/MethodHandle" ∧ y.cls ≠ "java/lang/invoke/VarHandle") (K : own_ConW l Z y bytes maxL ret rm as' L Jv Q) (hst : argsL.reverse ++ rest = st) (has : argsL.toArray = as') (hsz : ls.size = ml) (hpd : parseMethodDescriptor y.desc = some ⟨ps, rr⟩) (hle : argsL.length = ps.length) (hW : (rest.map fun v => v.category).sum ≤ W) (hf : rm.frames + 1 ≤ R.frames) (hlo : W + (maxL + 11) + rm.locals ≤ R.locals) (hk : k + rm.cells ≤ R.cells) (hn : n + rm.slots ≤ R.slots)
    (g : ∀ v T' M vm1 G1, Q v M G1 → own_C p (s.setVm vm1) m meth c Z own nm code ml rt → own_W s vm1 (G ++ G1) → own_S p l e R (s.setVm vm1) m args below meth c Z T' (M ++ G1) (k + rm.cells) (n + rm.slots) → own_Go p.tables e below P (T'.setTop (mkF m npc ls (v.toList ++ rest)))) : own_Go p.tables e below P (T.setTop (mkF m pc ls st)) := by
  subst hp hst has; obtain ⟨locs, X, hF, hH⟩ := X
  obtain ⟨v, vm1, ⟨T1, Lz, kq, nq⟩, hw1, X1, hS1, -, ⟨M, G1, L0, hQ, hH1, hB1, hF1, hl1, hc1, hs1⟩, st1⟩ := callSS X C.1 (y := y) C.2.2.2.2.1 (mvT C.2.2.2.1 w1) (mvT C.2.2.2.1 w2) (mvT C.2.2.2.1 w3) (mvT C.2.2.2.1 w4) hy (K.back (s := s.setVm vm0) (T := T) (W := W) C.2.2.2.1 hH hJ w4 w3 hf hlo) (g := mkF m pc ls (argsL.reverse ++ rest)) rfl (hsz.trans C.2.2.1.symm) (argsL := argsL) (rest := rest) (lenOf hpd hle) rfl (by show 2 * 0 + _ ≤ _; omega) (hb C.2.1 hd) (fun _ _ => ⟨rfl, rfl, hk, hn⟩)
  dsimp only [Pt.U, Pt.locs, Pt.cells, Pt.slots] at X1 hl1 hc1 hs1 st1 hH1 hB1 hS1
  subst hl1 hc1 hs1
  have hW : Z.Warmed39 T1.vm := State.Warmed39.trans (t := s.setVm vm0) C.2.2.2.1 hS1.1
  have hown : T1.vm.findClass own = some m.cls := by rw [hS1.1.alike.findClass]; exact C.2.2.2.2.1
  obtain ⟨⟨n0, hS0⟩, hB0⟩ := W0
  have hS2 : s.Since T1.vm (max n0 T1.heap.size) := hS0.trans ⟨hS1.1, hS1.2.mono (Nat.le_max_right _ _)⟩ (Nat.le_max_left _ _)
  have hi : vm1.interned = vm0.interned := hw1.interned_eq
  refine (g v T1 M T1.vm G1 hQ ⟨C.1, C.2.1, C.2.2.1, hW, hown, C.2.2.2.2.2⟩ ⟨⟨_, hS2⟩, fun h0 h H j p hj hp => ?_⟩ ⟨_, X1, hF.app hF1, hH1⟩).st fun t q => st1.trans q
  by_cases hj' : j < vm0.interned.size
  · rw [hS1.1.old_pair (s := s.setVm vm0) hj'] at hp
    exact hB0 h0 h (H.sub (List.sublist_append_left _ _)) j p hj hp
  · refine hB1 h0 h (H.sub (List.sublist_append_right _ _)) j p ?_ hp
    show vm1.interned.size ≤ j
    rw [hi]; exact Nat.le_of_not_lt hj'
end OwnWide
section OwnHeld
open Jvm.Free.SB Jvm.Free.SBG
variable {p : Program} {l : Launch} {e : Env} {R : Room} {s : State} {m : MethodId} {args : Array Value} {below : List Frame} {meth : Method} {c : Code} {Z T : State} {L : List (Addr × (Cell → Prop))} {k n : Nat} {own nm : String} {code : ByteArray} {ml : Nat} {rt : Option FieldType} {P : State → Outcome → Prop} {pc npc tpc : Nat} {ls : Array Slot} {st : List Value} {a0 : Array Value}
variable {vm0 : Vm} {Lq A M G : List (Addr × (Cell → Prop))}
/-- b is a byte[] of length nought, in every heap that holds the list G -/
def own_zb (Z : State) (G : List (Addr × (Cell → Prop))) (b : Addr) : Prop := ∀ h : Heap, own_H Z.heap h G → ∃ c, Arr Z h b c .byte ∧ c.slots.size = 0
/-- a is a String whose value is b and whose coder is nought .. -/
def own_zs (Z : State) (G : List (Addr × (Cell → Prop))) (a b : Addr) : Prop := ∀ h : Heap, own_H Z.heap h G → Fld Z h a "java/lang/String" "value" "[B" (.ref b) ∧ Fld Z h a "java/lang/String" "coder" "B" (.int 0)
theorem own_zb.up {G G' : List (Addr × (Cell → Prop))} {b : Addr} (F : own_zb Z G b) (hs : G.Sublist G') : own_zb Z G' b := fun h H => F h (H.sub hs)
theorem own_Hs {h0 h : Heap} (hA : A ++ G = Lq) (H : own_H h0 h Lq) : own_H h0 h G := by subst hA; exact H.sub (List.sublist_append_right _ _)
theorem own_sl {vm : Vm} {h : Heap} {q : SQ} {u : Array UInt16} (hal : Z.vm.Alike vm) (F : SlB (Wst Z vm h) q u) : (own_fd Z "java/lang/String" "value" "[B" (.ref q.sd) q.sC ∧ own_fd Z "java/lang/String" "coder" "B" (.int 0) q.sC) ∧ Z.isArrayOf q.SA .byte ∧ q.SA.vm ≠ .unknown ∧ q.SA.slots = stringBytes u ∧ q.sa ≠ q.sd := by
  obtain ⟨cS, ⟨⟨s1, s2, s3, ⟨cv, kv, iv, s4, s4'⟩, ⟨cc, kc, ic, s5, s5'⟩, s6, s7, s8, s9, s10, s11, s12, -, -, s15, -⟩, -, -⟩, -, -, hbyt⟩ := F
  obtain ⟨kv', z4⟩ := ff_back (U := Wst Z vm h) hal s4
  obtain ⟨kc', z5⟩ := ff_back (U := Wst Z vm h) hal s5
  refine ⟨⟨⟨cv, kv', iv, q.fSV, z4, s6, s2, s3, ?_, s8⟩, ⟨cc, kc', ic, q.fSC, z5, s7, s2, s3, ?_, s9⟩⟩, State.isArrayOf_alike (s := Wst Z vm h) (T := Z) hal.symm s11, s12, hbyt, s15⟩
  · rw [← hal.assignable]; exact s4'
  · rw [← hal.assignable]; exact s5'
theorem k_arraylengthO (C : own_C p s m meth c Z own nm code ml rt) (X : own_S p l e R s m args below meth c Z T L k n) {a : Addr} {ty : FieldType} {z : Int32} (hd : decode code pc = .ok (.arraylength, 1)) (hp : pc + 1 = npc) (hB : own_H Z.heap T.heap L → ∃ c, Arr Z T.heap a c ty ∧ c.slots.size.toInt32 = z) (g : own_Go p.tables e below P (T.setTop (mkF m npc ls (.int z :: st)))) : own_Go p.tables e below P (T.setTop (mkF m pc ls (.ref a :: st))) := by
  subst hp; obtain ⟨locs, X, hF, hH⟩ := X
  obtain ⟨cc, h1, h2⟩ := hB hH
  rw [← h2] at g
  exact g.st fun t k => X.arraylength C.1 h1.1 (State.isArrayOf_alike C.2.2.2.1.alike h1.2.1) (g := mkF m pc ls (.ref a :: st)) rfl rfl (hb C.2.1 hd) _ k
theorem k_ldcA (C : own_C p (s.setVm vm0) m meth c Z own nm code ml rt) (X : own_S p l e R (s.setVm vm0) m args below meth c Z T L k n) {i : Nat} {text : String} {a : Addr} (hd : decode code pc = .ok (.ldc i, 2)) (hp : pc + 2 = npc) (w1 : (Jvm.Cond.stringLink own i text).before a0 Z = true) (hL : Lit (s.setVm vm0) own i a) (g : own_Go p.tables e below P (T.setTop (mkF m npc ls (.ref a :: st)))) : own_Go p.tables e below P (T.setTop (mkF m pc ls st)) := by
  subst hp; obtain ⟨locs, X, hF, hH⟩ := X
  exact g.st fun t k => ldcAgain X C.1 (show Z.Warmed39 vm0 from C.2.2.2.1) C.2.2.2.2.1 w1 hL (g := mkF m pc ls st) rfl (hb C.2.1 hd) t k
theorem k_ldcV (C : own_C p (s.setVm vm0) m meth c Z own nm code ml rt) (X : own_S p l e R (s.setVm vm0) m args below meth c Z T Lq k n) (hA : A ++ G = Lq) (W : own_W s vm0 G) {EL : List (String × Nat)} (hEL : EW Z a0 EL) (H0 : CHv Z EL Z.vm Z.heap) (hI : vm0.interned = Z.vm.interned) {i : Nat} (hmem : (own, i) ∈ EL) (hd : decode code pc = .ok (.ldc i, 2)) (hp : pc + 2 = npc) (w1 : (Jvm.Cond.stringLink own i "").before a0 Z = true) (wS : ∀ d ∈ Bundle.stringAtoms, d.before a0 Z = true) (hk : k + 2 ≤ R.cells) (hl : n + 4 ≤ R.slots)
    (g : ∀ T' vm1 a b G1, own_C p (s.setVm vm1) m meth c Z own nm code ml rt → own_W s vm1 G1 → own_zs Z G1 a b → own_zb Z G1 b → Lit (s.setVm vm1) own i a → own_S p l e R (s.setVm vm1) m args below meth c Z T' (A ++ G1) (k + 2) (n + 4) → own_Go p.tables e below P (T'.setTop (mkF m npc ls (.ref a :: st)))) : own_Go p.tables e below P (T.setTop (mkF m pc ls st)) := by
  subst hp hA; obtain ⟨locs, X, hF, hH⟩ := X
  have hZ : Z.Warmed39 vm0 := C.2.2.2.1
  obtain ⟨a, T', X', hS', ⟨kk, hkk, hrr⟩, hq, hTW, hint, st'⟩ := X.ldcColdN C.1 (own := own) C.2.2.2.2.1 (mvS hZ w1) (fun d hd' => by
    have q := wS d hd'
    simp only [Bundle.stringAtoms, List.mem_cons, List.not_mem_nil, or_false] at hd'
    rcases hd' with rfl | rfl | rfl | rfl | rfl | rfl | rfl
    · exact mv (s := s.setVm vm0) hZ q
    · exact mv (s := s.setVm vm0) hZ q
    · exact mvA (s := s.setVm vm0) hZ q
    · exact mv (s := s.setVm vm0) hZ q
    · exact mv (s := s.setVm vm0) hZ q
    · exact mv (s := s.setVm vm0) hZ q
    · exact mv (s := s.setVm vm0) hZ q) (g := mkF m pc ls st) rfl (hb C.2.1 hd) (n := 0) (by decide) (by decide) hk (by omega)
  have hW : Z.Warmed39 T'.vm := State.Warmed39.trans (t := s.setVm vm0) hZ hS'.1
  have hal : Z.vm.Alike T'.vm := hW.alike
  have hown : T'.vm.findClass own = some m.cls := by rw [hS'.1.alike.findClass]; exact C.2.2.2.2.1
  have C' : own_C p (s.setVm T'.vm) m meth c Z own nm code ml rt := ⟨C.1, C.2.1, C.2.2.1, hW, hown, C.2.2.2.2.2⟩
  have HA : own_H Z.heap T'.heap (A ++ G) := hH.ext (ext_of hq)
  obtain ⟨⟨n0, hS0⟩, hB⟩ := W
  have hi : T.vm.interned = vm0.interned := X.warmed.interned_eq
  have hS1 : s.Since T'.vm (max n0 T'.heap.size) := hS0.trans ⟨hS'.1, hS'.2.mono (Nat.le_max_right _ _)⟩ (Nat.le_max_left _ _)
  have hLit : Lit (s.setVm T'.vm) own i a := by simp [Lit, State.resolvedAt?, hown, hkk, hrr]
  have w2 : (Jvm.Cond.stringLink own i "").before a0 (Wst Z T'.vm T'.heap) = true := mvS (s := { Z with heap := T'.heap }) hW w1
  obtain ⟨k0', cf, i0, units, hkx, hcf, hpo, hu, -, htext, -⟩ := Cond.stringLink_spec (s := Wst Z T'.vm T'.heap) hown w2
  have hkx' : T'.vm.classes[m.cls]? = some k0' := hkx
  cases hkk.symm.trans hkx'
  have hbk : Booksv T'.vm own i units a := ⟨m.cls, kk, cf, i0, hown, hkk, hcf, hpo, hu, Or.inl hrr⟩
  have ht : ∀ c ∈ ("" : String).toList, c.toNat < 256 := fun c hc => by simp at hc
  have hun : units = #[] := by
    have q := Jvm.ClassFile.units_of_text htext ht
    have q2 : units.toList = [] := by rw [q]; rfl
    exact Array.toList_eq_nil_iff.mp q2
  have hlat : units.all (· < 256) = true := Jvm.ClassFile.lat_of_text htext ht
  have hsb : (stringBytes units).size = 0 := by rw [SBG.stringBytes_lat hlat, hun]; simp
  rcases hint with e1 | ⟨us, hus, e1, hnone, hmade⟩
  · have HC := (CHv.later (vm := Z.vm) (vm1 := T'.vm) (h := Z.heap) (h' := Z.heap) (State.Warmed39.refl Z) (show (Wst Z Z.vm Z.heap).Warmed39 T'.vm from hW) hEL ⟨Nat.le_refl _, fun _ _ q => q⟩ (Or.inl (e1.trans (hi.trans hI))) H0).1
    obtain ⟨q, hqa, F⟩ := SlB.of (HC _ hmem units a hbk)
    subst hqa
    obtain ⟨f1, f2, f3, f4, -⟩ := own_sl hal F
    have c1 : Z.heap[q.sa]? = some q.sC := F.ha
    have c2 : Z.heap[q.sd]? = some q.SA := F.hd
    refine (g T' T'.vm q.sa q.sd G C' ⟨⟨_, hS1⟩, fun h0 h H j p hj hp => ?_⟩ (fun h H => ⟨own_fd.fld (H.1.2 _ _ c1) f1.1, own_fd.fld (H.1.2 _ _ c1) f1.2⟩) (fun h H => ⟨q.SA, ⟨H.1.2 _ _ c2, f2, f3⟩, by rw [f4]; exact hsb⟩) hLit ⟨locs, X', hF, HA⟩).st st'
    exact hB h0 h H j p hj (by rw [← hi, ← e1]; exact hp)
  · have hus' : us = units := by
      have q1 : us.toList = [] := by rw [Jvm.ClassFile.units_of_text hus ht]; rfl
      rw [hun]; exact Array.toList_eq_nil_iff.mp q1
    subst hus'
    obtain ⟨q, cS, hqa, r1, r2, r3, r4, r5⟩ := hmade hlat
    subst hqa
    have F : SlB T' q us := ⟨cS, r1, r2, r3, r4⟩
    have F' : SlB (Wst Z T'.vm T'.heap) q us := F.carry (V := Wst Z T'.vm T'.heap) (Vm.Alike.refl _) F.ha F.hd
    obtain ⟨f1, f2, f3, f4, f5⟩ := own_sl hal F'
    have hnew : T.heap.size ≤ q.sa ∧ T.heap.size ≤ q.sd := r5.resolve_left fun z => absurd z.1 (Nat.not_lt_zero _)
    have hz0 := hH.1.1
    have HA2 : own_H Z.heap T'.heap ((q.sd, fun c => Z.isArrayOf c .byte ∧ c.vm ≠ .unknown ∧ c.slots.size = 0) :: (A ++ G)) := HA.add (by omega) F.hd ⟨f2, f3, by rw [f4]; exact hsb⟩ (fun z hz => Nat.ne_of_lt (Nat.lt_of_lt_of_le (hH.lt z hz) hnew.2))
    have HA3 : own_H Z.heap T'.heap ((q.sa, fun c => own_fd Z "java/lang/String" "value" "[B" (.ref q.sd) c ∧ own_fd Z "java/lang/String" "coder" "B" (.int 0) c) :: (q.sd, fun c => Z.isArrayOf c .byte ∧ c.vm ≠ .unknown ∧ c.slots.size = 0) :: (A ++ G)) := HA2.add (by omega) F.ha f1 (fun z hz => by
      rcases List.mem_cons.mp hz with rfl | hz
      · exact Ne.symm f5
      · exact Nat.ne_of_lt (Nat.lt_of_lt_of_le (hH.lt z hz) hnew.1))
    have HA4 : own_H Z.heap T'.heap (A ++ (q.sa, fun c => own_fd Z "java/lang/String" "value" "[B" (.ref q.sd) c ∧ own_fd Z "java/lang/String" "coder" "B" (.int 0) c) :: (q.sd, fun c => Z.isArrayOf c .byte ∧ c.vm ≠ .unknown ∧ c.slots.size = 0) :: G) := HA3.perm ((List.perm_middle.symm.cons _).trans List.perm_middle.symm)
    refine (g T' T'.vm q.sa q.sd _ C' ⟨⟨_, hS1⟩, fun h0 h H j p hj hp => ?_⟩ (fun h H => ?_) (fun h H => ?_) hLit ⟨locs, X', hF, HA4⟩).st st'
    · have hp' : (vm0.interned.push (us, q.sa))[j]? = some p := by rw [← hi, ← e1]; exact hp
      rw [Array.getElem?_push] at hp'
      split at hp'
      · cases hp'; exact H.lt _ List.mem_cons_self
      · exact hB h0 h (H.sub ((List.sublist_cons_self _ _).trans (List.sublist_cons_self _ _))) j p hj hp'
    · obtain ⟨-, c, h1, h2⟩ := H.get (i := 0) rfl
      exact ⟨own_fd.fld h1 h2.1, own_fd.fld h1 h2.2⟩
    · obtain ⟨-, c, h1, h2⟩ := H.get (i := 1) rfl
      exact ⟨c, ⟨h1, h2.1, h2.2.1⟩, h2.2.2⟩
end OwnHeld
section OwnChars
variable {p : Program} {l : Launch} {e : Env} {R : Room} {s : State} {m : MethodId} {args : Array Value} {below : List Frame} {meth : Method} {c : Code} {Z T : State} {L : List (Addr × (Cell → Prop))} {k n : Nat} {own nm : String} {code : ByteArray} {ml : Nat} {rt : Option FieldType} {P : State → Outcome → Prop} {pc npc tpc : Nat} {ls : Array Slot} {st : List Value} {a0 : Array Value}
theorem k_castore (C : own_C p s m meth c Z own nm code ml rt) (X : own_S p l e R s m args below meth c Z T L k n) {ix i : Nat} {a : Addr} {j x : Int32} {vs vs' : List Value} {L' : List (Addr × (Cell → Prop))} (hd : decode code pc = .ok (.castore, 1)) (hp : pc + 1 = npc) (hi : L[ix]? = some (a, own_ar Z .char vs)) (hn : ¬ j < 0) (hj : j.toNatClampNeg = i) (hl : i < vs.length) (hvs : vs.set i (.int (nar .char x)) = vs') (hL : L.set ix (a, own_ar Z .char vs') = L')
    (g : ∀ T', own_S p l e R s m args below meth c Z T' L' k n → own_Go p.tables e below P (T'.setTop (mkF m npc ls st))) : own_Go p.tables e below P (T.setTop (mkF m pc ls (.int x :: .int j :: .ref a :: st))) := by
  subst hp hvs hL; obtain ⟨locs, X, hF, hH⟩ := X
  obtain ⟨ha, cc, h1, h2⟩ := hH.get hi
  obtain ⟨q1, -⟩ := own_in hn hj h2.2.2.1 (List.getElem?_eq_getElem hl)
  obtain ⟨T', h', X', e', W', st'⟩ := stC X C.1 C.2.2.2.1 rfl (h2.arr h1) (j := j) (x := x) q1 (g := mkF m pc ls (.int x :: .int j :: .ref a :: st)) rfl rfl (hb C.2.1 hd)
  subst e'
  refine (g T' ⟨_, X', Fr.snoc X' hF ha, ?_⟩).st st'
  refine hH.set hi W' fun c hc hsl => ⟨hc.1, hc.2.1, ?_, ?_⟩
  · rw [← hc.2.2.1, hj]; simp [Cell.setSlot]
  · obtain ⟨k1, r1, r2, r3, r4⟩ := hc.2.2.2
    exact ⟨k1, r1, r2, r3, fun q => by rw [← r4 q]; simp [Cell.setSlot]⟩
theorem k_bastore (C : own_C p s m meth c Z own nm code ml rt) (X : own_S p l e R s m args below meth c Z T L k n) {ix i : Nat} {a : Addr} {j x : Int32} {vs vs' : List Value} {L' : List (Addr × (Cell → Prop))} (hd : decode code pc = .ok (.bastore, 1)) (hp : pc + 1 = npc) (hi : L[ix]? = some (a, own_ar Z .byte vs)) (hn : ¬ j < 0) (hj : j.toNatClampNeg = i) (hl : i < vs.length) (hvs : vs.set i (.int (nar .byte x)) = vs') (hL : L.set ix (a, own_ar Z .byte vs') = L')
    (g : ∀ T', own_S p l e R s m args below meth c Z T' L' k n → own_Go p.tables e below P (T'.setTop (mkF m npc ls st))) : own_Go p.tables e below P (T.setTop (mkF m pc ls (.int x :: .int j :: .ref a :: st))) := by
  subst hp hvs hL; obtain ⟨locs, X, hF, hH⟩ := X
  obtain ⟨ha, cc, h1, h2⟩ := hH.get hi
  obtain ⟨q1, -⟩ := own_in hn hj h2.2.2.1 (List.getElem?_eq_getElem hl)
  obtain ⟨T', h', X', e', W', st'⟩ := stB X C.1 C.2.2.2.1 rfl (h2.arr h1) (j := j) (x := x) q1 (g := mkF m pc ls (.int x :: .int j :: .ref a :: st)) rfl rfl (hb C.2.1 hd)
  subst e'
  refine (g T' ⟨_, X', Fr.snoc X' hF ha, ?_⟩).st st'
  refine hH.set hi W' fun c hc hsl => ⟨hc.1, hc.2.1, ?_, ?_⟩
  · rw [← hc.2.2.1, hj]; simp [Cell.setSlot]
  · obtain ⟨k1, r1, r2, r3, r4⟩ := hc.2.2.2
    exact ⟨k1, r1, r2, r3, fun q => by rw [← r4 q]; simp [Cell.setSlot]⟩
theorem k_baload (C : own_C p s m meth c Z own nm code ml rt) (X : own_S p l e R s m args below meth c Z T L k n) {ix i : Nat} {a : Addr} {j : Int32} {vs : List Value} {v : Value} (hd : decode code pc = .ok (.baload, 1)) (hp : pc + 1 = npc) (hi : L[ix]? = some (a, own_ar Z .byte vs)) (hn : ¬ j < 0) (hj : j.toNatClampNeg = i) (hv : vs[i]? = some v) (g : own_Go p.tables e below P (T.setTop (mkF m npc ls (v :: st)))) : own_Go p.tables e below P (T.setTop (mkF m pc ls (.int j :: .ref a :: st))) := by
  subst hp; obtain ⟨locs, X, hF, hH⟩ := X
  obtain ⟨-, cc, h1, h2⟩ := hH.get hi
  obtain ⟨q1, q2⟩ := own_in hn hj h2.2.2.1 hv
  exact g.st fun t k => X.baloadBytes C.1 h1 (State.isArrayOf_alike C.2.2.2.1.alike h2.1) h2.2.1 q1 q2 (g := mkF m pc ls (.int j :: .ref a :: st)) rfl rfl (hb C.2.1 hd) _ k
theorem own_iO {ix : Nat} {a : Addr} {K : String} {fs : List (String × String × Value)} (hi : L[ix]? = some (a, own_ob Z K fs)) (H : own_H Z.heap T.heap L) : Ins Z T.heap a K true := by
  obtain ⟨-, cc, h1, h2⟩ := H.get hi
  exact Ins.self (h2.1.exa h1)
end OwnChars
theorem own_and (x : Int32) (m : Nat) (hm : m < 2147483648) : (x &&& Int32.ofNat m).toInt = (((x &&& Int32.ofNat m).toBitVec.toNat : Nat) : Int) ∧ (x &&& Int32.ofNat m).toBitVec.toNat ≤ m := by
  have h : (x &&& Int32.ofNat m).toBitVec.toNat ≤ m := by
    rw [Int32.toBitVec_and, BitVec.toNat_and]
    refine Nat.le_trans Nat.and_le_right ?_
    show (BitVec.ofNat 32 m).toNat ≤ m
    rw [BitVec.toNat_ofNat]; exact Nat.mod_le _ _
  refine ⟨?_, h⟩
  show (x &&& Int32.ofNat m).toBitVec.toInt = _
  rw [BitVec.toInt_eq_toNat_of_lt (by omega)]
theorem own_and1 (x : Int32) : (x &&& 1) = 0 ∨ (x &&& 1) = 1 := by
  obtain ⟨e, h⟩ := own_and x 1 (by decide)
  rcases (by omega : (x &&& Int32.ofNat 1).toInt = 0 ∨ (x &&& Int32.ofNat 1).toInt = 1) with q | q
  · exact Or.inl (Int32.toInt_inj.mp (q.trans (by decide)))
  · exact Or.inr (Int32.toInt_inj.mp (q.trans (by decide)))
theorem own_and3 (x : Int32) : (x &&& 3) = 0 ∨ (x &&& 3) = 1 ∨ (x &&& 3) = 2 ∨ (x &&& 3) = 3 := by
  obtain ⟨e, h⟩ := own_and x 3 (by decide)
  rcases (by omega : (x &&& Int32.ofNat 3).toInt = 0 ∨ (x &&& Int32.ofNat 3).toInt = 1 ∨ (x &&& Int32.ofNat 3).toInt = 2 ∨ (x &&& Int32.ofNat 3).toInt = 3) with q | q | q | q
  · exact Or.inl (Int32.toInt_inj.mp (q.trans (by decide)))
  · exact Or.inr (Or.inl (Int32.toInt_inj.mp (q.trans (by decide))))
  · exact Or.inr (Or.inr (Or.inl (Int32.toInt_inj.mp (q.trans (by decide)))))
  · exact Or.inr (Or.inr (Or.inr (Int32.toInt_inj.mp (q.trans (by decide)))))
def own_ch (d : Int32) : Prop := ∃ y : Int32, d = nar .char y
theorem own_u16r (u : UInt16) : (u.toUInt32.toInt32).toUInt32.toUInt16 = u := by simp
theorem own_idem (y : Int32) : nar .char (nar .char y) = nar .char y := by
  show ((y.toUInt32.toUInt16.toUInt32.toInt32).toUInt32.toUInt16).toUInt32.toInt32 = y.toUInt32.toUInt16.toUInt32.toInt32
  rw [own_u16r]
theorem own_chn (y : Int32) : own_ch (nar .char y) := ⟨y, rfl⟩
theorem own_chi {c x : Int32} (e : c = ((x &&& 65535).toUInt32.toUInt16.toUInt32.toInt32)) : own_ch c := ⟨_, e⟩
theorem own_chs {c : Int32} (h : own_ch c) : nar .char c = c := by obtain ⟨y, rfl⟩ := h; exact own_idem y
theorem own_nch (y : Int32) : narrow .char (.int y.toUInt32.toUInt16.toUInt32.toInt32) = .int y.toUInt32.toUInt16.toUInt32.toInt32 := congrArg Value.int (own_idem y)
theorem own_chB {d : Int32} (h : own_ch d) : 0 ≤ d.toInt ∧ d.toInt < 65536 := by
  obtain ⟨y, rfl⟩ := h
  exact ⟨(c_i2c y).2.1, (c_i2c y).2.2⟩
theorem own_lo8 (z : Int32) : (nar .byte (z.toInt8.toInt32)) &&& 255 = z &&& 255 := by
  show (z.toInt8.toInt32.toInt8.toInt32) &&& 255 = z &&& 255
  apply Int32.toInt_inj.mp
  have a1 := c_i2b z
  have a2 := c_i2b z.toInt8.toInt32
  have m1 := c_mask (z.toInt8.toInt32.toInt8.toInt32) 255 8 (by decide) (by decide)
  have m2 := c_mask z 255 8 (by decide) (by decide)
  have e : ((2 ^ 8 : Nat) : Int) = 256 := rfl
  rw [e] at m1 m2
  rw [m1, m2]; omega
theorem own_lat {d : Int32} (h : own_ch d) (g : ¬ (255) < d) : ((nar .byte (d.toInt8.toInt32)) &&& (255)).toUInt32.toUInt16.toUInt32.toInt32 = d := by
  rw [i2c_mask, own_lo8]
  have b := own_chB h
  have e2 : (255 : Int32).toInt = 255 := by decide
  rw [Int32.lt_iff_toInt_lt, e2] at g
  have m := c_mask d 255 8 (by decide) (by decide)
  have e : ((2 ^ 8 : Nat) : Int) = 256 := rfl
  rw [e] at m
  apply Int32.toInt_inj.mp
  rw [m]; omega
theorem own_u16 {d : Int32} (h : own_ch d) : ((((nar .byte ((d >>> ((0) &&& 31)).toInt8.toInt32)) &&& (255)) <<< ((0) &&& 31)) ||| (((nar .byte ((d >>> ((8) &&& 31)).toInt8.toInt32)) &&& (255)) <<< ((8) &&& 31))).toUInt32.toUInt16.toUInt32.toInt32 = d := by
  rw [own_lo8, own_lo8]
  have key : (((d >>> ((0) &&& 31)) &&& (255)) <<< ((0) &&& 31) : Int32) ||| ((((d >>> ((8) &&& 31)) &&& (255)) <<< ((8) &&& 31)) : Int32) = d := by
    have b := own_chB h
    have p0 : ((2 ^ 0 : Nat) : Int) = 1 := rfl
    have p8 : ((2 ^ 8 : Nat) : Int) = 256 := rfl
    have s0 := c_ishr d 0 0 (by decide)
    have s8 := c_ishr d 8 8 (by decide)
    rw [p0] at s0; rw [p8] at s8
    have m0 := c_mask (d >>> ((0) &&& 31)) 255 8 (by decide) (by decide)
    have m8 := c_mask (d >>> ((8) &&& 31)) 255 8 (by decide) (by decide)
    rw [p8, s0] at m0; rw [p8, s8] at m8
    have l0 := c_ishl ((d >>> ((0) &&& 31)) &&& (255)) 0 0 (by decide)
    have l8 := c_ishl ((d >>> ((8) &&& 31)) &&& (255)) 8 8 (by decide)
    rw [p0, m0] at l0; rw [p8, m8] at l8
    generalize (((d >>> ((0) &&& 31)) &&& (255)) <<< ((0) &&& 31) : Int32) = X at l0 ⊢
    generalize (((d >>> ((8) &&& 31)) &&& (255)) <<< ((8) &&& 31) : Int32) = Y at l8 ⊢
    have bX := own_i32 X; have bY := own_i32 Y
    have x1 : X.toInt = d.toInt % 256 := by omega
    have y1 : Y.toInt = d.toInt / 256 % 256 * 256 := by omega
    have o := c_or' X Y 8 (by decide) 256 rfl (by omega) (by omega) (by omega)
    have bO := own_i32 (X ||| Y)
    apply Int32.toInt_inj.mp
    omega
  rw [key]
  exact own_chs h
theorem own_gt {d : Int32} (h : own_ch d) (g : (255) < d) : (255 : Int32) < ((((nar .byte ((d >>> ((0) &&& 31)).toInt8.toInt32)) &&& (255)) <<< ((0) &&& 31)) ||| (((nar .byte ((d >>> ((8) &&& 31)).toInt8.toInt32)) &&& (255)) <<< ((8) &&& 31))).toUInt32.toUInt16.toUInt32.toInt32 := by rw [own_u16 h]; exact g
theorem own_neq {args : Array Value} {Z : State} {t : Term} {cs : Int32} (e : t.eval args Z none [] Z = some (.int cs)) (h : (Cond.not (Cond.eq t (Term.int 0))).value args Z none Z [] = some true) : ¬ cs = 0 := by
  intro q
  subst q
  have h2 : (Cond.eq t (Term.int 0)).value args Z none Z [] = some true := by
    simp [Cond.value, e, Term.eval]
  exfalso
  first | (simp [Cond.value, e, Term.eval] at h; done) | (simp [Cond.value, h2] at h; done) | (simp_all [Cond.value, Term.eval]; done)
theorem own_rcat {v : Value} (h : v.isRef = true) : v.category = 1 := by cases v <;> first | rfl | (simp [Value.isRef] at h)
theorem own_locs1 {v : Value} (h : v.category = 1) (r : List Value) : own_locs (v :: r) = .val v :: own_locs r := by
  show (if v.category = 2 then _ else _) = _
  rw [if_neg (by rw [h]; decide)]

theorem d_jdk_42_method_149_code_0 : decode jdk_42_method_149_code 0 = .ok (.aload_n 0, 1) := by decide +kernel
theorem d_jdk_42_method_149_code_1 : decode jdk_42_method_149_code 1 = .ok (.invokespecial 1, 3) := by decide +kernel
theorem d_jdk_42_method_149_code_4 : decode jdk_42_method_149_code 4 = .ok (.iload_n 3, 1) := by decide +kernel
theorem d_jdk_42_method_149_code_5 : decode jdk_42_method_149_code 5 = .ok (.ifCond .ne 22, 3) := by decide +kernel
theorem d_jdk_42_method_149_code_8 : decode jdk_42_method_149_code 8 = .ok (.aload_n 0, 1) := by decide +kernel
theorem d_jdk_42_method_149_code_9 : decode jdk_42_method_149_code 9 = .ok (.ldc 7, 2) := by decide +kernel
theorem own_wS {Z : State} {a0 : Array Value} (hw : ∀ d ∈ tables_1, d.before a0 Z = true) : ∀ d ∈ Bundle.stringAtoms, d.before a0 Z = true := by
  intro d hd
  simp only [Bundle.stringAtoms, Bundle.sN, List.mem_cons, List.not_mem_nil, or_false] at hd
  rcases hd with rfl | rfl | rfl | rfl | rfl | rfl | rfl
  · exact (hw _ (List.mem_of_getElem? (i := 3) rfl))
  · exact (hw _ (List.mem_of_getElem? (i := 2) rfl))
  · exact (hw _ (List.mem_of_getElem? (i := 16) rfl))
  · exact (hw _ (List.mem_of_getElem? (i := 17) rfl))
  · exact (hw _ (List.mem_of_getElem? (i := 18) rfl))
  · exact (hw _ (List.mem_of_getElem? (i := 19) rfl))
  · exact (hw _ (List.mem_of_getElem? (i := 20) rfl))
theorem d_jdk_42_method_149_code_11 : decode jdk_42_method_149_code 11 = .ok (.getfield 9, 3) := by decide +kernel
theorem d_jdk_42_method_149_code_14 : decode jdk_42_method_149_code 14 = .ok (.putfield 9, 3) := by decide +kernel
def own_lay_String_N : List (String × String × FieldType) := [("value", "[B", (.array .byte)), ("coder", "B", .byte)]
theorem own_lay_String {Z : State} {a0 : Array Value} (hw : ∀ d ∈ tables_1, d.before a0 Z = true) : own_lay Z a0 "java/lang/String" own_lay_String_N := ⟨⟨Or.inr (hw _ (List.mem_of_getElem? (i := 17) rfl)), by decide⟩, ⟨Or.inr (hw _ (List.mem_of_getElem? (i := 18) rfl)), by decide⟩, trivial⟩
theorem own_lay_String_nd : (own_lay_String_N.map (·.1)).Nodup := by decide +kernel
theorem d_jdk_42_method_149_code_17 : decode jdk_42_method_149_code 17 = .ok (.aload_n 0, 1) := by decide +kernel
theorem d_jdk_42_method_149_code_18 : decode jdk_42_method_149_code 18 = .ok (.ldc 7, 2) := by decide +kernel
theorem d_jdk_42_method_149_code_20 : decode jdk_42_method_149_code 20 = .ok (.getfield 15, 3) := by decide +kernel
theorem d_jdk_42_method_149_code_23 : decode jdk_42_method_149_code 23 = .ok (.putfield 15, 3) := by decide +kernel
theorem d_jdk_42_method_149_code_26 : decode jdk_42_method_149_code 26 = .ok (.return_, 1) := by decide +kernel
theorem own_pn0 : plainName "java/lang/String" = true := by first | (simp [plainName, overriddenIn]; done) | decide +kernel
def rm_own_si2_0 : Room := { frames := 1, cells := 2, slots := 4, locals := 12 }
set_option maxRecDepth 65536 in
set_option maxHeartbeats 40000000 in
theorem own_si2_0 (l : Launch) (Z : State) (a0 : Array Value) (hw : ∀ d ∈ tables_1, d.before a0 Z = true) (sa_ : Addr) (qc_ : Addr) (cs : Int32) (fm : Value) (hS : Sta Z Z.heap "java/lang/String" "COMPACT_STRINGS" "Z" (.int cs)) (hcs : ¬ cs = 0) (hAD : Sta Z Z.heap "java/lang/StringUTF16" "$assertionsDisabled" "Z" (.int 1)) (hHI : Sta Z Z.heap "java/lang/StringUTF16" "HI_BYTE_SHIFT" "I" (.int 0)) (hLO : Sta Z Z.heap "java/lang/StringUTF16" "LO_BYTE_SHIFT" "I" (.int 8)) (hFM : Sta Z Z.heap "jdk/internal/util/Preconditions" "SIOOBE_FORMATTER" "Ljava/util/function/BiFunction;" fm) (hfc : fm.category = 1) (hEL : EW Z a0 [("java/lang/String", 7)]) (H0 : CHv Z [("java/lang/String", 7)] Z.vm Z.heap) (L : List (Addr × (Cell → Prop))) :
    own_ConW l Z (⟨"java/lang/String", "<init>", "([CIILjava/lang/Void;)V"⟩ : MethodName) jdk_42_method_149_code 6 none rm_own_si2_0 #[(.ref sa_), (.ref qc_), (.int (0)), (.int (0)), .null] ((sa_, own_ob Z "java/lang/String" [("value", "[B", .null), ("coder", "B", (.int (0)))]) :: (qc_, own_ar Z .char []) :: L) (fun vm1 => vm1.interned = Z.vm.interned) (fun v M G => ∃ lb, v = none ∧ M = (sa_, own_ob Z "java/lang/String" [("value", "[B", (.ref lb)), ("coder", "B", (.int (0)))]) :: (qc_, own_ar Z .char []) :: L ∧ own_zb Z G lb) := by
  refine own_conW (ls := #[.val (.ref sa_), .val (.ref qc_), .val (.int (0)), .val (.int (0)), .val .null, .unset]) (plainFor_of_name own_pn0) (fun m => own_ent m rfl) ?_
  intro p e s m below meth c T C X hJ
  refine k_aloadN C X d_jdk_42_method_149_code_0 rfl rfl rfl ?_
  refine k_initO C X d_jdk_42_method_149_code_1 rfl (hw _ (List.mem_of_getElem? (i := 12) rfl)) (hw _ (List.mem_of_getElem? (i := 13) rfl)) (hw _ (List.mem_of_getElem? (i := 14) rfl)) rfl (W := 0) (Nat.le_of_eq rfl) (by decide) (by decide) (fun T X => ?_)
  refine k_iloadN C X d_jdk_42_method_149_code_4 rfl rfl ?_
  refine k_if_ne C X d_jdk_42_method_149_code_5 rfl (tpc := 27) rfl (fun hc => (absurd hc (by decide) : False).elim) (fun _ => ?_)
  refine k_aloadN C X d_jdk_42_method_149_code_8 rfl rfl rfl ?_
  refine k_ldcV (vm0 := s.vm) (A := ((sa_, own_ob Z "java/lang/String" [("value", "[B", .null), ("coder", "B", (.int (0)))]) :: (qc_, own_ar Z .char []) :: L)) (G := []) C X (List.append_nil _) own_W.start hEL H0 hJ (List.mem_singleton.mpr rfl) d_jdk_42_method_149_code_9 rfl (hw _ (List.mem_of_getElem? (i := 15) rfl)) (own_wS hw) (by decide) (by decide) (fun T vmw1 la lb Gw1 C Ww1 hzs hzb hlit X => ?_)
  replace X : own_S p l e rm_own_si2_0 (s.setVm vmw1) m #[(.ref sa_), (.ref qc_), (.int (0)), (.int (0)), .null] below meth c Z T ((sa_, own_ob Z "java/lang/String" [("value", "[B", .null), ("coder", "B", (.int (0)))]) :: (qc_, own_ar Z .char []) :: (L ++ Gw1)) 2 4 := X
  refine k_getfield C X d_jdk_42_method_149_code_11 rfl (host := "") (Or.inl (hw _ (List.mem_of_getElem? (i := 21) rfl))) (fun H => (hzs _ (own_Hs (A := ((sa_, own_ob Z "java/lang/String" [("value", "[B", .null), ("coder", "B", (.int (0)))]) :: (qc_, own_ar Z .char []) :: L)) rfl H)).1) (fun T X => ?_)
  refine k_putfield C X d_jdk_42_method_149_code_14 rfl (host := "") (Or.inl (hw _ (List.mem_of_getElem? (i := 21) rfl))) (hw _ (List.mem_of_getElem? (i := 2) rfl)) (Or.inr ⟨(hw _ (List.mem_of_getElem? (i := 17) rfl)), rfl, rfl⟩) (own_lay_String hw) own_lay_String_nd (ix := 0) (j := 0) rfl rfl rfl (fs' := [("value", "[B", (.ref lb)), ("coder", "B", (.int (0)))]) rfl (ty := (.array .byte)) (by decide) rfl rfl (L' := (sa_, own_ob Z "java/lang/String" [("value", "[B", (.ref lb)), ("coder", "B", (.int (0)))]) :: (qc_, own_ar Z .char []) :: (L ++ Gw1)) rfl (fun T X => ?_)
  refine k_aloadN C X d_jdk_42_method_149_code_17 rfl rfl rfl ?_
  refine k_ldcA C X d_jdk_42_method_149_code_18 rfl (hw _ (List.mem_of_getElem? (i := 15) rfl)) hlit ?_
  refine k_getfield C X d_jdk_42_method_149_code_20 rfl (host := "") (Or.inl (hw _ (List.mem_of_getElem? (i := 22) rfl))) (fun H => (hzs _ (own_Hs (A := ((sa_, own_ob Z "java/lang/String" [("value", "[B", (.ref lb)), ("coder", "B", (.int (0)))]) :: (qc_, own_ar Z .char []) :: L)) rfl H)).2) (fun T X => ?_)
  refine k_putfield C X d_jdk_42_method_149_code_23 rfl (host := "") (Or.inl (hw _ (List.mem_of_getElem? (i := 22) rfl))) (hw _ (List.mem_of_getElem? (i := 2) rfl)) (Or.inr ⟨(hw _ (List.mem_of_getElem? (i := 18) rfl)), rfl, rfl⟩) (own_lay_String hw) own_lay_String_nd (ix := 0) (j := 1) rfl rfl rfl (fs' := [("value", "[B", (.ref lb)), ("coder", "B", (.int (0)))]) rfl (ty := .byte) (by decide) rfl rfl (L' := (sa_, own_ob Z "java/lang/String" [("value", "[B", (.ref lb)), ("coder", "B", (.int (0)))]) :: (qc_, own_ar Z .char []) :: (L ++ Gw1)) rfl (fun T X => ?_)
  exact k_returnW (M := ((sa_, own_ob Z "java/lang/String" [("value", "[B", (.ref lb)), ("coder", "B", (.int (0)))]) :: (qc_, own_ar Z .char []) :: L)) (G := Gw1) C X rfl Ww1 d_jdk_42_method_149_code_26 ⟨lb, rfl, rfl, hzb⟩ (by decide) (by decide)
theorem d_jdk_42_method_3_code_0 : decode jdk_42_method_3_code 0 = .ok (.aload_n 0, 1) := by decide +kernel
theorem d_jdk_42_method_3_code_1 : decode jdk_42_method_3_code 1 = .ok (.aload_n 1, 1) := by decide +kernel
theorem d_jdk_42_method_3_code_2 : decode jdk_42_method_3_code 2 = .ok (.iconst 0, 1) := by decide +kernel
theorem d_jdk_42_method_3_code_3 : decode jdk_42_method_3_code 3 = .ok (.aload_n 1, 1) := by decide +kernel
theorem d_jdk_42_method_3_code_4 : decode jdk_42_method_3_code 4 = .ok (.arraylength, 1) := by decide +kernel
theorem d_jdk_42_method_3_code_5 : decode jdk_42_method_3_code 5 = .ok (.aconst_null, 1) := by decide +kernel
theorem d_jdk_42_method_3_code_6 : decode jdk_42_method_3_code 6 = .ok (.invokespecial 27, 3) := by decide +kernel
theorem own_pd0 : parseMethodDescriptor "([CIILjava/lang/Void;)V" = some ⟨[(.array .char), .int, .int, (.object "java/lang/Void")], none⟩ := by decide +kernel
theorem d_jdk_42_method_3_code_9 : decode jdk_42_method_3_code 9 = .ok (.return_, 1) := by decide +kernel
def rm_own_si1_0 : Room := { frames := 2, cells := 2, slots := 4, locals := 29 }
set_option maxRecDepth 65536 in
set_option maxHeartbeats 40000000 in
theorem own_si1_0 (l : Launch) (Z : State) (a0 : Array Value) (hw : ∀ d ∈ tables_1, d.before a0 Z = true) (sa_ : Addr) (qc_ : Addr) (cs : Int32) (fm : Value) (hS : Sta Z Z.heap "java/lang/String" "COMPACT_STRINGS" "Z" (.int cs)) (hcs : ¬ cs = 0) (hAD : Sta Z Z.heap "java/lang/StringUTF16" "$assertionsDisabled" "Z" (.int 1)) (hHI : Sta Z Z.heap "java/lang/StringUTF16" "HI_BYTE_SHIFT" "I" (.int 0)) (hLO : Sta Z Z.heap "java/lang/StringUTF16" "LO_BYTE_SHIFT" "I" (.int 8)) (hFM : Sta Z Z.heap "jdk/internal/util/Preconditions" "SIOOBE_FORMATTER" "Ljava/util/function/BiFunction;" fm) (hfc : fm.category = 1) (hEL : EW Z a0 [("java/lang/String", 7)]) (H0 : CHv Z [("java/lang/String", 7)] Z.vm Z.heap) (L : List (Addr × (Cell → Prop))) :
    own_ConW l Z (⟨"java/lang/String", "<init>", "([C)V"⟩ : MethodName) jdk_42_method_3_code 2 none rm_own_si1_0 #[(.ref sa_), (.ref qc_)] ((sa_, own_ob Z "java/lang/String" [("value", "[B", .null), ("coder", "B", (.int (0)))]) :: (qc_, own_ar Z .char []) :: L) (fun vm1 => vm1.interned = Z.vm.interned) (fun v M G => ∃ f1, v = none ∧ M = (sa_, own_ob Z "java/lang/String" [("value", "[B", (.ref f1)), ("coder", "B", (.int (0)))]) :: (qc_, own_ar Z .char []) :: L ∧ own_zb Z G f1) := by
  refine own_conW (ls := #[.val (.ref sa_), .val (.ref qc_)]) (plainFor_of_name own_pn0) (fun m => own_ent m rfl) ?_
  intro p e s m below meth c T C X hJ
  refine k_aloadN C X d_jdk_42_method_3_code_0 rfl rfl rfl ?_
  refine k_aloadN C X d_jdk_42_method_3_code_1 rfl rfl rfl ?_
  refine k_iconst C X d_jdk_42_method_3_code_2 rfl (v := 0) rfl ?_
  refine k_aloadN C X d_jdk_42_method_3_code_3 rfl rfl rfl ?_
  refine k_arraylength C X d_jdk_42_method_3_code_4 rfl (ix := 1) rfl (z := (0)) rfl ?_
  refine k_aconst_null C X d_jdk_42_method_3_code_5 rfl ?_
  replace X := X.bring (i := 1) rfl (M := (qc_, own_ar Z .char []) :: (sa_, own_ob Z "java/lang/String" [("value", "[B", .null), ("coder", "B", (.int (0)))]) :: L) rfl
  replace X := X.bring (i := 1) rfl (M := (sa_, own_ob Z "java/lang/String" [("value", "[B", .null), ("coder", "B", (.int (0)))]) :: (qc_, own_ar Z .char []) :: L) rfl
  refine k_initW (vm0 := s.vm) (G := []) C X own_W.start (fun _ h => h.trans hJ) d_jdk_42_method_3_code_6 rfl rfl (hw _ (List.mem_of_getElem? (i := 8) rfl)) (hw _ (List.mem_of_getElem? (i := 9) rfl)) (hw _ (List.mem_of_getElem? (i := 3) rfl)) (hw _ (List.mem_of_getElem? (i := 11) rfl)) (by decide) (own_si2_0 l Z a0 hw sa_ qc_ cs fm hS hcs hAD hHI hLO hFM hfc hEL H0 (L)) (W := 0) (argsL := [(.ref qc_), (.int (0)), (.int (0)), .null]) (rest := []) rfl rfl rfl own_pd0 rfl (Nat.le_of_eq rfl) (by decide) (by decide) (by decide) (by decide) (fun v T M vmw3 Gw3 hQ C Ww3 X => ?_)
  replace Ww3 : own_W s vmw3 Gw3 := Ww3
  obtain ⟨f1, rfl, rfl, hx2⟩ := hQ
  replace X : own_S p l e rm_own_si1_0 (s.setVm vmw3) m #[(.ref sa_), (.ref qc_)] below meth c Z T ((sa_, own_ob Z "java/lang/String" [("value", "[B", (.ref f1)), ("coder", "B", (.int (0)))]) :: (qc_, own_ar Z .char []) :: (L ++ Gw3)) 2 4 := X
  exact k_returnW (M := ((sa_, own_ob Z "java/lang/String" [("value", "[B", (.ref f1)), ("coder", "B", (.int (0)))]) :: (qc_, own_ar Z .char []) :: L)) (G := Gw3) C X rfl Ww3 d_jdk_42_method_3_code_9 ⟨f1, rfl, rfl, hx2⟩ (by decide) (by decide)
theorem d_jdk_43_method_46_code_0 : decode jdk_43_method_46_code 0 = .ok (.iconst 1, 1) := by decide +kernel
theorem d_jdk_43_method_46_code_1 : decode jdk_43_method_46_code 1 = .ok (.newarray .byte, 2) := by decide +kernel
theorem d_jdk_43_method_46_code_3 : decode jdk_43_method_46_code 3 = .ok (.dup, 1) := by decide +kernel
theorem d_jdk_43_method_46_code_4 : decode jdk_43_method_46_code 4 = .ok (.iconst 0, 1) := by decide +kernel
theorem d_jdk_43_method_46_code_5 : decode jdk_43_method_46_code 5 = .ok (.iload_n 0, 1) := by decide +kernel
theorem d_jdk_43_method_46_code_6 : decode jdk_43_method_46_code 6 = .ok (.i2b, 1) := by decide +kernel
theorem d_jdk_43_method_46_code_7 : decode jdk_43_method_46_code 7 = .ok (.bastore, 1) := by decide +kernel
theorem d_jdk_43_method_46_code_8 : decode jdk_43_method_46_code 8 = .ok (.areturn, 1) := by decide +kernel
theorem own_pn1 : plainName "java/lang/StringLatin1" = true := by first | (simp [plainName, overriddenIn]; done) | decide +kernel
def rm_own_ltob : Room := { frames := 0, cells := 1, slots := 1, locals := 0 }
set_option maxRecDepth 65536 in
set_option maxHeartbeats 40000000 in
theorem own_ltob (l : Launch) (Z : State) (a0 : Array Value) (hw : ∀ d ∈ tables_1, d.before a0 Z = true) (d0_ : Int32) (cs : Int32) (fm : Value) (hS : Sta Z Z.heap "java/lang/String" "COMPACT_STRINGS" "Z" (.int cs)) (hcs : ¬ cs = 0) (hAD : Sta Z Z.heap "java/lang/StringUTF16" "$assertionsDisabled" "Z" (.int 1)) (hHI : Sta Z Z.heap "java/lang/StringUTF16" "HI_BYTE_SHIFT" "I" (.int 0)) (hLO : Sta Z Z.heap "java/lang/StringUTF16" "LO_BYTE_SHIFT" "I" (.int 8)) (hFM : Sta Z Z.heap "jdk/internal/util/Preconditions" "SIOOBE_FORMATTER" "Ljava/util/function/BiFunction;" fm) (hfc : fm.category = 1) (L : List (Addr × (Cell → Prop))) :
    own_Con l Z (⟨"java/lang/StringLatin1", "toBytes", "(C)[B"⟩ : MethodName) jdk_43_method_46_code 1 (some (.array .byte)) rm_own_ltob #[(.int d0_)] (L) (fun v M => ∃ o1, v = some (.ref o1) ∧ M = (o1, own_ar Z .byte [(.int (nar .byte d0_.toInt8.toInt32))]) :: L) := by
  refine own_con (ls := #[.val (.int d0_)]) (plainFor_of_name own_pn1) (fun m => own_ent m rfl) ?_
  intro p e s m below meth c T C X
  refine k_iconst C X d_jdk_43_method_46_code_0 rfl (v := 1) rfl ?_
  refine k_newarray C X d_jdk_43_method_46_code_1 rfl (ty := .byte) rfl (hw _ (List.mem_of_getElem? (i := 16) rfl)) (by decide) (cap := 1) (by decide) (by decide) (by decide) (by decide) (vs := [(.int 0)]) rfl (fun T o1 X => ?_)
  refine k_dup C X d_jdk_43_method_46_code_3 rfl rfl ?_
  refine k_iconst C X d_jdk_43_method_46_code_4 rfl (v := 0) rfl ?_
  refine k_iloadN C X d_jdk_43_method_46_code_5 rfl rfl ?_
  refine k_i2b C X d_jdk_43_method_46_code_6 rfl ?_
  refine k_bastore C X d_jdk_43_method_46_code_7 rfl (ix := 0) (i := 0) rfl (by decide) (by decide) (Nat.le_of_ble_eq_true rfl) (vs' := [(.int (nar .byte d0_.toInt8.toInt32))]) rfl (L' := (o1, own_ar Z .byte [(.int (nar .byte d0_.toInt8.toInt32))]) :: L) rfl (fun T X => ?_)
  exact k_areturn C X d_jdk_43_method_46_code_8 rfl rfl rfl ⟨o1, rfl, rfl⟩ (by decide) (by decide)
theorem d_jdk_52_method_4_code_0 : decode jdk_52_method_4_code 0 = .ok (.getstatic 44, 3) := by decide +kernel
theorem d_jdk_52_method_4_code_3 : decode jdk_52_method_4_code 3 = .ok (.ifCond .ne 25, 3) := by decide +kernel
theorem d_jdk_52_method_4_code_28 : decode jdk_52_method_4_code 28 = .ok (.iload_n 1, 1) := by decide +kernel
theorem d_jdk_52_method_4_code_29 : decode jdk_52_method_4_code 29 = .ok (.iconst 1, 1) := by decide +kernel
theorem d_jdk_52_method_4_code_30 : decode jdk_52_method_4_code 30 = .ok (.ishl, 1) := by decide +kernel
theorem d_jdk_52_method_4_code_31 : decode jdk_52_method_4_code 31 = .ok (.istore_n 1, 1) := by decide +kernel
theorem d_jdk_52_method_4_code_32 : decode jdk_52_method_4_code 32 = .ok (.aload_n 0, 1) := by decide +kernel
theorem d_jdk_52_method_4_code_33 : decode jdk_52_method_4_code 33 = .ok (.iload_n 1, 1) := by decide +kernel
theorem d_jdk_52_method_4_code_34 : decode jdk_52_method_4_code 34 = .ok (.iinc 1 1, 3) := by decide +kernel
theorem d_jdk_52_method_4_code_37 : decode jdk_52_method_4_code 37 = .ok (.iload_n 2, 1) := by decide +kernel
theorem d_jdk_52_method_4_code_38 : decode jdk_52_method_4_code 38 = .ok (.getstatic 59, 3) := by decide +kernel
theorem d_jdk_52_method_4_code_41 : decode jdk_52_method_4_code 41 = .ok (.ishr, 1) := by decide +kernel
theorem d_jdk_52_method_4_code_42 : decode jdk_52_method_4_code 42 = .ok (.i2b, 1) := by decide +kernel
theorem d_jdk_52_method_4_code_43 : decode jdk_52_method_4_code 43 = .ok (.bastore, 1) := by decide +kernel
theorem d_jdk_52_method_4_code_44 : decode jdk_52_method_4_code 44 = .ok (.aload_n 0, 1) := by decide +kernel
theorem d_jdk_52_method_4_code_45 : decode jdk_52_method_4_code 45 = .ok (.iload_n 1, 1) := by decide +kernel
theorem d_jdk_52_method_4_code_46 : decode jdk_52_method_4_code 46 = .ok (.iload_n 2, 1) := by decide +kernel
theorem d_jdk_52_method_4_code_47 : decode jdk_52_method_4_code 47 = .ok (.getstatic 63, 3) := by decide +kernel
theorem d_jdk_52_method_4_code_50 : decode jdk_52_method_4_code 50 = .ok (.ishr, 1) := by decide +kernel
theorem d_jdk_52_method_4_code_51 : decode jdk_52_method_4_code 51 = .ok (.i2b, 1) := by decide +kernel
theorem d_jdk_52_method_4_code_52 : decode jdk_52_method_4_code 52 = .ok (.bastore, 1) := by decide +kernel
theorem d_jdk_52_method_4_code_53 : decode jdk_52_method_4_code 53 = .ok (.return_, 1) := by decide +kernel
theorem own_pn2 : plainName "java/lang/StringUTF16" = true := by first | (simp [plainName, overriddenIn]; done) | decide +kernel
def rm_own_put10 : Room := { frames := 0, cells := 0, slots := 0, locals := 0 }
set_option maxRecDepth 65536 in
set_option maxHeartbeats 40000000 in
theorem own_put10 (l : Launch) (Z : State) (a0 : Array Value) (hw : ∀ d ∈ tables_1, d.before a0 Z = true) (qb_ : Addr) (d_ : Int32) (e0_ : Int32) (e1_ : Int32) (cs : Int32) (fm : Value) (hS : Sta Z Z.heap "java/lang/String" "COMPACT_STRINGS" "Z" (.int cs)) (hcs : ¬ cs = 0) (hAD : Sta Z Z.heap "java/lang/StringUTF16" "$assertionsDisabled" "Z" (.int 1)) (hHI : Sta Z Z.heap "java/lang/StringUTF16" "HI_BYTE_SHIFT" "I" (.int 0)) (hLO : Sta Z Z.heap "java/lang/StringUTF16" "LO_BYTE_SHIFT" "I" (.int 8)) (hFM : Sta Z Z.heap "jdk/internal/util/Preconditions" "SIOOBE_FORMATTER" "Ljava/util/function/BiFunction;" fm) (hfc : fm.category = 1) (L : List (Addr × (Cell → Prop))) :
    own_Con l Z (⟨"java/lang/StringUTF16", "putChar", "([BII)V"⟩ : MethodName) jdk_52_method_4_code 3 none rm_own_put10 #[(.ref qb_), (.int (0)), (.int d_)] ((qb_, own_ar Z .byte [(.int e0_), (.int e1_)]) :: L) (fun v M => v = none ∧ M = (qb_, own_ar Z .byte [(.int (nar .byte ((d_ >>> ((0) &&& 31 : Int32) : Int32).toInt8.toInt32))), (.int (nar .byte ((d_ >>> ((8) &&& 31 : Int32) : Int32).toInt8.toInt32)))]) :: L) := by
  refine own_con (ls := #[.val (.ref qb_), .val (.int (0)), .val (.int d_)]) (plainFor_of_name own_pn2) (fun m => own_ent m rfl) ?_
  intro p e s m below meth c T C X
  refine k_getstatic C X d_jdk_52_method_4_code_0 rfl (hw _ (List.mem_of_getElem? (i := 111) rfl)) hAD (fun T X => ?_)
  refine k_if_ne C X d_jdk_52_method_4_code_3 rfl (tpc := 28) rfl (fun _ => ?_) (fun hc => (absurd hc (by decide) : False).elim)
  refine k_iloadN C X d_jdk_52_method_4_code_28 rfl rfl ?_
  refine k_iconst C X d_jdk_52_method_4_code_29 rfl (v := 1) rfl ?_
  refine k_ishl C X d_jdk_52_method_4_code_30 rfl ?_
  refine k_istoreN C X d_jdk_52_method_4_code_31 rfl (l' := #[.val (.ref qb_), .val (.int (0)), .val (.int d_)]) rfl ?_
  refine k_aloadN C X d_jdk_52_method_4_code_32 rfl rfl rfl ?_
  refine k_iloadN C X d_jdk_52_method_4_code_33 rfl rfl ?_
  refine k_iinc C X d_jdk_52_method_4_code_34 rfl (v := 1) rfl rfl (l' := #[.val (.ref qb_), .val (.int (1)), .val (.int d_)]) rfl ?_
  refine k_iloadN C X d_jdk_52_method_4_code_37 rfl rfl ?_
  refine k_getstatic C X d_jdk_52_method_4_code_38 rfl (hw _ (List.mem_of_getElem? (i := 112) rfl)) hHI (fun T X => ?_)
  refine k_ishr C X d_jdk_52_method_4_code_41 rfl ?_
  refine k_i2b C X d_jdk_52_method_4_code_42 rfl ?_
  refine k_bastore C X d_jdk_52_method_4_code_43 rfl (ix := 0) (i := 0) rfl (by decide) (by decide) (Nat.le_of_ble_eq_true rfl) (vs' := [(.int (nar .byte ((d_ >>> ((0) &&& 31 : Int32) : Int32).toInt8.toInt32))), (.int e1_)]) rfl (L' := (qb_, own_ar Z .byte [(.int (nar .byte ((d_ >>> ((0) &&& 31 : Int32) : Int32).toInt8.toInt32))), (.int e1_)]) :: L) rfl (fun T X => ?_)
  refine k_aloadN C X d_jdk_52_method_4_code_44 rfl rfl rfl ?_
  refine k_iloadN C X d_jdk_52_method_4_code_45 rfl rfl ?_
  refine k_iloadN C X d_jdk_52_method_4_code_46 rfl rfl ?_
  refine k_getstatic C X d_jdk_52_method_4_code_47 rfl (hw _ (List.mem_of_getElem? (i := 113) rfl)) hLO (fun T X => ?_)
  refine k_ishr C X d_jdk_52_method_4_code_50 rfl ?_
  refine k_i2b C X d_jdk_52_method_4_code_51 rfl ?_
  refine k_bastore C X d_jdk_52_method_4_code_52 rfl (ix := 0) (i := 1) rfl (by decide) (by decide) (Nat.le_of_ble_eq_true rfl) (vs' := [(.int (nar .byte ((d_ >>> ((0) &&& 31 : Int32) : Int32).toInt8.toInt32))), (.int (nar .byte ((d_ >>> ((8) &&& 31 : Int32) : Int32).toInt8.toInt32)))]) rfl (L' := (qb_, own_ar Z .byte [(.int (nar .byte ((d_ >>> ((0) &&& 31 : Int32) : Int32).toInt8.toInt32))), (.int (nar .byte ((d_ >>> ((8) &&& 31 : Int32) : Int32).toInt8.toInt32)))]) :: L) rfl (fun T X => ?_)
  exact k_return C X d_jdk_52_method_4_code_53 ⟨rfl, rfl⟩ (by decide) (by decide)
theorem d_jdk_52_method_24_code_0 : decode jdk_52_method_24_code 0 = .ok (.iconst 2, 1) := by decide +kernel
theorem d_jdk_52_method_24_code_1 : decode jdk_52_method_24_code 1 = .ok (.newarray .byte, 2) := by decide +kernel
theorem d_jdk_52_method_24_code_3 : decode jdk_52_method_24_code 3 = .ok (.astore_n 1, 1) := by decide +kernel
theorem d_jdk_52_method_24_code_4 : decode jdk_52_method_24_code 4 = .ok (.aload_n 1, 1) := by decide +kernel
theorem d_jdk_52_method_24_code_5 : decode jdk_52_method_24_code 5 = .ok (.iconst 0, 1) := by decide +kernel
theorem d_jdk_52_method_24_code_6 : decode jdk_52_method_24_code 6 = .ok (.iload_n 0, 1) := by decide +kernel
theorem d_jdk_52_method_24_code_7 : decode jdk_52_method_24_code 7 = .ok (.invokestatic 111, 3) := by decide +kernel
theorem own_pd1 : parseMethodDescriptor "([BII)V" = some ⟨[(.array .byte), .int, .int], none⟩ := by decide +kernel
theorem d_jdk_52_method_24_code_10 : decode jdk_52_method_24_code 10 = .ok (.aload_n 1, 1) := by decide +kernel
theorem d_jdk_52_method_24_code_11 : decode jdk_52_method_24_code 11 = .ok (.areturn, 1) := by decide +kernel
def rm_own_utob : Room := { frames := 1, cells := 1, slots := 2, locals := 14 }
set_option maxRecDepth 65536 in
set_option maxHeartbeats 40000000 in
theorem own_utob (l : Launch) (Z : State) (a0 : Array Value) (hw : ∀ d ∈ tables_1, d.before a0 Z = true) (d0_ : Int32) (cs : Int32) (fm : Value) (hS : Sta Z Z.heap "java/lang/String" "COMPACT_STRINGS" "Z" (.int cs)) (hcs : ¬ cs = 0) (hAD : Sta Z Z.heap "java/lang/StringUTF16" "$assertionsDisabled" "Z" (.int 1)) (hHI : Sta Z Z.heap "java/lang/StringUTF16" "HI_BYTE_SHIFT" "I" (.int 0)) (hLO : Sta Z Z.heap "java/lang/StringUTF16" "LO_BYTE_SHIFT" "I" (.int 8)) (hFM : Sta Z Z.heap "jdk/internal/util/Preconditions" "SIOOBE_FORMATTER" "Ljava/util/function/BiFunction;" fm) (hfc : fm.category = 1) (L : List (Addr × (Cell → Prop))) :
    own_Con l Z (⟨"java/lang/StringUTF16", "toBytes", "(C)[B"⟩ : MethodName) jdk_52_method_24_code 2 (some (.array .byte)) rm_own_utob #[(.int d0_)] (L) (fun v M => ∃ o1, v = some (.ref o1) ∧ M = (o1, own_ar Z .byte [(.int (nar .byte ((d0_ >>> ((0) &&& 31 : Int32) : Int32).toInt8.toInt32))), (.int (nar .byte ((d0_ >>> ((8) &&& 31 : Int32) : Int32).toInt8.toInt32)))]) :: L) := by
  refine own_con (ls := #[.val (.int d0_), .unset]) (plainFor_of_name own_pn2) (fun m => own_ent m rfl) ?_
  intro p e s m below meth c T C X
  refine k_iconst C X d_jdk_52_method_24_code_0 rfl (v := 2) rfl ?_
  refine k_newarray C X d_jdk_52_method_24_code_1 rfl (ty := .byte) rfl (hw _ (List.mem_of_getElem? (i := 16) rfl)) (by decide) (cap := 2) (by decide) (by decide) (by decide) (by decide) (vs := [(.int 0), (.int 0)]) rfl (fun T o1 X => ?_)
  refine k_astoreN C X d_jdk_52_method_24_code_3 rfl rfl (l' := #[.val (.int d0_), .val (.ref o1)]) rfl ?_
  refine k_aloadN C X d_jdk_52_method_24_code_4 rfl rfl rfl ?_
  refine k_iconst C X d_jdk_52_method_24_code_5 rfl (v := 0) rfl ?_
  refine k_iloadN C X d_jdk_52_method_24_code_6 rfl rfl ?_
  refine k_static C X d_jdk_52_method_24_code_7 rfl (hw _ (List.mem_of_getElem? (i := 108) rfl)) (hw _ (List.mem_of_getElem? (i := 109) rfl)) (hw _ (List.mem_of_getElem? (i := 68) rfl)) (hw _ (List.mem_of_getElem? (i := 110) rfl)) (by decide) (own_put10 l Z a0 hw o1 d0_ 0 0 cs fm hS hcs hAD hHI hLO hFM hfc (L)) (W := 0) (argsL := [(.ref o1), (.int (0)), (.int d0_)]) (rest := []) rfl rfl rfl own_pd1 rfl (Nat.le_of_eq rfl) (by decide) (by decide) (by decide) (by decide) (fun v T M hQ X => ?_)
  obtain ⟨rfl, rfl⟩ := hQ
  refine k_aloadN C X d_jdk_52_method_24_code_10 rfl rfl rfl ?_
  exact k_areturn C X d_jdk_52_method_24_code_11 rfl rfl rfl ⟨o1, rfl, rfl⟩ (by decide) (by decide)
theorem d_jdk_42_method_66_code_0 : decode jdk_42_method_66_code 0 = .ok (.aload_n 0, 1) := by decide +kernel
theorem d_jdk_42_method_66_code_1 : decode jdk_42_method_66_code 1 = .ok (.aload_n 1, 1) := by decide +kernel
theorem d_jdk_42_method_66_code_2 : decode jdk_42_method_66_code 2 = .ok (.if_acmp .ne 5, 3) := by decide +kernel
theorem d_jdk_42_method_66_code_5 : decode jdk_42_method_66_code 5 = .ok (.iconst 1, 1) := by decide +kernel
theorem d_jdk_42_method_66_code_6 : decode jdk_42_method_66_code 6 = .ok (.ireturn, 1) := by decide +kernel
def rm_own_eqs : Room := { frames := 0, cells := 0, slots := 0, locals := 0 }
set_option maxRecDepth 65536 in
set_option maxHeartbeats 40000000 in
theorem own_eqs (l : Launch) (Z : State) (a0 : Array Value) (hw : ∀ d ∈ tables_1, d.before a0 Z = true) (sa_ : Addr) (cs : Int32) (fm : Value) (hS : Sta Z Z.heap "java/lang/String" "COMPACT_STRINGS" "Z" (.int cs)) (hcs : ¬ cs = 0) (hAD : Sta Z Z.heap "java/lang/StringUTF16" "$assertionsDisabled" "Z" (.int 1)) (hHI : Sta Z Z.heap "java/lang/StringUTF16" "HI_BYTE_SHIFT" "I" (.int 0)) (hLO : Sta Z Z.heap "java/lang/StringUTF16" "LO_BYTE_SHIFT" "I" (.int 8)) (hFM : Sta Z Z.heap "jdk/internal/util/Preconditions" "SIOOBE_FORMATTER" "Ljava/util/function/BiFunction;" fm) (hfc : fm.category = 1) (L : List (Addr × (Cell → Prop))) :
    own_Con l Z (⟨"java/lang/String", "equals", "(Ljava/lang/Object;)Z"⟩ : MethodName) jdk_42_method_66_code 3 (some .boolean) rm_own_eqs #[(.ref sa_), (.ref sa_)] (L) (fun v M => v = some (.int (1)) ∧ M = L) := by
  refine own_con (ls := #[.val (.ref sa_), .val (.ref sa_), .unset]) (plainFor_of_name own_pn0) (fun m => own_ent m rfl) ?_
  intro p e s m below meth c T C X
  refine k_aloadN C X d_jdk_42_method_66_code_0 rfl rfl rfl ?_
  refine k_aloadN C X d_jdk_42_method_66_code_1 rfl rfl rfl ?_
  refine k_acmp_ne C X d_jdk_42_method_66_code_2 rfl (tpc := 7) rfl rfl rfl (fun hc => (hc rfl : False).elim) (fun _ => ?_)
  refine k_iconst C X d_jdk_42_method_66_code_5 rfl (v := 1) rfl ?_
  exact k_ireturn C X d_jdk_42_method_66_code_6 (by simp) rfl ⟨rfl, rfl⟩ (by decide) (by decide)
theorem d_jdk_42_method_152_code_0 : decode jdk_42_method_152_code 0 = .ok (.getstatic 38, 3) := by decide +kernel
theorem d_jdk_42_method_152_code_3 : decode jdk_42_method_152_code 3 = .ok (.ifCond .eq 10, 3) := by decide +kernel
theorem d_jdk_42_method_152_code_6 : decode jdk_42_method_152_code 6 = .ok (.aload_n 0, 1) := by decide +kernel
theorem d_jdk_42_method_152_code_7 : decode jdk_42_method_152_code 7 = .ok (.getfield 15, 3) := by decide +kernel
theorem d_jdk_42_method_152_code_10 : decode jdk_42_method_152_code 10 = .ok (.goto 4, 3) := by decide +kernel
theorem d_jdk_42_method_152_code_14 : decode jdk_42_method_152_code 14 = .ok (.ireturn, 1) := by decide +kernel
def rm_own_coder0 : Room := { frames := 0, cells := 0, slots := 0, locals := 0 }
set_option maxRecDepth 65536 in
set_option maxHeartbeats 40000000 in
theorem own_coder0 (l : Launch) (Z : State) (a0 : Array Value) (hw : ∀ d ∈ tables_1, d.before a0 Z = true) (sa_ : Addr) (qb_ : Addr) (cs : Int32) (fm : Value) (hS : Sta Z Z.heap "java/lang/String" "COMPACT_STRINGS" "Z" (.int cs)) (hcs : ¬ cs = 0) (hAD : Sta Z Z.heap "java/lang/StringUTF16" "$assertionsDisabled" "Z" (.int 1)) (hHI : Sta Z Z.heap "java/lang/StringUTF16" "HI_BYTE_SHIFT" "I" (.int 0)) (hLO : Sta Z Z.heap "java/lang/StringUTF16" "LO_BYTE_SHIFT" "I" (.int 8)) (hFM : Sta Z Z.heap "jdk/internal/util/Preconditions" "SIOOBE_FORMATTER" "Ljava/util/function/BiFunction;" fm) (hfc : fm.category = 1) (L : List (Addr × (Cell → Prop))) :
    own_Con l Z (⟨"java/lang/String", "coder", "()B"⟩ : MethodName) jdk_42_method_152_code 1 (some .byte) rm_own_coder0 #[(.ref sa_)] ((sa_, own_ob Z "java/lang/String" [("value", "[B", (.ref qb_)), ("coder", "B", (.int (0)))]) :: L) (fun v M => v = some (.int (0)) ∧ M = (sa_, own_ob Z "java/lang/String" [("value", "[B", (.ref qb_)), ("coder", "B", (.int (0)))]) :: L) := by
  refine own_con (ls := #[.val (.ref sa_)]) (plainFor_of_name own_pn0) (fun m => own_ent m rfl) ?_
  intro p e s m below meth c T C X
  refine k_getstatic C X d_jdk_42_method_152_code_0 rfl (hw _ (List.mem_of_getElem? (i := 60) rfl)) hS (fun T X => ?_)
  refine k_if_eq C X d_jdk_42_method_152_code_3 rfl (tpc := 13) rfl (fun hc => (hcs hc : False).elim) (fun _ => ?_)
  refine k_aloadN C X d_jdk_42_method_152_code_6 rfl rfl rfl ?_
  refine k_getfield C X d_jdk_42_method_152_code_7 rfl (host := "") (Or.inl (hw _ (List.mem_of_getElem? (i := 22) rfl))) (own_fL (ix := 0) (j := 1) rfl rfl) (fun T X => ?_)
  refine k_goto C X d_jdk_42_method_152_code_10 (tpc := 14) rfl ?_
  exact k_ireturn C X d_jdk_42_method_152_code_14 (by simp) rfl ⟨rfl, rfl⟩ (by decide) (by decide)
theorem d_jdk_42_method_54_code_0 : decode jdk_42_method_54_code 0 = .ok (.aload_n 0, 1) := by decide +kernel
theorem d_jdk_42_method_54_code_1 : decode jdk_42_method_54_code 1 = .ok (.getfield 9, 3) := by decide +kernel
theorem d_jdk_42_method_54_code_4 : decode jdk_42_method_54_code 4 = .ok (.arraylength, 1) := by decide +kernel
theorem d_jdk_42_method_54_code_5 : decode jdk_42_method_54_code 5 = .ok (.aload_n 0, 1) := by decide +kernel
theorem d_jdk_42_method_54_code_6 : decode jdk_42_method_54_code 6 = .ok (.invokevirtual 335, 3) := by decide +kernel
theorem own_pd2 : parseMethodDescriptor "()B" = some ⟨[], some .byte⟩ := by decide +kernel
theorem d_jdk_42_method_54_code_9 : decode jdk_42_method_54_code 9 = .ok (.ishr, 1) := by decide +kernel
theorem d_jdk_42_method_54_code_10 : decode jdk_42_method_54_code 10 = .ok (.ireturn, 1) := by decide +kernel
def rm_own_len00 : Room := { frames := 1, cells := 0, slots := 0, locals := 13 }
set_option maxRecDepth 65536 in
set_option maxHeartbeats 40000000 in
theorem own_len00 (l : Launch) (Z : State) (a0 : Array Value) (hw : ∀ d ∈ tables_1, d.before a0 Z = true) (L : List (Addr × (Cell → Prop))) (sa_ : Addr) (qb_ : Addr) (cs : Int32) (fm : Value) (hS : Sta Z Z.heap "java/lang/String" "COMPACT_STRINGS" "Z" (.int cs)) (hcs : ¬ cs = 0) (hAD : Sta Z Z.heap "java/lang/StringUTF16" "$assertionsDisabled" "Z" (.int 1)) (hHI : Sta Z Z.heap "java/lang/StringUTF16" "HI_BYTE_SHIFT" "I" (.int 0)) (hLO : Sta Z Z.heap "java/lang/StringUTF16" "LO_BYTE_SHIFT" "I" (.int 8)) (hFM : Sta Z Z.heap "jdk/internal/util/Preconditions" "SIOOBE_FORMATTER" "Ljava/util/function/BiFunction;" fm) (hfc : fm.category = 1) (hz : ∀ h : Heap, own_H Z.heap h L → ∃ c, Arr Z h qb_ c .byte ∧ c.slots.size = 0) :
    own_Con l Z (⟨"java/lang/String", "length", "()I"⟩ : MethodName) jdk_42_method_54_code 1 (some .int) rm_own_len00 #[(.ref sa_)] ((sa_, own_ob Z "java/lang/String" [("value", "[B", (.ref qb_)), ("coder", "B", (.int (0)))]) :: L) (fun v M => v = some (.int (0)) ∧ M = (sa_, own_ob Z "java/lang/String" [("value", "[B", (.ref qb_)), ("coder", "B", (.int (0)))]) :: L) := by
  refine own_con (ls := #[.val (.ref sa_)]) (plainFor_of_name own_pn0) (fun m => own_ent m rfl) ?_
  intro p e s m below meth c T C X
  refine k_aloadN C X d_jdk_42_method_54_code_0 rfl rfl rfl ?_
  refine k_getfield C X d_jdk_42_method_54_code_1 rfl (host := "") (Or.inl (hw _ (List.mem_of_getElem? (i := 21) rfl))) (own_fL (ix := 0) (j := 0) rfl rfl) (fun T X => ?_)
  refine k_arraylengthO C X d_jdk_42_method_54_code_4 rfl (ty := .byte) (z := (0)) (fun H => by obtain ⟨c, h1, h2⟩ := hz _ (H.sub (List.sublist_cons_self _ _)); exact ⟨c, h1, by rw [h2]; rfl⟩) ?_
  refine k_aloadN C X d_jdk_42_method_54_code_5 rfl rfl rfl ?_
  refine k_virtual C X d_jdk_42_method_54_code_6 rfl (hw _ (List.mem_of_getElem? (i := 55) rfl)) (hw _ (List.mem_of_getElem? (i := 56) rfl)) (hw _ (List.mem_of_getElem? (i := 3) rfl)) (hw _ (List.mem_of_getElem? (i := 59) rfl)) (hw _ (List.mem_of_getElem? (i := 58) rfl)) (hw _ (List.mem_of_getElem? (i := 57) rfl)) (by decide) (own_nf C.2.2.2.1 (hw _ (List.mem_of_getElem? (i := 58) rfl))) (own_eL (ix := 0) rfl) (own_coder0 l Z a0 hw sa_ qb_ cs fm hS hcs hAD hHI hLO hFM hfc (L)) (W := 1) (argsL := []) (rest := [(.int (0))]) rfl rfl rfl own_pd2 rfl (Nat.le_of_eq rfl) (by decide) (by decide) (by decide) (by decide) (fun v T M hQ X => ?_)
  obtain ⟨rfl, rfl⟩ := hQ
  refine k_ishr C X d_jdk_42_method_54_code_9 rfl ?_
  exact k_ireturn C X d_jdk_42_method_54_code_10 (by simp) rfl ⟨rfl, rfl⟩ (by decide) (by decide)
theorem d_jdk_31_method_11_code_0 : decode jdk_31_method_11_code 0 = .ok (.aload_n 0, 1) := by decide +kernel
theorem d_jdk_31_method_11_code_1 : decode jdk_31_method_11_code 1 = .ok (.ifnonnull 12, 3) := by decide +kernel
theorem d_jdk_31_method_11_code_13 : decode jdk_31_method_11_code 13 = .ok (.aload_n 0, 1) := by decide +kernel
theorem d_jdk_31_method_11_code_14 : decode jdk_31_method_11_code 14 = .ok (.areturn, 1) := by decide +kernel
theorem own_pn3 : plainName "java/util/Objects" = true := by first | (simp [plainName, overriddenIn]; done) | decide +kernel
def rm_own_rnn : Room := { frames := 0, cells := 0, slots := 0, locals := 0 }
set_option maxRecDepth 65536 in
set_option maxHeartbeats 40000000 in
theorem own_rnn (l : Launch) (Z : State) (a0 : Array Value) (hw : ∀ d ∈ tables_1, d.before a0 Z = true) (sa_ : Addr) (sb_ : Addr) (cs : Int32) (fm : Value) (hS : Sta Z Z.heap "java/lang/String" "COMPACT_STRINGS" "Z" (.int cs)) (hcs : ¬ cs = 0) (hAD : Sta Z Z.heap "java/lang/StringUTF16" "$assertionsDisabled" "Z" (.int 1)) (hHI : Sta Z Z.heap "java/lang/StringUTF16" "HI_BYTE_SHIFT" "I" (.int 0)) (hLO : Sta Z Z.heap "java/lang/StringUTF16" "LO_BYTE_SHIFT" "I" (.int 8)) (hFM : Sta Z Z.heap "jdk/internal/util/Preconditions" "SIOOBE_FORMATTER" "Ljava/util/function/BiFunction;" fm) (hfc : fm.category = 1) (L : List (Addr × (Cell → Prop))) :
    own_Con l Z (⟨"java/util/Objects", "requireNonNull", "(Ljava/lang/Object;Ljava/lang/String;)Ljava/lang/Object;"⟩ : MethodName) jdk_31_method_11_code 2 (some (.object "java/lang/Object")) rm_own_rnn #[(.ref sa_), (.ref sb_)] (L) (fun v M => v = some (.ref sa_) ∧ M = L) := by
  refine own_con (ls := #[.val (.ref sa_), .val (.ref sb_)]) (plainFor_of_name own_pn3) (fun m => own_ent m rfl) ?_
  intro p e s m below meth c T C X
  refine k_aloadN C X d_jdk_31_method_11_code_0 rfl rfl rfl ?_
  refine k_ifnonnull_y C X d_jdk_31_method_11_code_1 (tpc := 13) rfl ?_
  refine k_aloadN C X d_jdk_31_method_11_code_13 rfl rfl rfl ?_
  exact k_areturn C X d_jdk_31_method_11_code_14 rfl rfl rfl ⟨rfl, rfl⟩ (by decide) (by decide)
theorem d_prog_13_method_1_code_0 : decode prog_13_method_1_code 0 = .ok (.aload_n 0, 1) := by decide +kernel
theorem d_prog_13_method_1_code_1 : decode prog_13_method_1_code 1 = .ok (.invokespecial 1, 3) := by decide +kernel
theorem d_prog_13_method_1_code_4 : decode prog_13_method_1_code 4 = .ok (.aload_n 0, 1) := by decide +kernel
theorem d_prog_13_method_1_code_5 : decode prog_13_method_1_code 5 = .ok (.aload_n 1, 1) := by decide +kernel
theorem d_prog_13_method_1_code_6 : decode prog_13_method_1_code 6 = .ok (.putfield 7, 3) := by decide +kernel
def own_lay_Origin_N : List (String × String × FieldType) := [("file", "Ljava/nio/file/Path;", (.object "java/nio/file/Path")), ("line", "I", .int), ("description", "Ljava/lang/String;", (.object "java/lang/String"))]
theorem own_lay_Origin {Z : State} {a0 : Array Value} (hw : ∀ d ∈ tables_1, d.before a0 Z = true) : own_lay Z a0 "com/example/cradle/cradle/Origin" own_lay_Origin_N := ⟨⟨Or.inr (hw _ (List.mem_of_getElem? (i := 40) rfl)), by decide⟩, ⟨Or.inr (hw _ (List.mem_of_getElem? (i := 42) rfl)), by decide⟩, ⟨Or.inr (hw _ (List.mem_of_getElem? (i := 44) rfl)), by decide⟩, trivial⟩
theorem own_lay_Origin_nd : (own_lay_Origin_N.map (·.1)).Nodup := by decide +kernel
theorem d_prog_13_method_1_code_9 : decode prog_13_method_1_code 9 = .ok (.aload_n 0, 1) := by decide +kernel
theorem d_prog_13_method_1_code_10 : decode prog_13_method_1_code 10 = .ok (.iload_n 2, 1) := by decide +kernel
theorem d_prog_13_method_1_code_11 : decode prog_13_method_1_code 11 = .ok (.putfield 13, 3) := by decide +kernel
theorem d_prog_13_method_1_code_14 : decode prog_13_method_1_code 14 = .ok (.aload_n 0, 1) := by decide +kernel
theorem d_prog_13_method_1_code_15 : decode prog_13_method_1_code 15 = .ok (.aload_n 3, 1) := by decide +kernel
theorem d_prog_13_method_1_code_16 : decode prog_13_method_1_code 16 = .ok (.putfield 17, 3) := by decide +kernel
theorem d_prog_13_method_1_code_19 : decode prog_13_method_1_code 19 = .ok (.return_, 1) := by decide +kernel
theorem own_pn4 : plainName "com/example/cradle/cradle/Origin" = true := by first | (simp [plainName, overriddenIn]; done) | decide +kernel
def rm_own_oin : Room := { frames := 1, cells := 0, slots := 0, locals := 12 }
set_option maxRecDepth 65536 in
set_option maxHeartbeats 40000000 in
theorem own_oin (l : Launch) (Z : State) (a0 : Array Value) (hw : ∀ d ∈ tables_1, d.before a0 Z = true) (oa_ : Addr) (sa_ : Addr) (cs : Int32) (fm : Value) (hS : Sta Z Z.heap "java/lang/String" "COMPACT_STRINGS" "Z" (.int cs)) (hcs : ¬ cs = 0) (hAD : Sta Z Z.heap "java/lang/StringUTF16" "$assertionsDisabled" "Z" (.int 1)) (hHI : Sta Z Z.heap "java/lang/StringUTF16" "HI_BYTE_SHIFT" "I" (.int 0)) (hLO : Sta Z Z.heap "java/lang/StringUTF16" "LO_BYTE_SHIFT" "I" (.int 8)) (hFM : Sta Z Z.heap "jdk/internal/util/Preconditions" "SIOOBE_FORMATTER" "Ljava/util/function/BiFunction;" fm) (hfc : fm.category = 1) (L : List (Addr × (Cell → Prop))) :
    own_Con l Z (⟨"com/example/cradle/cradle/Origin", "<init>", "(Ljava/nio/file/Path;ILjava/lang/String;)V"⟩ : MethodName) prog_13_method_1_code 4 none rm_own_oin #[(.ref oa_), .null, (.int (0)), (.ref sa_)] ((oa_, own_ob Z "com/example/cradle/cradle/Origin" [("file", "Ljava/nio/file/Path;", .null), ("line", "I", (.int (0))), ("description", "Ljava/lang/String;", .null)]) :: L) (fun v M => v = none ∧ M = (oa_, own_ob Z "com/example/cradle/cradle/Origin" [("file", "Ljava/nio/file/Path;", .null), ("line", "I", (.int (0))), ("description", "Ljava/lang/String;", (.ref sa_))]) :: L) := by
  refine own_con (ls := #[.val (.ref oa_), .val .null, .val (.int (0)), .val (.ref sa_)]) (plainFor_of_name own_pn4) (fun m => own_ent m rfl) ?_
  intro p e s m below meth c T C X
  refine k_aloadN C X d_prog_13_method_1_code_0 rfl rfl rfl ?_
  refine k_initO C X d_prog_13_method_1_code_1 rfl (hw _ (List.mem_of_getElem? (i := 38) rfl)) (hw _ (List.mem_of_getElem? (i := 13) rfl)) (hw _ (List.mem_of_getElem? (i := 14) rfl)) rfl (W := 0) (Nat.le_of_eq rfl) (by decide) (by decide) (fun T X => ?_)
  refine k_aloadN C X d_prog_13_method_1_code_4 rfl rfl rfl ?_
  refine k_aloadN C X d_prog_13_method_1_code_5 rfl rfl rfl ?_
  refine k_putfield C X d_prog_13_method_1_code_6 rfl (host := "") (Or.inl (hw _ (List.mem_of_getElem? (i := 39) rfl))) (hw _ (List.mem_of_getElem? (i := 28) rfl)) (Or.inr ⟨(hw _ (List.mem_of_getElem? (i := 40) rfl)), rfl, rfl⟩) (own_lay_Origin hw) own_lay_Origin_nd (ix := 0) (j := 0) rfl rfl rfl (fs' := [("file", "Ljava/nio/file/Path;", .null), ("line", "I", (.int (0))), ("description", "Ljava/lang/String;", .null)]) rfl (ty := (.object "java/nio/file/Path")) (by decide) rfl rfl (L' := (oa_, own_ob Z "com/example/cradle/cradle/Origin" [("file", "Ljava/nio/file/Path;", .null), ("line", "I", (.int (0))), ("description", "Ljava/lang/String;", .null)]) :: L) rfl (fun T X => ?_)
  refine k_aloadN C X d_prog_13_method_1_code_9 rfl rfl rfl ?_
  refine k_iloadN C X d_prog_13_method_1_code_10 rfl rfl ?_
  refine k_putfield C X d_prog_13_method_1_code_11 rfl (host := "") (Or.inl (hw _ (List.mem_of_getElem? (i := 41) rfl))) (hw _ (List.mem_of_getElem? (i := 28) rfl)) (Or.inr ⟨(hw _ (List.mem_of_getElem? (i := 42) rfl)), rfl, rfl⟩) (own_lay_Origin hw) own_lay_Origin_nd (ix := 0) (j := 1) rfl rfl rfl (fs' := [("file", "Ljava/nio/file/Path;", .null), ("line", "I", (.int (0))), ("description", "Ljava/lang/String;", .null)]) rfl (ty := .int) (by decide) rfl rfl (L' := (oa_, own_ob Z "com/example/cradle/cradle/Origin" [("file", "Ljava/nio/file/Path;", .null), ("line", "I", (.int (0))), ("description", "Ljava/lang/String;", .null)]) :: L) rfl (fun T X => ?_)
  refine k_aloadN C X d_prog_13_method_1_code_14 rfl rfl rfl ?_
  refine k_aloadN C X d_prog_13_method_1_code_15 rfl rfl rfl ?_
  refine k_putfield C X d_prog_13_method_1_code_16 rfl (host := "") (Or.inl (hw _ (List.mem_of_getElem? (i := 43) rfl))) (hw _ (List.mem_of_getElem? (i := 28) rfl)) (Or.inr ⟨(hw _ (List.mem_of_getElem? (i := 44) rfl)), rfl, rfl⟩) (own_lay_Origin hw) own_lay_Origin_nd (ix := 0) (j := 2) rfl rfl rfl (fs' := [("file", "Ljava/nio/file/Path;", .null), ("line", "I", (.int (0))), ("description", "Ljava/lang/String;", (.ref sa_))]) rfl (ty := (.object "java/lang/String")) (by decide) rfl rfl (L' := (oa_, own_ob Z "com/example/cradle/cradle/Origin" [("file", "Ljava/nio/file/Path;", .null), ("line", "I", (.int (0))), ("description", "Ljava/lang/String;", (.ref sa_))]) :: L) rfl (fun T X => ?_)
  exact k_return C X d_prog_13_method_1_code_19 ⟨rfl, rfl⟩ (by decide) (by decide)
theorem d_prog_13_method_3_code_0 : decode prog_13_method_3_code 0 = .ok (.new 8, 3) := by decide +kernel
theorem d_prog_13_method_3_code_3 : decode prog_13_method_3_code 3 = .ok (.dup, 1) := by decide +kernel
theorem d_prog_13_method_3_code_4 : decode prog_13_method_3_code 4 = .ok (.aconst_null, 1) := by decide +kernel
theorem d_prog_13_method_3_code_5 : decode prog_13_method_3_code 5 = .ok (.iconst 0, 1) := by decide +kernel
theorem d_prog_13_method_3_code_6 : decode prog_13_method_3_code 6 = .ok (.aload_n 0, 1) := by decide +kernel
theorem d_prog_13_method_3_code_7 : decode prog_13_method_3_code 7 = .ok (.ldc 33, 2) := by decide +kernel
theorem d_prog_13_method_3_code_9 : decode prog_13_method_3_code 9 = .ok (.invokestatic 22, 3) := by decide +kernel
theorem own_pd3 : parseMethodDescriptor "(Ljava/lang/Object;Ljava/lang/String;)Ljava/lang/Object;" = some ⟨[(.object "java/lang/Object"), (.object "java/lang/String")], some (.object "java/lang/Object")⟩ := by decide +kernel
theorem d_prog_13_method_3_code_12 : decode prog_13_method_3_code 12 = .ok (.checkcast 35, 3) := by decide +kernel
theorem d_prog_13_method_3_code_15 : decode prog_13_method_3_code 15 = .ok (.invokespecial 30, 3) := by decide +kernel
theorem own_pd4 : parseMethodDescriptor "(Ljava/nio/file/Path;ILjava/lang/String;)V" = some ⟨[(.object "java/nio/file/Path"), .int, (.object "java/lang/String")], none⟩ := by decide +kernel
theorem d_prog_13_method_3_code_18 : decode prog_13_method_3_code 18 = .ok (.areturn, 1) := by decide +kernel
def rm_own_oof : Room := { frames := 2, cells := 3, slots := 31, locals := 28 }
set_option maxRecDepth 65536 in
set_option maxHeartbeats 40000000 in
theorem own_oof (l : Launch) (Z : State) (a0 : Array Value) (hw : ∀ d ∈ tables_1, d.before a0 Z = true) (sa_ : Addr) (qb_ : Addr) (cd_ : Int32) (cs : Int32) (fm : Value) (hS : Sta Z Z.heap "java/lang/String" "COMPACT_STRINGS" "Z" (.int cs)) (hcs : ¬ cs = 0) (hAD : Sta Z Z.heap "java/lang/StringUTF16" "$assertionsDisabled" "Z" (.int 1)) (hHI : Sta Z Z.heap "java/lang/StringUTF16" "HI_BYTE_SHIFT" "I" (.int 0)) (hLO : Sta Z Z.heap "java/lang/StringUTF16" "LO_BYTE_SHIFT" "I" (.int 8)) (hFM : Sta Z Z.heap "jdk/internal/util/Preconditions" "SIOOBE_FORMATTER" "Ljava/util/function/BiFunction;" fm) (hfc : fm.category = 1) (L : List (Addr × (Cell → Prop))) :
    own_ConW l Z (⟨"com/example/cradle/cradle/Origin", "of", "(Ljava/lang/String;)Lcom/example/cradle/cradle/Origin;"⟩ : MethodName) prog_13_method_3_code 1 (some (.object "com/example/cradle/cradle/Origin")) rm_own_oof #[(.ref sa_)] ((sa_, own_ob Z "java/lang/String" [("value", "[B", (.ref qb_)), ("coder", "B", (.int cd_))]) :: L) (fun _ => True) (fun v M G => ∃ o0, v = some (.ref o0) ∧ M = (o0, own_ob Z "com/example/cradle/cradle/Origin" [("file", "Ljava/nio/file/Path;", .null), ("line", "I", (.int (0))), ("description", "Ljava/lang/String;", (.ref sa_))]) :: (sa_, own_ob Z "java/lang/String" [("value", "[B", (.ref qb_)), ("coder", "B", (.int cd_))]) :: L) := by
  refine own_conW (ls := #[.val (.ref sa_)]) (plainFor_of_name own_pn4) (fun m => own_ent m rfl) ?_
  intro p e s m below meth c T C X hJ
  refine k_new C X d_prog_13_method_3_code_0 rfl (hw _ (List.mem_of_getElem? (i := 27) rfl)) (hw _ (List.mem_of_getElem? (i := 28) rfl)) (hw _ (List.mem_of_getElem? (i := 25) rfl)) (own_lay_Origin hw) (fs := [("file", "Ljava/nio/file/Path;", .null), ("line", "I", (.int (0))), ("description", "Ljava/lang/String;", .null)]) rfl (by decide) (by decide) (fun T o0 X => ?_)
  refine k_dup C X d_prog_13_method_3_code_3 rfl rfl ?_
  refine k_aconst_null C X d_prog_13_method_3_code_4 rfl ?_
  refine k_iconst C X d_prog_13_method_3_code_5 rfl (v := 0) rfl ?_
  refine k_aloadN C X d_prog_13_method_3_code_6 rfl rfl rfl ?_
  refine k_ldcS (vm0 := s.vm) (A := ((o0, own_ob Z "com/example/cradle/cradle/Origin" [("file", "Ljava/nio/file/Path;", .null), ("line", "I", (.int (0))), ("description", "Ljava/lang/String;", .null)]) :: (sa_, own_ob Z "java/lang/String" [("value", "[B", (.ref qb_)), ("coder", "B", (.int cd_))]) :: L)) (G := []) C X (List.append_nil _) own_W.start d_prog_13_method_3_code_7 rfl (hw _ (List.mem_of_getElem? (i := 29) rfl)) (own_wS hw) (N := 24) (by decide) (by decide) (by decide) (by decide) (fun T vmw1 o7 Gw1 C Ww1 X => ?_)
  replace X : own_S p l e rm_own_oof (s.setVm vmw1) m #[(.ref sa_)] below meth c Z T ((o0, own_ob Z "com/example/cradle/cradle/Origin" [("file", "Ljava/nio/file/Path;", .null), ("line", "I", (.int (0))), ("description", "Ljava/lang/String;", .null)]) :: (sa_, own_ob Z "java/lang/String" [("value", "[B", (.ref qb_)), ("coder", "B", (.int cd_))]) :: (L ++ Gw1)) 3 31 := X
  refine k_static C X d_prog_13_method_3_code_9 rfl (hw _ (List.mem_of_getElem? (i := 30) rfl)) (hw _ (List.mem_of_getElem? (i := 31) rfl)) (hw _ (List.mem_of_getElem? (i := 32) rfl)) (hw _ (List.mem_of_getElem? (i := 33) rfl)) (by decide) (own_rnn l Z a0 hw sa_ o7 cs fm hS hcs hAD hHI hLO hFM hfc ((o0, own_ob Z "com/example/cradle/cradle/Origin" [("file", "Ljava/nio/file/Path;", .null), ("line", "I", (.int (0))), ("description", "Ljava/lang/String;", .null)]) :: (sa_, own_ob Z "java/lang/String" [("value", "[B", (.ref qb_)), ("coder", "B", (.int cd_))]) :: (L ++ Gw1))) (W := 4) (argsL := [(.ref sa_), (.ref o7)]) (rest := [(.int (0)), .null, (.ref o0), (.ref o0)]) rfl rfl rfl own_pd3 rfl (Nat.le_of_eq rfl) (by decide) (by decide) (by decide) (by decide) (fun v T M hQ X => ?_)
  obtain ⟨rfl, rfl⟩ := hQ
  refine k_checkcast C X d_prog_13_method_3_code_12 rfl (hw _ (List.mem_of_getElem? (i := 34) rfl)) (own_iO (ix := 1) rfl) (fun T X => ?_)
  refine k_init C X d_prog_13_method_3_code_15 rfl rfl (hw _ (List.mem_of_getElem? (i := 35) rfl)) (hw _ (List.mem_of_getElem? (i := 36) rfl)) (hw _ (List.mem_of_getElem? (i := 25) rfl)) (hw _ (List.mem_of_getElem? (i := 37) rfl)) (by decide) (own_oin l Z a0 hw o0 sa_ cs fm hS hcs hAD hHI hLO hFM hfc ((sa_, own_ob Z "java/lang/String" [("value", "[B", (.ref qb_)), ("coder", "B", (.int cd_))]) :: (L ++ Gw1))) (W := 1) (argsL := [.null, (.int (0)), (.ref sa_)]) (rest := [(.ref o0)]) rfl rfl rfl own_pd4 rfl (Nat.le_of_eq rfl) (by decide) (by decide) (by decide) (by decide) (fun v T M hQ X => ?_)
  obtain ⟨rfl, rfl⟩ := hQ
  exact k_areturnW (M := ((o0, own_ob Z "com/example/cradle/cradle/Origin" [("file", "Ljava/nio/file/Path;", .null), ("line", "I", (.int (0))), ("description", "Ljava/lang/String;", (.ref sa_))]) :: (sa_, own_ob Z "java/lang/String" [("value", "[B", (.ref qb_)), ("coder", "B", (.int cd_))]) :: L)) (G := Gw1) C X rfl Ww1 d_prog_13_method_3_code_18 rfl rfl rfl ⟨o0, rfl, rfl⟩ (by decide) (by decide)
theorem d_prog_13_method_5_code_0 : decode prog_13_method_5_code 0 = .ok (.aload_n 0, 1) := by decide +kernel
theorem d_prog_13_method_5_code_1 : decode prog_13_method_5_code 1 = .ok (.getfield 7, 3) := by decide +kernel
theorem d_prog_13_method_5_code_4 : decode prog_13_method_5_code 4 = .ok (.ifnonnull 11, 3) := by decide +kernel
theorem d_prog_13_method_5_code_7 : decode prog_13_method_5_code 7 = .ok (.aload_n 0, 1) := by decide +kernel
theorem d_prog_13_method_5_code_8 : decode prog_13_method_5_code 8 = .ok (.getfield 17, 3) := by decide +kernel
theorem d_prog_13_method_5_code_11 : decode prog_13_method_5_code 11 = .ok (.astore_n 1, 1) := by decide +kernel
theorem d_prog_13_method_5_code_12 : decode prog_13_method_5_code 12 = .ok (.goto 20, 3) := by decide +kernel
theorem d_prog_13_method_5_code_32 : decode prog_13_method_5_code 32 = .ok (.aload_n 1, 1) := by decide +kernel
theorem d_prog_13_method_5_code_33 : decode prog_13_method_5_code 33 = .ok (.areturn, 1) := by decide +kernel
def rm_own_ots : Room := { frames := 0, cells := 0, slots := 0, locals := 0 }
set_option maxRecDepth 65536 in
set_option maxHeartbeats 40000000 in
theorem own_ots (l : Launch) (Z : State) (a0 : Array Value) (hw : ∀ d ∈ tables_1, d.before a0 Z = true) (oa_ : Addr) (sa_ : Addr) (cs : Int32) (fm : Value) (hS : Sta Z Z.heap "java/lang/String" "COMPACT_STRINGS" "Z" (.int cs)) (hcs : ¬ cs = 0) (hAD : Sta Z Z.heap "java/lang/StringUTF16" "$assertionsDisabled" "Z" (.int 1)) (hHI : Sta Z Z.heap "java/lang/StringUTF16" "HI_BYTE_SHIFT" "I" (.int 0)) (hLO : Sta Z Z.heap "java/lang/StringUTF16" "LO_BYTE_SHIFT" "I" (.int 8)) (hFM : Sta Z Z.heap "jdk/internal/util/Preconditions" "SIOOBE_FORMATTER" "Ljava/util/function/BiFunction;" fm) (hfc : fm.category = 1) (L : List (Addr × (Cell → Prop))) :
    own_Con l Z (⟨"com/example/cradle/cradle/Origin", "toString", "()Ljava/lang/String;"⟩ : MethodName) prog_13_method_5_code 2 (some (.object "java/lang/String")) rm_own_ots #[(.ref oa_)] ((oa_, own_ob Z "com/example/cradle/cradle/Origin" [("file", "Ljava/nio/file/Path;", .null), ("line", "I", (.int (0))), ("description", "Ljava/lang/String;", (.ref sa_))]) :: L) (fun v M => v = some (.ref sa_) ∧ M = (oa_, own_ob Z "com/example/cradle/cradle/Origin" [("file", "Ljava/nio/file/Path;", .null), ("line", "I", (.int (0))), ("description", "Ljava/lang/String;", (.ref sa_))]) :: L) := by
  refine own_con (ls := #[.val (.ref oa_), .unset]) (plainFor_of_name own_pn4) (fun m => own_ent m rfl) ?_
  intro p e s m below meth c T C X
  refine k_aloadN C X d_prog_13_method_5_code_0 rfl rfl rfl ?_
  refine k_getfield C X d_prog_13_method_5_code_1 rfl (host := "") (Or.inl (hw _ (List.mem_of_getElem? (i := 39) rfl))) (own_fL (ix := 0) (j := 0) rfl rfl) (fun T X => ?_)
  refine k_ifnonnull_n C X d_prog_13_method_5_code_4 rfl ?_
  refine k_aloadN C X d_prog_13_method_5_code_7 rfl rfl rfl ?_
  refine k_getfield C X d_prog_13_method_5_code_8 rfl (host := "") (Or.inl (hw _ (List.mem_of_getElem? (i := 43) rfl))) (own_fL (ix := 0) (j := 2) rfl rfl) (fun T X => ?_)
  refine k_astoreN C X d_prog_13_method_5_code_11 rfl rfl (l' := #[.val (.ref oa_), .val (.ref sa_)]) rfl ?_
  refine k_goto C X d_prog_13_method_5_code_12 (tpc := 32) rfl ?_
  refine k_aloadN C X d_prog_13_method_5_code_32 rfl rfl rfl ?_
  exact k_areturn C X d_prog_13_method_5_code_33 rfl rfl rfl ⟨rfl, rfl⟩ (by decide) (by decide)
theorem own_pd5 : parseMethodDescriptor "([C)V" = some ⟨[(.array .char)], none⟩ := by decide +kernel
theorem own_pd6 : parseMethodDescriptor "(Ljava/lang/String;)Lcom/example/cradle/cradle/Origin;" = some ⟨[(.object "java/lang/String")], some (.object "com/example/cradle/cradle/Origin")⟩ := by decide +kernel
theorem own_pd7 : parseMethodDescriptor "()Ljava/lang/String;" = some ⟨[], some (.object "java/lang/String")⟩ := by decide +kernel
theorem own_pd8 : parseMethodDescriptor "()I" = some ⟨[], some .int⟩ := by decide +kernel
theorem own_pd9 : parseMethodDescriptor "(Ljava/lang/Object;)Z" = some ⟨[(.object "java/lang/Object")], some .boolean⟩ := by decide +kernel
theorem d_jdk_43_method_3_code_0 : decode jdk_43_method_3_code 0 = .ok (.iload_n 0, 1) := by decide +kernel
theorem d_jdk_43_method_3_code_1 : decode jdk_43_method_3_code 1 = .ok (.sipush 255, 3) := by decide +kernel
theorem d_jdk_43_method_3_code_4 : decode jdk_43_method_3_code 4 = .ok (.if_icmp .gt 7, 3) := by decide +kernel
theorem d_jdk_43_method_3_code_11 : decode jdk_43_method_3_code 11 = .ok (.iconst 0, 1) := by decide +kernel
theorem d_jdk_43_method_3_code_12 : decode jdk_43_method_3_code 12 = .ok (.ireturn, 1) := by decide +kernel
def rm_own_can0 : Room := { frames := 0, cells := 0, slots := 0, locals := 0 }
set_option maxRecDepth 65536 in
set_option maxHeartbeats 40000000 in
theorem own_can0 (l : Launch) (Z : State) (a0 : Array Value) (hw : ∀ d ∈ tables_1, d.before a0 Z = true) (d0_ : Int32) (cs : Int32) (fm : Value) (hS : Sta Z Z.heap "java/lang/String" "COMPACT_STRINGS" "Z" (.int cs)) (hcs : ¬ cs = 0) (hAD : Sta Z Z.heap "java/lang/StringUTF16" "$assertionsDisabled" "Z" (.int 1)) (hHI : Sta Z Z.heap "java/lang/StringUTF16" "HI_BYTE_SHIFT" "I" (.int 0)) (hLO : Sta Z Z.heap "java/lang/StringUTF16" "LO_BYTE_SHIFT" "I" (.int 8)) (hFM : Sta Z Z.heap "jdk/internal/util/Preconditions" "SIOOBE_FORMATTER" "Ljava/util/function/BiFunction;" fm) (hfc : fm.category = 1) (g0 : (255) < d0_) (L : List (Addr × (Cell → Prop))) :
    own_Con l Z (⟨"java/lang/StringLatin1", "canEncode", "(C)Z"⟩ : MethodName) jdk_43_method_3_code 1 (some .boolean) rm_own_can0 #[(.int d0_)] (L) (fun v M => v = some (.int (0)) ∧ M = L) := by
  refine own_con (ls := #[.val (.int d0_)]) (plainFor_of_name own_pn1) (fun m => own_ent m rfl) ?_
  intro p e s m below meth c T C X
  refine k_iloadN C X d_jdk_43_method_3_code_0 rfl rfl ?_
  refine k_sipush C X d_jdk_43_method_3_code_1 rfl (v := 255) rfl ?_
  refine k_icmp_gt C X d_jdk_43_method_3_code_4 rfl (tpc := 11) rfl (fun _ => ?_) (fun hc => (hc g0 : False).elim)
  refine k_iconst C X d_jdk_43_method_3_code_11 rfl (v := 0) rfl ?_
  exact k_ireturn C X d_jdk_43_method_3_code_12 (by simp) rfl ⟨rfl, rfl⟩ (by decide) (by decide)
theorem d_jdk_42_method_151_code_0 : decode jdk_42_method_151_code 0 = .ok (.aload_n 0, 1) := by decide +kernel
theorem d_jdk_42_method_151_code_1 : decode jdk_42_method_151_code 1 = .ok (.invokespecial 1, 3) := by decide +kernel
theorem d_jdk_42_method_151_code_4 : decode jdk_42_method_151_code 4 = .ok (.aload_n 0, 1) := by decide +kernel
theorem d_jdk_42_method_151_code_5 : decode jdk_42_method_151_code 5 = .ok (.aload_n 1, 1) := by decide +kernel
theorem d_jdk_42_method_151_code_6 : decode jdk_42_method_151_code 6 = .ok (.putfield 9, 3) := by decide +kernel
theorem d_jdk_42_method_151_code_9 : decode jdk_42_method_151_code 9 = .ok (.aload_n 0, 1) := by decide +kernel
theorem d_jdk_42_method_151_code_10 : decode jdk_42_method_151_code 10 = .ok (.iload_n 2, 1) := by decide +kernel
theorem d_jdk_42_method_151_code_11 : decode jdk_42_method_151_code 11 = .ok (.putfield 15, 3) := by decide +kernel
theorem d_jdk_42_method_151_code_14 : decode jdk_42_method_151_code 14 = .ok (.return_, 1) := by decide +kernel
def rm_own_ibb1 : Room := { frames := 1, cells := 0, slots := 0, locals := 12 }
set_option maxRecDepth 65536 in
set_option maxHeartbeats 40000000 in
theorem own_ibb1 (l : Launch) (Z : State) (a0 : Array Value) (hw : ∀ d ∈ tables_1, d.before a0 Z = true) (sa_ : Addr) (qb_ : Addr) (cs : Int32) (fm : Value) (hS : Sta Z Z.heap "java/lang/String" "COMPACT_STRINGS" "Z" (.int cs)) (hcs : ¬ cs = 0) (hAD : Sta Z Z.heap "java/lang/StringUTF16" "$assertionsDisabled" "Z" (.int 1)) (hHI : Sta Z Z.heap "java/lang/StringUTF16" "HI_BYTE_SHIFT" "I" (.int 0)) (hLO : Sta Z Z.heap "java/lang/StringUTF16" "LO_BYTE_SHIFT" "I" (.int 8)) (hFM : Sta Z Z.heap "jdk/internal/util/Preconditions" "SIOOBE_FORMATTER" "Ljava/util/function/BiFunction;" fm) (hfc : fm.category = 1) (L : List (Addr × (Cell → Prop))) :
    own_Con l Z (⟨"java/lang/String", "<init>", "([BB)V"⟩ : MethodName) jdk_42_method_151_code 3 none rm_own_ibb1 #[(.ref sa_), (.ref qb_), (.int (1))] ((sa_, own_ob Z "java/lang/String" [("value", "[B", .null), ("coder", "B", (.int (0)))]) :: L) (fun v M => v = none ∧ M = (sa_, own_ob Z "java/lang/String" [("value", "[B", (.ref qb_)), ("coder", "B", (.int (1)))]) :: L) := by
  refine own_con (ls := #[.val (.ref sa_), .val (.ref qb_), .val (.int (1))]) (plainFor_of_name own_pn0) (fun m => own_ent m rfl) ?_
  intro p e s m below meth c T C X
  refine k_aloadN C X d_jdk_42_method_151_code_0 rfl rfl rfl ?_
  refine k_initO C X d_jdk_42_method_151_code_1 rfl (hw _ (List.mem_of_getElem? (i := 12) rfl)) (hw _ (List.mem_of_getElem? (i := 13) rfl)) (hw _ (List.mem_of_getElem? (i := 14) rfl)) rfl (W := 0) (Nat.le_of_eq rfl) (by decide) (by decide) (fun T X => ?_)
  refine k_aloadN C X d_jdk_42_method_151_code_4 rfl rfl rfl ?_
  refine k_aloadN C X d_jdk_42_method_151_code_5 rfl rfl rfl ?_
  refine k_putfield C X d_jdk_42_method_151_code_6 rfl (host := "") (Or.inl (hw _ (List.mem_of_getElem? (i := 21) rfl))) (hw _ (List.mem_of_getElem? (i := 2) rfl)) (Or.inr ⟨(hw _ (List.mem_of_getElem? (i := 17) rfl)), rfl, rfl⟩) (own_lay_String hw) own_lay_String_nd (ix := 0) (j := 0) rfl rfl rfl (fs' := [("value", "[B", (.ref qb_)), ("coder", "B", (.int (0)))]) rfl (ty := (.array .byte)) (by decide) rfl rfl (L' := (sa_, own_ob Z "java/lang/String" [("value", "[B", (.ref qb_)), ("coder", "B", (.int (0)))]) :: L) rfl (fun T X => ?_)
  refine k_aloadN C X d_jdk_42_method_151_code_9 rfl rfl rfl ?_
  refine k_iloadN C X d_jdk_42_method_151_code_10 rfl rfl ?_
  refine k_putfield C X d_jdk_42_method_151_code_11 rfl (host := "") (Or.inl (hw _ (List.mem_of_getElem? (i := 22) rfl))) (hw _ (List.mem_of_getElem? (i := 2) rfl)) (Or.inr ⟨(hw _ (List.mem_of_getElem? (i := 18) rfl)), rfl, rfl⟩) (own_lay_String hw) own_lay_String_nd (ix := 0) (j := 1) rfl rfl rfl (fs' := [("value", "[B", (.ref qb_)), ("coder", "B", (.int (1)))]) rfl (ty := .byte) (by decide) rfl rfl (L' := (sa_, own_ob Z "java/lang/String" [("value", "[B", (.ref qb_)), ("coder", "B", (.int (1)))]) :: L) rfl (fun T X => ?_)
  exact k_return C X d_jdk_42_method_151_code_14 ⟨rfl, rfl⟩ (by decide) (by decide)
theorem d_jdk_42_method_139_code_0 : decode jdk_42_method_139_code 0 = .ok (.getstatic 38, 3) := by decide +kernel
theorem d_jdk_42_method_139_code_3 : decode jdk_42_method_139_code 3 = .ok (.ifCond .eq 23, 3) := by decide +kernel
theorem d_jdk_42_method_139_code_6 : decode jdk_42_method_139_code 6 = .ok (.iload_n 0, 1) := by decide +kernel
theorem d_jdk_42_method_139_code_7 : decode jdk_42_method_139_code 7 = .ok (.invokestatic 1015, 3) := by decide +kernel
theorem own_pd10 : parseMethodDescriptor "(C)Z" = some ⟨[.char], some .boolean⟩ := by decide +kernel
theorem d_jdk_42_method_139_code_10 : decode jdk_42_method_139_code 10 = .ok (.ifCond .eq 16, 3) := by decide +kernel
theorem d_jdk_42_method_139_code_26 : decode jdk_42_method_139_code 26 = .ok (.new 10, 3) := by decide +kernel
theorem d_jdk_42_method_139_code_29 : decode jdk_42_method_139_code 29 = .ok (.dup, 1) := by decide +kernel
theorem d_jdk_42_method_139_code_30 : decode jdk_42_method_139_code 30 = .ok (.iload_n 0, 1) := by decide +kernel
theorem d_jdk_42_method_139_code_31 : decode jdk_42_method_139_code 31 = .ok (.invokestatic 1021, 3) := by decide +kernel
theorem own_pd11 : parseMethodDescriptor "(C)[B" = some ⟨[.char], some (.array .byte)⟩ := by decide +kernel
theorem d_jdk_42_method_139_code_34 : decode jdk_42_method_139_code 34 = .ok (.iconst 1, 1) := by decide +kernel
theorem d_jdk_42_method_139_code_35 : decode jdk_42_method_139_code 35 = .ok (.invokespecial 209, 3) := by decide +kernel
theorem own_pd12 : parseMethodDescriptor "([BB)V" = some ⟨[(.array .byte), .byte], none⟩ := by decide +kernel
theorem d_jdk_42_method_139_code_38 : decode jdk_42_method_139_code 38 = .ok (.areturn, 1) := by decide +kernel
def rm_own_vof0 : Room := { frames := 2, cells := 2, slots := 6, locals := 29 }
set_option maxRecDepth 65536 in
set_option maxHeartbeats 40000000 in
theorem own_vof0 (l : Launch) (Z : State) (a0 : Array Value) (hw : ∀ d ∈ tables_1, d.before a0 Z = true) (d0_ : Int32) (cs : Int32) (fm : Value) (hS : Sta Z Z.heap "java/lang/String" "COMPACT_STRINGS" "Z" (.int cs)) (hcs : ¬ cs = 0) (hAD : Sta Z Z.heap "java/lang/StringUTF16" "$assertionsDisabled" "Z" (.int 1)) (hHI : Sta Z Z.heap "java/lang/StringUTF16" "HI_BYTE_SHIFT" "I" (.int 0)) (hLO : Sta Z Z.heap "java/lang/StringUTF16" "LO_BYTE_SHIFT" "I" (.int 8)) (hFM : Sta Z Z.heap "jdk/internal/util/Preconditions" "SIOOBE_FORMATTER" "Ljava/util/function/BiFunction;" fm) (hfc : fm.category = 1) (g0 : (255) < d0_) (L : List (Addr × (Cell → Prop))) :
    own_Con l Z (⟨"java/lang/String", "valueOf", "(C)Ljava/lang/String;"⟩ : MethodName) jdk_42_method_139_code 1 (some (.object "java/lang/String")) rm_own_vof0 #[(.int d0_)] (L) (fun v M => ∃ o26 f1, v = some (.ref o26) ∧ M = (o26, own_ob Z "java/lang/String" [("value", "[B", (.ref f1)), ("coder", "B", (.int (1)))]) :: (f1, own_ar Z .byte [(.int (nar .byte ((d0_ >>> ((0) &&& 31 : Int32) : Int32).toInt8.toInt32))), (.int (nar .byte ((d0_ >>> ((8) &&& 31 : Int32) : Int32).toInt8.toInt32)))]) :: L) := by
  refine own_con (ls := #[.val (.int d0_)]) (plainFor_of_name own_pn0) (fun m => own_ent m rfl) ?_
  intro p e s m below meth c T C X
  refine k_getstatic C X d_jdk_42_method_139_code_0 rfl (hw _ (List.mem_of_getElem? (i := 60) rfl)) hS (fun T X => ?_)
  refine k_if_eq C X d_jdk_42_method_139_code_3 rfl (tpc := 26) rfl (fun hc => (hcs hc : False).elim) (fun _ => ?_)
  refine k_iloadN C X d_jdk_42_method_139_code_6 rfl rfl ?_
  refine k_static C X d_jdk_42_method_139_code_7 rfl (hw _ (List.mem_of_getElem? (i := 130) rfl)) (hw _ (List.mem_of_getElem? (i := 131) rfl)) (hw _ (List.mem_of_getElem? (i := 88) rfl)) (hw _ (List.mem_of_getElem? (i := 132) rfl)) (by decide) (own_can0 l Z a0 hw d0_ cs fm hS hcs hAD hHI hLO hFM hfc g0 (L)) (W := 0) (argsL := [(.int d0_)]) (rest := []) rfl rfl rfl own_pd10 rfl (Nat.le_of_eq rfl) (by decide) (by decide) (by decide) (by decide) (fun v T M hQ X => ?_)
  obtain ⟨rfl, hM_⟩ := hQ
  replace hM_ := hM_.symm
  subst hM_
  refine k_if_eq C X d_jdk_42_method_139_code_10 rfl (tpc := 26) rfl (fun _ => ?_) (fun hc => (absurd hc (by decide) : False).elim)
  refine k_new C X d_jdk_42_method_139_code_26 rfl (hw _ (List.mem_of_getElem? (i := 133) rfl)) (hw _ (List.mem_of_getElem? (i := 2) rfl)) (hw _ (List.mem_of_getElem? (i := 3) rfl)) (own_lay_String hw) (fs := [("value", "[B", .null), ("coder", "B", (.int (0)))]) rfl (by decide) (by decide) (fun T o26 X => ?_)
  refine k_dup C X d_jdk_42_method_139_code_29 rfl rfl ?_
  refine k_iloadN C X d_jdk_42_method_139_code_30 rfl rfl ?_
  refine k_static C X d_jdk_42_method_139_code_31 rfl (hw _ (List.mem_of_getElem? (i := 140) rfl)) (hw _ (List.mem_of_getElem? (i := 141) rfl)) (hw _ (List.mem_of_getElem? (i := 68) rfl)) (hw _ (List.mem_of_getElem? (i := 142) rfl)) (by decide) (own_utob l Z a0 hw d0_ cs fm hS hcs hAD hHI hLO hFM hfc ((o26, own_ob Z "java/lang/String" [("value", "[B", .null), ("coder", "B", (.int (0)))]) :: L)) (W := 2) (argsL := [(.int d0_)]) (rest := [(.ref o26), (.ref o26)]) rfl rfl rfl own_pd11 rfl (Nat.le_of_eq rfl) (by decide) (by decide) (by decide) (by decide) (fun v T M hQ X => ?_)
  obtain ⟨f1, rfl, rfl⟩ := hQ
  refine k_iconst C X d_jdk_42_method_139_code_34 rfl (v := 1) rfl ?_
  replace X := X.bring (i := 1) rfl (M := (o26, own_ob Z "java/lang/String" [("value", "[B", .null), ("coder", "B", (.int (0)))]) :: (f1, own_ar Z .byte [(.int (nar .byte ((d0_ >>> ((0) &&& 31 : Int32) : Int32).toInt8.toInt32))), (.int (nar .byte ((d0_ >>> ((8) &&& 31 : Int32) : Int32).toInt8.toInt32)))]) :: L) rfl
  refine k_init C X d_jdk_42_method_139_code_35 rfl rfl (hw _ (List.mem_of_getElem? (i := 137) rfl)) (hw _ (List.mem_of_getElem? (i := 138) rfl)) (hw _ (List.mem_of_getElem? (i := 3) rfl)) (hw _ (List.mem_of_getElem? (i := 139) rfl)) (by decide) (own_ibb1 l Z a0 hw o26 f1 cs fm hS hcs hAD hHI hLO hFM hfc ((f1, own_ar Z .byte [(.int (nar .byte ((d0_ >>> ((0) &&& 31 : Int32) : Int32).toInt8.toInt32))), (.int (nar .byte ((d0_ >>> ((8) &&& 31 : Int32) : Int32).toInt8.toInt32)))]) :: L)) (W := 1) (argsL := [(.ref f1), (.int (1))]) (rest := [(.ref o26)]) rfl rfl rfl own_pd12 rfl (Nat.le_of_eq rfl) (by decide) (by decide) (by decide) (by decide) (fun v T M hQ X => ?_)
  obtain ⟨rfl, rfl⟩ := hQ
  exact k_areturn C X d_jdk_42_method_139_code_38 rfl rfl rfl ⟨o26, f1, rfl, rfl⟩ (by decide) (by decide)
theorem own_pd13 : parseMethodDescriptor "(C)Ljava/lang/String;" = some ⟨[.char], some (.object "java/lang/String")⟩ := by decide +kernel
def rm_own_coder1 : Room := { frames := 0, cells := 0, slots := 0, locals := 0 }
set_option maxRecDepth 65536 in
set_option maxHeartbeats 40000000 in
theorem own_coder1 (l : Launch) (Z : State) (a0 : Array Value) (hw : ∀ d ∈ tables_1, d.before a0 Z = true) (sa_ : Addr) (qb_ : Addr) (cs : Int32) (fm : Value) (hS : Sta Z Z.heap "java/lang/String" "COMPACT_STRINGS" "Z" (.int cs)) (hcs : ¬ cs = 0) (hAD : Sta Z Z.heap "java/lang/StringUTF16" "$assertionsDisabled" "Z" (.int 1)) (hHI : Sta Z Z.heap "java/lang/StringUTF16" "HI_BYTE_SHIFT" "I" (.int 0)) (hLO : Sta Z Z.heap "java/lang/StringUTF16" "LO_BYTE_SHIFT" "I" (.int 8)) (hFM : Sta Z Z.heap "jdk/internal/util/Preconditions" "SIOOBE_FORMATTER" "Ljava/util/function/BiFunction;" fm) (hfc : fm.category = 1) (L : List (Addr × (Cell → Prop))) :
    own_Con l Z (⟨"java/lang/String", "coder", "()B"⟩ : MethodName) jdk_42_method_152_code 1 (some .byte) rm_own_coder1 #[(.ref sa_)] ((sa_, own_ob Z "java/lang/String" [("value", "[B", (.ref qb_)), ("coder", "B", (.int (1)))]) :: L) (fun v M => v = some (.int (1)) ∧ M = (sa_, own_ob Z "java/lang/String" [("value", "[B", (.ref qb_)), ("coder", "B", (.int (1)))]) :: L) := by
  refine own_con (ls := #[.val (.ref sa_)]) (plainFor_of_name own_pn0) (fun m => own_ent m rfl) ?_
  intro p e s m below meth c T C X
  refine k_getstatic C X d_jdk_42_method_152_code_0 rfl (hw _ (List.mem_of_getElem? (i := 60) rfl)) hS (fun T X => ?_)
  refine k_if_eq C X d_jdk_42_method_152_code_3 rfl (tpc := 13) rfl (fun hc => (hcs hc : False).elim) (fun _ => ?_)
  refine k_aloadN C X d_jdk_42_method_152_code_6 rfl rfl rfl ?_
  refine k_getfield C X d_jdk_42_method_152_code_7 rfl (host := "") (Or.inl (hw _ (List.mem_of_getElem? (i := 22) rfl))) (own_fL (ix := 0) (j := 1) rfl rfl) (fun T X => ?_)
  refine k_goto C X d_jdk_42_method_152_code_10 (tpc := 14) rfl ?_
  exact k_ireturn C X d_jdk_42_method_152_code_14 (by simp) rfl ⟨rfl, rfl⟩ (by decide) (by decide)
def rm_own_len11 : Room := { frames := 1, cells := 0, slots := 0, locals := 13 }
set_option maxRecDepth 65536 in
set_option maxHeartbeats 40000000 in
theorem own_len11 (l : Launch) (Z : State) (a0 : Array Value) (hw : ∀ d ∈ tables_1, d.before a0 Z = true) (sa_ : Addr) (qb_ : Addr) (e0_ : Int32) (e1_ : Int32) (cs : Int32) (fm : Value) (hS : Sta Z Z.heap "java/lang/String" "COMPACT_STRINGS" "Z" (.int cs)) (hcs : ¬ cs = 0) (hAD : Sta Z Z.heap "java/lang/StringUTF16" "$assertionsDisabled" "Z" (.int 1)) (hHI : Sta Z Z.heap "java/lang/StringUTF16" "HI_BYTE_SHIFT" "I" (.int 0)) (hLO : Sta Z Z.heap "java/lang/StringUTF16" "LO_BYTE_SHIFT" "I" (.int 8)) (hFM : Sta Z Z.heap "jdk/internal/util/Preconditions" "SIOOBE_FORMATTER" "Ljava/util/function/BiFunction;" fm) (hfc : fm.category = 1) (L : List (Addr × (Cell → Prop))) :
    own_Con l Z (⟨"java/lang/String", "length", "()I"⟩ : MethodName) jdk_42_method_54_code 1 (some .int) rm_own_len11 #[(.ref sa_)] ((sa_, own_ob Z "java/lang/String" [("value", "[B", (.ref qb_)), ("coder", "B", (.int (1)))]) :: (qb_, own_ar Z .byte [(.int e0_), (.int e1_)]) :: L) (fun v M => v = some (.int (1)) ∧ M = (sa_, own_ob Z "java/lang/String" [("value", "[B", (.ref qb_)), ("coder", "B", (.int (1)))]) :: (qb_, own_ar Z .byte [(.int e0_), (.int e1_)]) :: L) := by
  refine own_con (ls := #[.val (.ref sa_)]) (plainFor_of_name own_pn0) (fun m => own_ent m rfl) ?_
  intro p e s m below meth c T C X
  refine k_aloadN C X d_jdk_42_method_54_code_0 rfl rfl rfl ?_
  refine k_getfield C X d_jdk_42_method_54_code_1 rfl (host := "") (Or.inl (hw _ (List.mem_of_getElem? (i := 21) rfl))) (own_fL (ix := 0) (j := 0) rfl rfl) (fun T X => ?_)
  refine k_arraylength C X d_jdk_42_method_54_code_4 rfl (ix := 1) rfl (z := (2)) rfl ?_
  refine k_aloadN C X d_jdk_42_method_54_code_5 rfl rfl rfl ?_
  refine k_virtual C X d_jdk_42_method_54_code_6 rfl (hw _ (List.mem_of_getElem? (i := 55) rfl)) (hw _ (List.mem_of_getElem? (i := 56) rfl)) (hw _ (List.mem_of_getElem? (i := 3) rfl)) (hw _ (List.mem_of_getElem? (i := 59) rfl)) (hw _ (List.mem_of_getElem? (i := 58) rfl)) (hw _ (List.mem_of_getElem? (i := 57) rfl)) (by decide) (own_nf C.2.2.2.1 (hw _ (List.mem_of_getElem? (i := 58) rfl))) (own_eL (ix := 0) rfl) (own_coder1 l Z a0 hw sa_ qb_ cs fm hS hcs hAD hHI hLO hFM hfc ((qb_, own_ar Z .byte [(.int e0_), (.int e1_)]) :: L)) (W := 1) (argsL := []) (rest := [(.int (2))]) rfl rfl rfl own_pd2 rfl (Nat.le_of_eq rfl) (by decide) (by decide) (by decide) (by decide) (fun v T M hQ X => ?_)
  obtain ⟨rfl, rfl⟩ := hQ
  refine k_ishr C X d_jdk_42_method_54_code_9 rfl ?_
  exact k_ireturn C X d_jdk_42_method_54_code_10 (by simp) rfl ⟨rfl, rfl⟩ (by decide) (by decide)
theorem d_jdk_42_method_154_code_0 : decode jdk_42_method_154_code 0 = .ok (.getstatic 38, 3) := by decide +kernel
theorem d_jdk_42_method_154_code_3 : decode jdk_42_method_154_code 3 = .ok (.ifCond .eq 14, 3) := by decide +kernel
theorem d_jdk_42_method_154_code_6 : decode jdk_42_method_154_code 6 = .ok (.aload_n 0, 1) := by decide +kernel
theorem d_jdk_42_method_154_code_7 : decode jdk_42_method_154_code 7 = .ok (.getfield 15, 3) := by decide +kernel
theorem d_jdk_42_method_154_code_10 : decode jdk_42_method_154_code 10 = .ok (.ifCond .ne 7, 3) := by decide +kernel
theorem d_jdk_42_method_154_code_17 : decode jdk_42_method_154_code 17 = .ok (.iconst 0, 1) := by decide +kernel
theorem d_jdk_42_method_154_code_18 : decode jdk_42_method_154_code 18 = .ok (.ireturn, 1) := by decide +kernel
def rm_own_isl1 : Room := { frames := 0, cells := 0, slots := 0, locals := 0 }
set_option maxRecDepth 65536 in
set_option maxHeartbeats 40000000 in
theorem own_isl1 (l : Launch) (Z : State) (a0 : Array Value) (hw : ∀ d ∈ tables_1, d.before a0 Z = true) (sa_ : Addr) (qb_ : Addr) (cs : Int32) (fm : Value) (hS : Sta Z Z.heap "java/lang/String" "COMPACT_STRINGS" "Z" (.int cs)) (hcs : ¬ cs = 0) (hAD : Sta Z Z.heap "java/lang/StringUTF16" "$assertionsDisabled" "Z" (.int 1)) (hHI : Sta Z Z.heap "java/lang/StringUTF16" "HI_BYTE_SHIFT" "I" (.int 0)) (hLO : Sta Z Z.heap "java/lang/StringUTF16" "LO_BYTE_SHIFT" "I" (.int 8)) (hFM : Sta Z Z.heap "jdk/internal/util/Preconditions" "SIOOBE_FORMATTER" "Ljava/util/function/BiFunction;" fm) (hfc : fm.category = 1) (L : List (Addr × (Cell → Prop))) :
    own_Con l Z (⟨"java/lang/String", "isLatin1", "()Z"⟩ : MethodName) jdk_42_method_154_code 1 (some .boolean) rm_own_isl1 #[(.ref sa_)] ((sa_, own_ob Z "java/lang/String" [("value", "[B", (.ref qb_)), ("coder", "B", (.int (1)))]) :: L) (fun v M => v = some (.int (0)) ∧ M = (sa_, own_ob Z "java/lang/String" [("value", "[B", (.ref qb_)), ("coder", "B", (.int (1)))]) :: L) := by
  refine own_con (ls := #[.val (.ref sa_)]) (plainFor_of_name own_pn0) (fun m => own_ent m rfl) ?_
  intro p e s m below meth c T C X
  refine k_getstatic C X d_jdk_42_method_154_code_0 rfl (hw _ (List.mem_of_getElem? (i := 60) rfl)) hS (fun T X => ?_)
  refine k_if_eq C X d_jdk_42_method_154_code_3 rfl (tpc := 17) rfl (fun hc => (hcs hc : False).elim) (fun _ => ?_)
  refine k_aloadN C X d_jdk_42_method_154_code_6 rfl rfl rfl ?_
  refine k_getfield C X d_jdk_42_method_154_code_7 rfl (host := "") (Or.inl (hw _ (List.mem_of_getElem? (i := 22) rfl))) (own_fL (ix := 0) (j := 1) rfl rfl) (fun T X => ?_)
  refine k_if_ne C X d_jdk_42_method_154_code_10 rfl (tpc := 17) rfl (fun _ => ?_) (fun hc => (absurd hc (by decide) : False).elim)
  refine k_iconst C X d_jdk_42_method_154_code_17 rfl (v := 0) rfl ?_
  exact k_ireturn C X d_jdk_42_method_154_code_18 (by simp) rfl ⟨rfl, rfl⟩ (by decide) (by decide)
theorem d_jdk_41_method_11_code_0 : decode jdk_41_method_11_code 0 = .ok (.iload_n 0, 1) := by decide +kernel
theorem d_jdk_41_method_11_code_1 : decode jdk_41_method_11_code 1 = .ok (.ifCond .lt 8, 3) := by decide +kernel
theorem d_jdk_41_method_11_code_4 : decode jdk_41_method_11_code 4 = .ok (.iload_n 0, 1) := by decide +kernel
theorem d_jdk_41_method_11_code_5 : decode jdk_41_method_11_code 5 = .ok (.iload_n 1, 1) := by decide +kernel
theorem d_jdk_41_method_11_code_6 : decode jdk_41_method_11_code 6 = .ok (.if_icmp .lt 10, 3) := by decide +kernel
theorem d_jdk_41_method_11_code_16 : decode jdk_41_method_11_code 16 = .ok (.iload_n 0, 1) := by decide +kernel
theorem d_jdk_41_method_11_code_17 : decode jdk_41_method_11_code 17 = .ok (.ireturn, 1) := by decide +kernel
theorem own_pn5 : plainName "jdk/internal/util/Preconditions" = true := by first | (simp [plainName, overriddenIn]; done) | decide +kernel
def rm_own_pci01 : Room := { frames := 0, cells := 0, slots := 0, locals := 0 }
set_option maxRecDepth 65536 in
set_option maxHeartbeats 40000000 in
theorem own_pci01 (l : Launch) (Z : State) (a0 : Array Value) (hw : ∀ d ∈ tables_1, d.before a0 Z = true) (fm_ : Value) (cs : Int32) (fm : Value) (hS : Sta Z Z.heap "java/lang/String" "COMPACT_STRINGS" "Z" (.int cs)) (hcs : ¬ cs = 0) (hAD : Sta Z Z.heap "java/lang/StringUTF16" "$assertionsDisabled" "Z" (.int 1)) (hHI : Sta Z Z.heap "java/lang/StringUTF16" "HI_BYTE_SHIFT" "I" (.int 0)) (hLO : Sta Z Z.heap "java/lang/StringUTF16" "LO_BYTE_SHIFT" "I" (.int 8)) (hFM : Sta Z Z.heap "jdk/internal/util/Preconditions" "SIOOBE_FORMATTER" "Ljava/util/function/BiFunction;" fm) (hfc : fm.category = 1) (hfm_ : fm_.category = 1) (L : List (Addr × (Cell → Prop))) :
    own_Con l Z (⟨"jdk/internal/util/Preconditions", "checkIndex", "(IILjava/util/function/BiFunction;)I"⟩ : MethodName) jdk_41_method_11_code 3 (some .int) rm_own_pci01 #[(.int (0)), (.int (1)), fm_] (L) (fun v M => v = some (.int (0)) ∧ M = L) := by
  refine own_con (ls := #[.val (.int (0)), .val (.int (1)), .val fm_]) (plainFor_of_name own_pn5) (fun m => own_ent m (by rw [own_locs1 (v := (.int (0))) rfl, own_locs1 (v := (.int (1))) rfl, own_locs1 hfm_]; rfl)) ?_
  intro p e s m below meth c T C X
  refine k_iloadN C X d_jdk_41_method_11_code_0 rfl rfl ?_
  refine k_if_lt C X d_jdk_41_method_11_code_1 rfl (tpc := 9) rfl (fun hc => (absurd hc (by decide) : False).elim) (fun _ => ?_)
  refine k_iloadN C X d_jdk_41_method_11_code_4 rfl rfl ?_
  refine k_iloadN C X d_jdk_41_method_11_code_5 rfl rfl ?_
  refine k_icmp_lt C X d_jdk_41_method_11_code_6 rfl (tpc := 16) rfl (fun _ => ?_) (fun hc => (absurd hc (by decide) : False).elim)
  refine k_iloadN C X d_jdk_41_method_11_code_16 rfl rfl ?_
  exact k_ireturn C X d_jdk_41_method_11_code_17 (by simp) rfl ⟨rfl, rfl⟩ (by decide) (by decide)
theorem d_jdk_42_method_155_code_0 : decode jdk_42_method_155_code 0 = .ok (.iload_n 0, 1) := by decide +kernel
theorem d_jdk_42_method_155_code_1 : decode jdk_42_method_155_code 1 = .ok (.iload_n 1, 1) := by decide +kernel
theorem d_jdk_42_method_155_code_2 : decode jdk_42_method_155_code 2 = .ok (.getstatic 1053, 3) := by decide +kernel
theorem d_jdk_42_method_155_code_5 : decode jdk_42_method_155_code 5 = .ok (.invokestatic 1059, 3) := by decide +kernel
theorem own_pd14 : parseMethodDescriptor "(IILjava/util/function/BiFunction;)I" = some ⟨[.int, .int, (.object "java/util/function/BiFunction")], some .int⟩ := by decide +kernel
theorem d_jdk_42_method_155_code_8 : decode jdk_42_method_155_code 8 = .ok (.pop, 1) := by decide +kernel
theorem d_jdk_42_method_155_code_9 : decode jdk_42_method_155_code 9 = .ok (.return_, 1) := by decide +kernel
def rm_own_chk01 : Room := { frames := 1, cells := 0, slots := 0, locals := 14 }
set_option maxRecDepth 65536 in
set_option maxHeartbeats 40000000 in
theorem own_chk01 (l : Launch) (Z : State) (a0 : Array Value) (hw : ∀ d ∈ tables_1, d.before a0 Z = true)  (cs : Int32) (fm : Value) (hS : Sta Z Z.heap "java/lang/String" "COMPACT_STRINGS" "Z" (.int cs)) (hcs : ¬ cs = 0) (hAD : Sta Z Z.heap "java/lang/StringUTF16" "$assertionsDisabled" "Z" (.int 1)) (hHI : Sta Z Z.heap "java/lang/StringUTF16" "HI_BYTE_SHIFT" "I" (.int 0)) (hLO : Sta Z Z.heap "java/lang/StringUTF16" "LO_BYTE_SHIFT" "I" (.int 8)) (hFM : Sta Z Z.heap "jdk/internal/util/Preconditions" "SIOOBE_FORMATTER" "Ljava/util/function/BiFunction;" fm) (hfc : fm.category = 1) (L : List (Addr × (Cell → Prop))) :
    own_Con l Z (⟨"java/lang/String", "checkIndex", "(II)V"⟩ : MethodName) jdk_42_method_155_code 2 none rm_own_chk01 #[(.int (0)), (.int (1))] (L) (fun v M => v = none ∧ M = L) := by
  refine own_con (ls := #[.val (.int (0)), .val (.int (1))]) (plainFor_of_name own_pn0) (fun m => own_ent m rfl) ?_
  intro p e s m below meth c T C X
  refine k_iloadN C X d_jdk_42_method_155_code_0 rfl rfl ?_
  refine k_iloadN C X d_jdk_42_method_155_code_1 rfl rfl ?_
  refine k_getstatic C X d_jdk_42_method_155_code_2 rfl (hw _ (List.mem_of_getElem? (i := 93) rfl)) hFM (fun T X => ?_)
  refine k_static C X d_jdk_42_method_155_code_5 rfl (hw _ (List.mem_of_getElem? (i := 95) rfl)) (hw _ (List.mem_of_getElem? (i := 96) rfl)) (hw _ (List.mem_of_getElem? (i := 94) rfl)) (hw _ (List.mem_of_getElem? (i := 97) rfl)) (by decide) (own_pci01 l Z a0 hw fm cs fm hS hcs hAD hHI hLO hFM hfc hfc (L)) (W := 0) (argsL := [(.int (0)), (.int (1)), fm]) (rest := []) rfl rfl rfl own_pd14 rfl (Nat.le_of_eq rfl) (by decide) (by decide) (by decide) (by decide) (fun v T M hQ X => ?_)
  obtain ⟨rfl, hM_⟩ := hQ
  replace hM_ := hM_.symm
  subst hM_
  refine k_pop C X d_jdk_42_method_155_code_8 rfl rfl ?_
  exact k_return C X d_jdk_42_method_155_code_9 ⟨rfl, rfl⟩ (by decide) (by decide)
theorem d_jdk_43_method_2_code_0 : decode jdk_43_method_2_code 0 = .ok (.iload_n 1, 1) := by decide +kernel
theorem d_jdk_43_method_2_code_1 : decode jdk_43_method_2_code 1 = .ok (.aload_n 0, 1) := by decide +kernel
theorem d_jdk_43_method_2_code_2 : decode jdk_43_method_2_code 2 = .ok (.arraylength, 1) := by decide +kernel
theorem d_jdk_43_method_2_code_3 : decode jdk_43_method_2_code 3 = .ok (.invokestatic 9, 3) := by decide +kernel
theorem own_pd15 : parseMethodDescriptor "(II)V" = some ⟨[.int, .int], none⟩ := by decide +kernel
theorem d_jdk_43_method_2_code_6 : decode jdk_43_method_2_code 6 = .ok (.aload_n 0, 1) := by decide +kernel
theorem d_jdk_43_method_2_code_7 : decode jdk_43_method_2_code 7 = .ok (.iload_n 1, 1) := by decide +kernel
theorem d_jdk_43_method_2_code_8 : decode jdk_43_method_2_code 8 = .ok (.baload, 1) := by decide +kernel
theorem d_jdk_43_method_2_code_9 : decode jdk_43_method_2_code 9 = .ok (.sipush 255, 3) := by decide +kernel
theorem d_jdk_43_method_2_code_12 : decode jdk_43_method_2_code 12 = .ok (.iand, 1) := by decide +kernel
theorem d_jdk_43_method_2_code_13 : decode jdk_43_method_2_code 13 = .ok (.i2c, 1) := by decide +kernel
theorem d_jdk_43_method_2_code_14 : decode jdk_43_method_2_code 14 = .ok (.ireturn, 1) := by decide +kernel
def rm_own_lca10 : Room := { frames := 2, cells := 0, slots := 0, locals := 27 }
set_option maxRecDepth 65536 in
set_option maxHeartbeats 40000000 in
theorem own_lca10 (l : Launch) (Z : State) (a0 : Array Value) (hw : ∀ d ∈ tables_1, d.before a0 Z = true) (qb_ : Addr) (e0_ : Int32) (cs : Int32) (fm : Value) (hS : Sta Z Z.heap "java/lang/String" "COMPACT_STRINGS" "Z" (.int cs)) (hcs : ¬ cs = 0) (hAD : Sta Z Z.heap "java/lang/StringUTF16" "$assertionsDisabled" "Z" (.int 1)) (hHI : Sta Z Z.heap "java/lang/StringUTF16" "HI_BYTE_SHIFT" "I" (.int 0)) (hLO : Sta Z Z.heap "java/lang/StringUTF16" "LO_BYTE_SHIFT" "I" (.int 8)) (hFM : Sta Z Z.heap "jdk/internal/util/Preconditions" "SIOOBE_FORMATTER" "Ljava/util/function/BiFunction;" fm) (hfc : fm.category = 1) (L : List (Addr × (Cell → Prop))) :
    own_Con l Z (⟨"java/lang/StringLatin1", "charAt", "([BI)C"⟩ : MethodName) jdk_43_method_2_code 2 (some .char) rm_own_lca10 #[(.ref qb_), (.int (0))] ((qb_, own_ar Z .byte [(.int e0_)]) :: L) (fun v M => v = some (.int ((e0_ &&& (255)).toUInt32.toUInt16.toUInt32.toInt32)) ∧ M = (qb_, own_ar Z .byte [(.int e0_)]) :: L) := by
  refine own_con (ls := #[.val (.ref qb_), .val (.int (0))]) (plainFor_of_name own_pn1) (fun m => own_ent m rfl) ?_
  intro p e s m below meth c T C X
  refine k_iloadN C X d_jdk_43_method_2_code_0 rfl rfl ?_
  refine k_aloadN C X d_jdk_43_method_2_code_1 rfl rfl rfl ?_
  refine k_arraylength C X d_jdk_43_method_2_code_2 rfl (ix := 0) rfl (z := (1)) rfl ?_
  refine k_static C X d_jdk_43_method_2_code_3 rfl (hw _ (List.mem_of_getElem? (i := 90) rfl)) (hw _ (List.mem_of_getElem? (i := 91) rfl)) (hw _ (List.mem_of_getElem? (i := 3) rfl)) (hw _ (List.mem_of_getElem? (i := 92) rfl)) (by decide) (own_chk01 l Z a0 hw cs fm hS hcs hAD hHI hLO hFM hfc ((qb_, own_ar Z .byte [(.int e0_)]) :: L)) (W := 0) (argsL := [(.int (0)), (.int (1))]) (rest := []) rfl rfl rfl own_pd15 rfl (Nat.le_of_eq rfl) (by decide) (by decide) (by decide) (by decide) (fun v T M hQ X => ?_)
  obtain ⟨rfl, rfl⟩ := hQ
  refine k_aloadN C X d_jdk_43_method_2_code_6 rfl rfl rfl ?_
  refine k_iloadN C X d_jdk_43_method_2_code_7 rfl rfl ?_
  refine k_baload C X d_jdk_43_method_2_code_8 rfl (ix := 0) (i := 0) rfl (by decide) (by decide) rfl ?_
  refine k_sipush C X d_jdk_43_method_2_code_9 rfl (v := 255) rfl ?_
  refine k_iand C X d_jdk_43_method_2_code_12 rfl ?_
  refine k_i2c C X d_jdk_43_method_2_code_13 rfl ?_
  exact k_ireturn C X d_jdk_43_method_2_code_14 (by simp) (own_nch _) ⟨rfl, rfl⟩ (by decide) (by decide)
theorem d_jdk_52_method_6_code_0 : decode jdk_52_method_6_code 0 = .ok (.aload_n 0, 1) := by decide +kernel
theorem d_jdk_52_method_6_code_1 : decode jdk_52_method_6_code 1 = .ok (.arraylength, 1) := by decide +kernel
theorem d_jdk_52_method_6_code_2 : decode jdk_52_method_6_code 2 = .ok (.iconst 1, 1) := by decide +kernel
theorem d_jdk_52_method_6_code_3 : decode jdk_52_method_6_code 3 = .ok (.ishr, 1) := by decide +kernel
theorem d_jdk_52_method_6_code_4 : decode jdk_52_method_6_code 4 = .ok (.ireturn, 1) := by decide +kernel
def rm_own_ulen1 : Room := { frames := 0, cells := 0, slots := 0, locals := 0 }
set_option maxRecDepth 65536 in
set_option maxHeartbeats 40000000 in
theorem own_ulen1 (l : Launch) (Z : State) (a0 : Array Value) (hw : ∀ d ∈ tables_1, d.before a0 Z = true) (qb_ : Addr) (e0_ : Int32) (e1_ : Int32) (cs : Int32) (fm : Value) (hS : Sta Z Z.heap "java/lang/String" "COMPACT_STRINGS" "Z" (.int cs)) (hcs : ¬ cs = 0) (hAD : Sta Z Z.heap "java/lang/StringUTF16" "$assertionsDisabled" "Z" (.int 1)) (hHI : Sta Z Z.heap "java/lang/StringUTF16" "HI_BYTE_SHIFT" "I" (.int 0)) (hLO : Sta Z Z.heap "java/lang/StringUTF16" "LO_BYTE_SHIFT" "I" (.int 8)) (hFM : Sta Z Z.heap "jdk/internal/util/Preconditions" "SIOOBE_FORMATTER" "Ljava/util/function/BiFunction;" fm) (hfc : fm.category = 1) (L : List (Addr × (Cell → Prop))) :
    own_Con l Z (⟨"java/lang/StringUTF16", "length", "([B)I"⟩ : MethodName) jdk_52_method_6_code 1 (some .int) rm_own_ulen1 #[(.ref qb_)] ((qb_, own_ar Z .byte [(.int e0_), (.int e1_)]) :: L) (fun v M => v = some (.int (1)) ∧ M = (qb_, own_ar Z .byte [(.int e0_), (.int e1_)]) :: L) := by
  refine own_con (ls := #[.val (.ref qb_)]) (plainFor_of_name own_pn2) (fun m => own_ent m rfl) ?_
  intro p e s m below meth c T C X
  refine k_aloadN C X d_jdk_52_method_6_code_0 rfl rfl rfl ?_
  refine k_arraylength C X d_jdk_52_method_6_code_1 rfl (ix := 0) rfl (z := (2)) rfl ?_
  refine k_iconst C X d_jdk_52_method_6_code_2 rfl (v := 1) rfl ?_
  refine k_ishr C X d_jdk_52_method_6_code_3 rfl ?_
  exact k_ireturn C X d_jdk_52_method_6_code_4 (by simp) rfl ⟨rfl, rfl⟩ (by decide) (by decide)
theorem d_jdk_52_method_91_code_0 : decode jdk_52_method_91_code 0 = .ok (.iload_n 0, 1) := by decide +kernel
theorem d_jdk_52_method_91_code_1 : decode jdk_52_method_91_code 1 = .ok (.aload_n 1, 1) := by decide +kernel
theorem d_jdk_52_method_91_code_2 : decode jdk_52_method_91_code 2 = .ok (.invokestatic 48, 3) := by decide +kernel
theorem own_pd16 : parseMethodDescriptor "([B)I" = some ⟨[(.array .byte)], some .int⟩ := by decide +kernel
theorem d_jdk_52_method_91_code_5 : decode jdk_52_method_91_code 5 = .ok (.invokestatic 414, 3) := by decide +kernel
theorem d_jdk_52_method_91_code_8 : decode jdk_52_method_91_code 8 = .ok (.return_, 1) := by decide +kernel
def rm_own_uchk10 : Room := { frames := 2, cells := 0, slots := 0, locals := 27 }
set_option maxRecDepth 65536 in
set_option maxHeartbeats 40000000 in
theorem own_uchk10 (l : Launch) (Z : State) (a0 : Array Value) (hw : ∀ d ∈ tables_1, d.before a0 Z = true) (qb_ : Addr) (e0_ : Int32) (e1_ : Int32) (cs : Int32) (fm : Value) (hS : Sta Z Z.heap "java/lang/String" "COMPACT_STRINGS" "Z" (.int cs)) (hcs : ¬ cs = 0) (hAD : Sta Z Z.heap "java/lang/StringUTF16" "$assertionsDisabled" "Z" (.int 1)) (hHI : Sta Z Z.heap "java/lang/StringUTF16" "HI_BYTE_SHIFT" "I" (.int 0)) (hLO : Sta Z Z.heap "java/lang/StringUTF16" "LO_BYTE_SHIFT" "I" (.int 8)) (hFM : Sta Z Z.heap "jdk/internal/util/Preconditions" "SIOOBE_FORMATTER" "Ljava/util/function/BiFunction;" fm) (hfc : fm.category = 1) (L : List (Addr × (Cell → Prop))) :
    own_Con l Z (⟨"java/lang/StringUTF16", "checkIndex", "(I[B)V"⟩ : MethodName) jdk_52_method_91_code 2 none rm_own_uchk10 #[(.int (0)), (.ref qb_)] ((qb_, own_ar Z .byte [(.int e0_), (.int e1_)]) :: L) (fun v M => v = none ∧ M = (qb_, own_ar Z .byte [(.int e0_), (.int e1_)]) :: L) := by
  refine own_con (ls := #[.val (.int (0)), .val (.ref qb_)]) (plainFor_of_name own_pn2) (fun m => own_ent m rfl) ?_
  intro p e s m below meth c T C X
  refine k_iloadN C X d_jdk_52_method_91_code_0 rfl rfl ?_
  refine k_aloadN C X d_jdk_52_method_91_code_1 rfl rfl rfl ?_
  refine k_static C X d_jdk_52_method_91_code_2 rfl (hw _ (List.mem_of_getElem? (i := 123) rfl)) (hw _ (List.mem_of_getElem? (i := 124) rfl)) (hw _ (List.mem_of_getElem? (i := 68) rfl)) (hw _ (List.mem_of_getElem? (i := 125) rfl)) (by decide) (own_ulen1 l Z a0 hw qb_ e0_ e1_ cs fm hS hcs hAD hHI hLO hFM hfc (L)) (W := 1) (argsL := [(.ref qb_)]) (rest := [(.int (0))]) rfl rfl rfl own_pd16 rfl (Nat.le_of_eq rfl) (by decide) (by decide) (by decide) (by decide) (fun v T M hQ X => ?_)
  obtain ⟨rfl, rfl⟩ := hQ
  refine k_static C X d_jdk_52_method_91_code_5 rfl (hw _ (List.mem_of_getElem? (i := 126) rfl)) (hw _ (List.mem_of_getElem? (i := 91) rfl)) (hw _ (List.mem_of_getElem? (i := 3) rfl)) (hw _ (List.mem_of_getElem? (i := 92) rfl)) (by decide) (own_chk01 l Z a0 hw cs fm hS hcs hAD hHI hLO hFM hfc ((qb_, own_ar Z .byte [(.int e0_), (.int e1_)]) :: L)) (W := 0) (argsL := [(.int (0)), (.int (1))]) (rest := []) rfl rfl rfl own_pd15 rfl (Nat.le_of_eq rfl) (by decide) (by decide) (by decide) (by decide) (fun v T M hQ X => ?_)
  obtain ⟨rfl, rfl⟩ := hQ
  exact k_return C X d_jdk_52_method_91_code_8 ⟨rfl, rfl⟩ (by decide) (by decide)
theorem d_jdk_52_method_5_code_0 : decode jdk_52_method_5_code 0 = .ok (.getstatic 44, 3) := by decide +kernel
theorem d_jdk_52_method_5_code_3 : decode jdk_52_method_5_code 3 = .ok (.ifCond .ne 25, 3) := by decide +kernel
theorem d_jdk_52_method_5_code_28 : decode jdk_52_method_5_code 28 = .ok (.iload_n 1, 1) := by decide +kernel
theorem d_jdk_52_method_5_code_29 : decode jdk_52_method_5_code 29 = .ok (.iconst 1, 1) := by decide +kernel
theorem d_jdk_52_method_5_code_30 : decode jdk_52_method_5_code 30 = .ok (.ishl, 1) := by decide +kernel
theorem d_jdk_52_method_5_code_31 : decode jdk_52_method_5_code 31 = .ok (.istore_n 1, 1) := by decide +kernel
theorem d_jdk_52_method_5_code_32 : decode jdk_52_method_5_code 32 = .ok (.aload_n 0, 1) := by decide +kernel
theorem d_jdk_52_method_5_code_33 : decode jdk_52_method_5_code 33 = .ok (.iload_n 1, 1) := by decide +kernel
theorem d_jdk_52_method_5_code_34 : decode jdk_52_method_5_code 34 = .ok (.iinc 1 1, 3) := by decide +kernel
theorem d_jdk_52_method_5_code_37 : decode jdk_52_method_5_code 37 = .ok (.baload, 1) := by decide +kernel
theorem d_jdk_52_method_5_code_38 : decode jdk_52_method_5_code 38 = .ok (.sipush 255, 3) := by decide +kernel
theorem d_jdk_52_method_5_code_41 : decode jdk_52_method_5_code 41 = .ok (.iand, 1) := by decide +kernel
theorem d_jdk_52_method_5_code_42 : decode jdk_52_method_5_code 42 = .ok (.getstatic 59, 3) := by decide +kernel
theorem d_jdk_52_method_5_code_45 : decode jdk_52_method_5_code 45 = .ok (.ishl, 1) := by decide +kernel
theorem d_jdk_52_method_5_code_46 : decode jdk_52_method_5_code 46 = .ok (.aload_n 0, 1) := by decide +kernel
theorem d_jdk_52_method_5_code_47 : decode jdk_52_method_5_code 47 = .ok (.iload_n 1, 1) := by decide +kernel
theorem d_jdk_52_method_5_code_48 : decode jdk_52_method_5_code 48 = .ok (.baload, 1) := by decide +kernel
theorem d_jdk_52_method_5_code_49 : decode jdk_52_method_5_code 49 = .ok (.sipush 255, 3) := by decide +kernel
theorem d_jdk_52_method_5_code_52 : decode jdk_52_method_5_code 52 = .ok (.iand, 1) := by decide +kernel
theorem d_jdk_52_method_5_code_53 : decode jdk_52_method_5_code 53 = .ok (.getstatic 63, 3) := by decide +kernel
theorem d_jdk_52_method_5_code_56 : decode jdk_52_method_5_code 56 = .ok (.ishl, 1) := by decide +kernel
theorem d_jdk_52_method_5_code_57 : decode jdk_52_method_5_code 57 = .ok (.ior, 1) := by decide +kernel
theorem d_jdk_52_method_5_code_58 : decode jdk_52_method_5_code 58 = .ok (.i2c, 1) := by decide +kernel
theorem d_jdk_52_method_5_code_59 : decode jdk_52_method_5_code 59 = .ok (.ireturn, 1) := by decide +kernel
def rm_own_get10 : Room := { frames := 0, cells := 0, slots := 0, locals := 0 }
set_option maxRecDepth 65536 in
set_option maxHeartbeats 40000000 in
theorem own_get10 (l : Launch) (Z : State) (a0 : Array Value) (hw : ∀ d ∈ tables_1, d.before a0 Z = true) (qb_ : Addr) (e0_ : Int32) (e1_ : Int32) (cs : Int32) (fm : Value) (hS : Sta Z Z.heap "java/lang/String" "COMPACT_STRINGS" "Z" (.int cs)) (hcs : ¬ cs = 0) (hAD : Sta Z Z.heap "java/lang/StringUTF16" "$assertionsDisabled" "Z" (.int 1)) (hHI : Sta Z Z.heap "java/lang/StringUTF16" "HI_BYTE_SHIFT" "I" (.int 0)) (hLO : Sta Z Z.heap "java/lang/StringUTF16" "LO_BYTE_SHIFT" "I" (.int 8)) (hFM : Sta Z Z.heap "jdk/internal/util/Preconditions" "SIOOBE_FORMATTER" "Ljava/util/function/BiFunction;" fm) (hfc : fm.category = 1) (L : List (Addr × (Cell → Prop))) :
    own_Con l Z (⟨"java/lang/StringUTF16", "getChar", "([BI)C"⟩ : MethodName) jdk_52_method_5_code 2 (some .char) rm_own_get10 #[(.ref qb_), (.int (0))] ((qb_, own_ar Z .byte [(.int e0_), (.int e1_)]) :: L) (fun v M => v = some (.int ((((e0_ &&& (255)) <<< ((0) &&& 31 : Int32) : Int32) ||| ((e1_ &&& (255)) <<< ((8) &&& 31 : Int32) : Int32)).toUInt32.toUInt16.toUInt32.toInt32)) ∧ M = (qb_, own_ar Z .byte [(.int e0_), (.int e1_)]) :: L) := by
  refine own_con (ls := #[.val (.ref qb_), .val (.int (0))]) (plainFor_of_name own_pn2) (fun m => own_ent m rfl) ?_
  intro p e s m below meth c T C X
  refine k_getstatic C X d_jdk_52_method_5_code_0 rfl (hw _ (List.mem_of_getElem? (i := 111) rfl)) hAD (fun T X => ?_)
  refine k_if_ne C X d_jdk_52_method_5_code_3 rfl (tpc := 28) rfl (fun _ => ?_) (fun hc => (absurd hc (by decide) : False).elim)
  refine k_iloadN C X d_jdk_52_method_5_code_28 rfl rfl ?_
  refine k_iconst C X d_jdk_52_method_5_code_29 rfl (v := 1) rfl ?_
  refine k_ishl C X d_jdk_52_method_5_code_30 rfl ?_
  refine k_istoreN C X d_jdk_52_method_5_code_31 rfl (l' := #[.val (.ref qb_), .val (.int (0))]) rfl ?_
  refine k_aloadN C X d_jdk_52_method_5_code_32 rfl rfl rfl ?_
  refine k_iloadN C X d_jdk_52_method_5_code_33 rfl rfl ?_
  refine k_iinc C X d_jdk_52_method_5_code_34 rfl (v := 1) rfl rfl (l' := #[.val (.ref qb_), .val (.int (1))]) rfl ?_
  refine k_baload C X d_jdk_52_method_5_code_37 rfl (ix := 0) (i := 0) rfl (by decide) (by decide) rfl ?_
  refine k_sipush C X d_jdk_52_method_5_code_38 rfl (v := 255) rfl ?_
  refine k_iand C X d_jdk_52_method_5_code_41 rfl ?_
  refine k_getstatic C X d_jdk_52_method_5_code_42 rfl (hw _ (List.mem_of_getElem? (i := 112) rfl)) hHI (fun T X => ?_)
  refine k_ishl C X d_jdk_52_method_5_code_45 rfl ?_
  refine k_aloadN C X d_jdk_52_method_5_code_46 rfl rfl rfl ?_
  refine k_iloadN C X d_jdk_52_method_5_code_47 rfl rfl ?_
  refine k_baload C X d_jdk_52_method_5_code_48 rfl (ix := 0) (i := 1) rfl (by decide) (by decide) rfl ?_
  refine k_sipush C X d_jdk_52_method_5_code_49 rfl (v := 255) rfl ?_
  refine k_iand C X d_jdk_52_method_5_code_52 rfl ?_
  refine k_getstatic C X d_jdk_52_method_5_code_53 rfl (hw _ (List.mem_of_getElem? (i := 113) rfl)) hLO (fun T X => ?_)
  refine k_ishl C X d_jdk_52_method_5_code_56 rfl ?_
  refine k_ior C X d_jdk_52_method_5_code_57 rfl ?_
  refine k_i2c C X d_jdk_52_method_5_code_58 rfl ?_
  exact k_ireturn C X d_jdk_52_method_5_code_59 (by simp) (own_nch _) ⟨rfl, rfl⟩ (by decide) (by decide)
theorem d_jdk_52_method_83_code_0 : decode jdk_52_method_83_code 0 = .ok (.iload_n 1, 1) := by decide +kernel
theorem d_jdk_52_method_83_code_1 : decode jdk_52_method_83_code 1 = .ok (.aload_n 0, 1) := by decide +kernel
theorem d_jdk_52_method_83_code_2 : decode jdk_52_method_83_code 2 = .ok (.invokestatic 67, 3) := by decide +kernel
theorem own_pd17 : parseMethodDescriptor "(I[B)V" = some ⟨[.int, (.array .byte)], none⟩ := by decide +kernel
theorem d_jdk_52_method_83_code_5 : decode jdk_52_method_83_code 5 = .ok (.aload_n 0, 1) := by decide +kernel
theorem d_jdk_52_method_83_code_6 : decode jdk_52_method_83_code 6 = .ok (.iload_n 1, 1) := by decide +kernel
theorem d_jdk_52_method_83_code_7 : decode jdk_52_method_83_code 7 = .ok (.invokestatic 71, 3) := by decide +kernel
theorem own_pd18 : parseMethodDescriptor "([BI)C" = some ⟨[(.array .byte), .int], some .char⟩ := by decide +kernel
theorem d_jdk_52_method_83_code_10 : decode jdk_52_method_83_code 10 = .ok (.ireturn, 1) := by decide +kernel
def rm_own_uca10 : Room := { frames := 3, cells := 0, slots := 0, locals := 40 }
set_option maxRecDepth 65536 in
set_option maxHeartbeats 40000000 in
theorem own_uca10 (l : Launch) (Z : State) (a0 : Array Value) (hw : ∀ d ∈ tables_1, d.before a0 Z = true) (qb_ : Addr) (e0_ : Int32) (e1_ : Int32) (cs : Int32) (fm : Value) (hS : Sta Z Z.heap "java/lang/String" "COMPACT_STRINGS" "Z" (.int cs)) (hcs : ¬ cs = 0) (hAD : Sta Z Z.heap "java/lang/StringUTF16" "$assertionsDisabled" "Z" (.int 1)) (hHI : Sta Z Z.heap "java/lang/StringUTF16" "HI_BYTE_SHIFT" "I" (.int 0)) (hLO : Sta Z Z.heap "java/lang/StringUTF16" "LO_BYTE_SHIFT" "I" (.int 8)) (hFM : Sta Z Z.heap "jdk/internal/util/Preconditions" "SIOOBE_FORMATTER" "Ljava/util/function/BiFunction;" fm) (hfc : fm.category = 1) (L : List (Addr × (Cell → Prop))) :
    own_Con l Z (⟨"java/lang/StringUTF16", "charAt", "([BI)C"⟩ : MethodName) jdk_52_method_83_code 2 (some .char) rm_own_uca10 #[(.ref qb_), (.int (0))] ((qb_, own_ar Z .byte [(.int e0_), (.int e1_)]) :: L) (fun v M => v = some (.int ((((e0_ &&& (255)) <<< ((0) &&& 31 : Int32) : Int32) ||| ((e1_ &&& (255)) <<< ((8) &&& 31 : Int32) : Int32)).toUInt32.toUInt16.toUInt32.toInt32)) ∧ M = (qb_, own_ar Z .byte [(.int e0_), (.int e1_)]) :: L) := by
  refine own_con (ls := #[.val (.ref qb_), .val (.int (0))]) (plainFor_of_name own_pn2) (fun m => own_ent m rfl) ?_
  intro p e s m below meth c T C X
  refine k_iloadN C X d_jdk_52_method_83_code_0 rfl rfl ?_
  refine k_aloadN C X d_jdk_52_method_83_code_1 rfl rfl rfl ?_
  refine k_static C X d_jdk_52_method_83_code_2 rfl (hw _ (List.mem_of_getElem? (i := 120) rfl)) (hw _ (List.mem_of_getElem? (i := 121) rfl)) (hw _ (List.mem_of_getElem? (i := 68) rfl)) (hw _ (List.mem_of_getElem? (i := 122) rfl)) (by decide) (own_uchk10 l Z a0 hw qb_ e0_ e1_ cs fm hS hcs hAD hHI hLO hFM hfc (L)) (W := 0) (argsL := [(.int (0)), (.ref qb_)]) (rest := []) rfl rfl rfl own_pd17 rfl (Nat.le_of_eq rfl) (by decide) (by decide) (by decide) (by decide) (fun v T M hQ X => ?_)
  obtain ⟨rfl, rfl⟩ := hQ
  refine k_aloadN C X d_jdk_52_method_83_code_5 rfl rfl rfl ?_
  refine k_iloadN C X d_jdk_52_method_83_code_6 rfl rfl ?_
  refine k_static C X d_jdk_52_method_83_code_7 rfl (hw _ (List.mem_of_getElem? (i := 114) rfl)) (hw _ (List.mem_of_getElem? (i := 115) rfl)) (hw _ (List.mem_of_getElem? (i := 68) rfl)) (hw _ (List.mem_of_getElem? (i := 116) rfl)) (by decide) (own_get10 l Z a0 hw qb_ e0_ e1_ cs fm hS hcs hAD hHI hLO hFM hfc (L)) (W := 0) (argsL := [(.ref qb_), (.int (0))]) (rest := []) rfl rfl rfl own_pd18 rfl (Nat.le_of_eq rfl) (by decide) (by decide) (by decide) (by decide) (fun v T M hQ X => ?_)
  obtain ⟨rfl, rfl⟩ := hQ
  exact k_ireturn C X d_jdk_52_method_83_code_10 (by simp) (own_nch _) ⟨rfl, rfl⟩ (by decide) (by decide)
theorem d_jdk_42_method_56_code_0 : decode jdk_42_method_56_code 0 = .ok (.aload_n 0, 1) := by decide +kernel
theorem d_jdk_42_method_56_code_1 : decode jdk_42_method_56_code 1 = .ok (.invokevirtual 492, 3) := by decide +kernel
theorem own_pd19 : parseMethodDescriptor "()Z" = some ⟨[], some .boolean⟩ := by decide +kernel
theorem d_jdk_42_method_56_code_4 : decode jdk_42_method_56_code 4 = .ok (.ifCond .eq 12, 3) := by decide +kernel
theorem d_jdk_42_method_56_code_16 : decode jdk_42_method_56_code 16 = .ok (.aload_n 0, 1) := by decide +kernel
theorem d_jdk_42_method_56_code_17 : decode jdk_42_method_56_code 17 = .ok (.getfield 9, 3) := by decide +kernel
theorem d_jdk_42_method_56_code_20 : decode jdk_42_method_56_code 20 = .ok (.iload_n 1, 1) := by decide +kernel
theorem d_jdk_42_method_56_code_21 : decode jdk_42_method_56_code 21 = .ok (.invokestatic 498, 3) := by decide +kernel
theorem d_jdk_42_method_56_code_24 : decode jdk_42_method_56_code 24 = .ok (.ireturn, 1) := by decide +kernel
def rm_own_cha110 : Room := { frames := 4, cells := 0, slots := 0, locals := 53 }
set_option maxRecDepth 65536 in
set_option maxHeartbeats 40000000 in
theorem own_cha110 (l : Launch) (Z : State) (a0 : Array Value) (hw : ∀ d ∈ tables_1, d.before a0 Z = true) (sa_ : Addr) (qb_ : Addr) (e0_ : Int32) (e1_ : Int32) (cs : Int32) (fm : Value) (hS : Sta Z Z.heap "java/lang/String" "COMPACT_STRINGS" "Z" (.int cs)) (hcs : ¬ cs = 0) (hAD : Sta Z Z.heap "java/lang/StringUTF16" "$assertionsDisabled" "Z" (.int 1)) (hHI : Sta Z Z.heap "java/lang/StringUTF16" "HI_BYTE_SHIFT" "I" (.int 0)) (hLO : Sta Z Z.heap "java/lang/StringUTF16" "LO_BYTE_SHIFT" "I" (.int 8)) (hFM : Sta Z Z.heap "jdk/internal/util/Preconditions" "SIOOBE_FORMATTER" "Ljava/util/function/BiFunction;" fm) (hfc : fm.category = 1) (L : List (Addr × (Cell → Prop))) :
    own_Con l Z (⟨"java/lang/String", "charAt", "(I)C"⟩ : MethodName) jdk_42_method_56_code 2 (some .char) rm_own_cha110 #[(.ref sa_), (.int (0))] ((sa_, own_ob Z "java/lang/String" [("value", "[B", (.ref qb_)), ("coder", "B", (.int (1)))]) :: (qb_, own_ar Z .byte [(.int e0_), (.int e1_)]) :: L) (fun v M => v = some (.int ((((e0_ &&& (255)) <<< ((0) &&& 31 : Int32) : Int32) ||| ((e1_ &&& (255)) <<< ((8) &&& 31 : Int32) : Int32)).toUInt32.toUInt16.toUInt32.toInt32)) ∧ M = (qb_, own_ar Z .byte [(.int e0_), (.int e1_)]) :: (sa_, own_ob Z "java/lang/String" [("value", "[B", (.ref qb_)), ("coder", "B", (.int (1)))]) :: L) := by
  refine own_con (ls := #[.val (.ref sa_), .val (.int (0))]) (plainFor_of_name own_pn0) (fun m => own_ent m rfl) ?_
  intro p e s m below meth c T C X
  refine k_aloadN C X d_jdk_42_method_56_code_0 rfl rfl rfl ?_
  refine k_virtual C X d_jdk_42_method_56_code_1 rfl (hw _ (List.mem_of_getElem? (i := 81) rfl)) (hw _ (List.mem_of_getElem? (i := 82) rfl)) (hw _ (List.mem_of_getElem? (i := 3) rfl)) (hw _ (List.mem_of_getElem? (i := 85) rfl)) (hw _ (List.mem_of_getElem? (i := 84) rfl)) (hw _ (List.mem_of_getElem? (i := 83) rfl)) (by decide) (own_nf C.2.2.2.1 (hw _ (List.mem_of_getElem? (i := 84) rfl))) (own_eL (ix := 0) rfl) (own_isl1 l Z a0 hw sa_ qb_ cs fm hS hcs hAD hHI hLO hFM hfc ((qb_, own_ar Z .byte [(.int e0_), (.int e1_)]) :: L)) (W := 0) (argsL := []) (rest := []) rfl rfl rfl own_pd19 rfl (Nat.le_of_eq rfl) (by decide) (by decide) (by decide) (by decide) (fun v T M hQ X => ?_)
  obtain ⟨rfl, rfl⟩ := hQ
  refine k_if_eq C X d_jdk_42_method_56_code_4 rfl (tpc := 16) rfl (fun _ => ?_) (fun hc => (absurd hc (by decide) : False).elim)
  refine k_aloadN C X d_jdk_42_method_56_code_16 rfl rfl rfl ?_
  refine k_getfield C X d_jdk_42_method_56_code_17 rfl (host := "") (Or.inl (hw _ (List.mem_of_getElem? (i := 21) rfl))) (own_fL (ix := 0) (j := 0) rfl rfl) (fun T X => ?_)
  refine k_iloadN C X d_jdk_42_method_56_code_20 rfl rfl ?_
  replace X := X.bring (i := 1) rfl (M := (qb_, own_ar Z .byte [(.int e0_), (.int e1_)]) :: (sa_, own_ob Z "java/lang/String" [("value", "[B", (.ref qb_)), ("coder", "B", (.int (1)))]) :: L) rfl
  refine k_static C X d_jdk_42_method_56_code_21 rfl (hw _ (List.mem_of_getElem? (i := 117) rfl)) (hw _ (List.mem_of_getElem? (i := 118) rfl)) (hw _ (List.mem_of_getElem? (i := 68) rfl)) (hw _ (List.mem_of_getElem? (i := 119) rfl)) (by decide) (own_uca10 l Z a0 hw qb_ e0_ e1_ cs fm hS hcs hAD hHI hLO hFM hfc ((sa_, own_ob Z "java/lang/String" [("value", "[B", (.ref qb_)), ("coder", "B", (.int (1)))]) :: L)) (W := 0) (argsL := [(.ref qb_), (.int (0))]) (rest := []) rfl rfl rfl own_pd18 rfl (Nat.le_of_eq rfl) (by decide) (by decide) (by decide) (by decide) (fun v T M hQ X => ?_)
  obtain ⟨rfl, rfl⟩ := hQ
  exact k_ireturn C X d_jdk_42_method_56_code_24 (by simp) (own_nch _) ⟨rfl, rfl⟩ (by decide) (by decide)
theorem own_pd20 : parseMethodDescriptor "(I)C" = some ⟨[.int], some .char⟩ := by decide +kernel
theorem d_jdk_43_method_3_code_7 : decode jdk_43_method_3_code 7 = .ok (.iconst 1, 1) := by decide +kernel
theorem d_jdk_43_method_3_code_8 : decode jdk_43_method_3_code 8 = .ok (.goto 4, 3) := by decide +kernel
def rm_own_can1 : Room := { frames := 0, cells := 0, slots := 0, locals := 0 }
set_option maxRecDepth 65536 in
set_option maxHeartbeats 40000000 in
theorem own_can1 (l : Launch) (Z : State) (a0 : Array Value) (hw : ∀ d ∈ tables_1, d.before a0 Z = true) (d0_ : Int32) (cs : Int32) (fm : Value) (hS : Sta Z Z.heap "java/lang/String" "COMPACT_STRINGS" "Z" (.int cs)) (hcs : ¬ cs = 0) (hAD : Sta Z Z.heap "java/lang/StringUTF16" "$assertionsDisabled" "Z" (.int 1)) (hHI : Sta Z Z.heap "java/lang/StringUTF16" "HI_BYTE_SHIFT" "I" (.int 0)) (hLO : Sta Z Z.heap "java/lang/StringUTF16" "LO_BYTE_SHIFT" "I" (.int 8)) (hFM : Sta Z Z.heap "jdk/internal/util/Preconditions" "SIOOBE_FORMATTER" "Ljava/util/function/BiFunction;" fm) (hfc : fm.category = 1) (g0 : ¬ (255) < d0_) (L : List (Addr × (Cell → Prop))) :
    own_Con l Z (⟨"java/lang/StringLatin1", "canEncode", "(C)Z"⟩ : MethodName) jdk_43_method_3_code 1 (some .boolean) rm_own_can1 #[(.int d0_)] (L) (fun v M => v = some (.int (1)) ∧ M = L) := by
  refine own_con (ls := #[.val (.int d0_)]) (plainFor_of_name own_pn1) (fun m => own_ent m rfl) ?_
  intro p e s m below meth c T C X
  refine k_iloadN C X d_jdk_43_method_3_code_0 rfl rfl ?_
  refine k_sipush C X d_jdk_43_method_3_code_1 rfl (v := 255) rfl ?_
  refine k_icmp_gt C X d_jdk_43_method_3_code_4 rfl (tpc := 11) rfl (fun hc => (g0 hc : False).elim) (fun _ => ?_)
  refine k_iconst C X d_jdk_43_method_3_code_7 rfl (v := 1) rfl ?_
  refine k_goto C X d_jdk_43_method_3_code_8 (tpc := 12) rfl ?_
  exact k_ireturn C X d_jdk_43_method_3_code_12 (by simp) rfl ⟨rfl, rfl⟩ (by decide) (by decide)
def rm_own_ibb0 : Room := { frames := 1, cells := 0, slots := 0, locals := 12 }
set_option maxRecDepth 65536 in
set_option maxHeartbeats 40000000 in
theorem own_ibb0 (l : Launch) (Z : State) (a0 : Array Value) (hw : ∀ d ∈ tables_1, d.before a0 Z = true) (sa_ : Addr) (qb_ : Addr) (cs : Int32) (fm : Value) (hS : Sta Z Z.heap "java/lang/String" "COMPACT_STRINGS" "Z" (.int cs)) (hcs : ¬ cs = 0) (hAD : Sta Z Z.heap "java/lang/StringUTF16" "$assertionsDisabled" "Z" (.int 1)) (hHI : Sta Z Z.heap "java/lang/StringUTF16" "HI_BYTE_SHIFT" "I" (.int 0)) (hLO : Sta Z Z.heap "java/lang/StringUTF16" "LO_BYTE_SHIFT" "I" (.int 8)) (hFM : Sta Z Z.heap "jdk/internal/util/Preconditions" "SIOOBE_FORMATTER" "Ljava/util/function/BiFunction;" fm) (hfc : fm.category = 1) (L : List (Addr × (Cell → Prop))) :
    own_Con l Z (⟨"java/lang/String", "<init>", "([BB)V"⟩ : MethodName) jdk_42_method_151_code 3 none rm_own_ibb0 #[(.ref sa_), (.ref qb_), (.int (0))] ((sa_, own_ob Z "java/lang/String" [("value", "[B", .null), ("coder", "B", (.int (0)))]) :: L) (fun v M => v = none ∧ M = (sa_, own_ob Z "java/lang/String" [("value", "[B", (.ref qb_)), ("coder", "B", (.int (0)))]) :: L) := by
  refine own_con (ls := #[.val (.ref sa_), .val (.ref qb_), .val (.int (0))]) (plainFor_of_name own_pn0) (fun m => own_ent m rfl) ?_
  intro p e s m below meth c T C X
  refine k_aloadN C X d_jdk_42_method_151_code_0 rfl rfl rfl ?_
  refine k_initO C X d_jdk_42_method_151_code_1 rfl (hw _ (List.mem_of_getElem? (i := 12) rfl)) (hw _ (List.mem_of_getElem? (i := 13) rfl)) (hw _ (List.mem_of_getElem? (i := 14) rfl)) rfl (W := 0) (Nat.le_of_eq rfl) (by decide) (by decide) (fun T X => ?_)
  refine k_aloadN C X d_jdk_42_method_151_code_4 rfl rfl rfl ?_
  refine k_aloadN C X d_jdk_42_method_151_code_5 rfl rfl rfl ?_
  refine k_putfield C X d_jdk_42_method_151_code_6 rfl (host := "") (Or.inl (hw _ (List.mem_of_getElem? (i := 21) rfl))) (hw _ (List.mem_of_getElem? (i := 2) rfl)) (Or.inr ⟨(hw _ (List.mem_of_getElem? (i := 17) rfl)), rfl, rfl⟩) (own_lay_String hw) own_lay_String_nd (ix := 0) (j := 0) rfl rfl rfl (fs' := [("value", "[B", (.ref qb_)), ("coder", "B", (.int (0)))]) rfl (ty := (.array .byte)) (by decide) rfl rfl (L' := (sa_, own_ob Z "java/lang/String" [("value", "[B", (.ref qb_)), ("coder", "B", (.int (0)))]) :: L) rfl (fun T X => ?_)
  refine k_aloadN C X d_jdk_42_method_151_code_9 rfl rfl rfl ?_
  refine k_iloadN C X d_jdk_42_method_151_code_10 rfl rfl ?_
  refine k_putfield C X d_jdk_42_method_151_code_11 rfl (host := "") (Or.inl (hw _ (List.mem_of_getElem? (i := 22) rfl))) (hw _ (List.mem_of_getElem? (i := 2) rfl)) (Or.inr ⟨(hw _ (List.mem_of_getElem? (i := 18) rfl)), rfl, rfl⟩) (own_lay_String hw) own_lay_String_nd (ix := 0) (j := 1) rfl rfl rfl (fs' := [("value", "[B", (.ref qb_)), ("coder", "B", (.int (0)))]) rfl (ty := .byte) (by decide) rfl rfl (L' := (sa_, own_ob Z "java/lang/String" [("value", "[B", (.ref qb_)), ("coder", "B", (.int (0)))]) :: L) rfl (fun T X => ?_)
  exact k_return C X d_jdk_42_method_151_code_14 ⟨rfl, rfl⟩ (by decide) (by decide)
theorem d_jdk_42_method_139_code_13 : decode jdk_42_method_139_code 13 = .ok (.new 10, 3) := by decide +kernel
theorem d_jdk_42_method_139_code_16 : decode jdk_42_method_139_code 16 = .ok (.dup, 1) := by decide +kernel
theorem d_jdk_42_method_139_code_17 : decode jdk_42_method_139_code 17 = .ok (.iload_n 0, 1) := by decide +kernel
theorem d_jdk_42_method_139_code_18 : decode jdk_42_method_139_code 18 = .ok (.invokestatic 1018, 3) := by decide +kernel
theorem d_jdk_42_method_139_code_21 : decode jdk_42_method_139_code 21 = .ok (.iconst 0, 1) := by decide +kernel
theorem d_jdk_42_method_139_code_22 : decode jdk_42_method_139_code 22 = .ok (.invokespecial 209, 3) := by decide +kernel
theorem d_jdk_42_method_139_code_25 : decode jdk_42_method_139_code 25 = .ok (.areturn, 1) := by decide +kernel
def rm_own_vof1 : Room := { frames := 2, cells := 2, slots := 5, locals := 27 }
set_option maxRecDepth 65536 in
set_option maxHeartbeats 40000000 in
theorem own_vof1 (l : Launch) (Z : State) (a0 : Array Value) (hw : ∀ d ∈ tables_1, d.before a0 Z = true) (d0_ : Int32) (cs : Int32) (fm : Value) (hS : Sta Z Z.heap "java/lang/String" "COMPACT_STRINGS" "Z" (.int cs)) (hcs : ¬ cs = 0) (hAD : Sta Z Z.heap "java/lang/StringUTF16" "$assertionsDisabled" "Z" (.int 1)) (hHI : Sta Z Z.heap "java/lang/StringUTF16" "HI_BYTE_SHIFT" "I" (.int 0)) (hLO : Sta Z Z.heap "java/lang/StringUTF16" "LO_BYTE_SHIFT" "I" (.int 8)) (hFM : Sta Z Z.heap "jdk/internal/util/Preconditions" "SIOOBE_FORMATTER" "Ljava/util/function/BiFunction;" fm) (hfc : fm.category = 1) (g0 : ¬ (255) < d0_) (L : List (Addr × (Cell → Prop))) :
    own_Con l Z (⟨"java/lang/String", "valueOf", "(C)Ljava/lang/String;"⟩ : MethodName) jdk_42_method_139_code 1 (some (.object "java/lang/String")) rm_own_vof1 #[(.int d0_)] (L) (fun v M => ∃ o13 f1, v = some (.ref o13) ∧ M = (o13, own_ob Z "java/lang/String" [("value", "[B", (.ref f1)), ("coder", "B", (.int (0)))]) :: (f1, own_ar Z .byte [(.int (nar .byte d0_.toInt8.toInt32))]) :: L) := by
  refine own_con (ls := #[.val (.int d0_)]) (plainFor_of_name own_pn0) (fun m => own_ent m rfl) ?_
  intro p e s m below meth c T C X
  refine k_getstatic C X d_jdk_42_method_139_code_0 rfl (hw _ (List.mem_of_getElem? (i := 60) rfl)) hS (fun T X => ?_)
  refine k_if_eq C X d_jdk_42_method_139_code_3 rfl (tpc := 26) rfl (fun hc => (hcs hc : False).elim) (fun _ => ?_)
  refine k_iloadN C X d_jdk_42_method_139_code_6 rfl rfl ?_
  refine k_static C X d_jdk_42_method_139_code_7 rfl (hw _ (List.mem_of_getElem? (i := 130) rfl)) (hw _ (List.mem_of_getElem? (i := 131) rfl)) (hw _ (List.mem_of_getElem? (i := 88) rfl)) (hw _ (List.mem_of_getElem? (i := 132) rfl)) (by decide) (own_can1 l Z a0 hw d0_ cs fm hS hcs hAD hHI hLO hFM hfc g0 (L)) (W := 0) (argsL := [(.int d0_)]) (rest := []) rfl rfl rfl own_pd10 rfl (Nat.le_of_eq rfl) (by decide) (by decide) (by decide) (by decide) (fun v T M hQ X => ?_)
  obtain ⟨rfl, hM_⟩ := hQ
  replace hM_ := hM_.symm
  subst hM_
  refine k_if_eq C X d_jdk_42_method_139_code_10 rfl (tpc := 26) rfl (fun hc => (absurd hc (by decide) : False).elim) (fun _ => ?_)
  refine k_new C X d_jdk_42_method_139_code_13 rfl (hw _ (List.mem_of_getElem? (i := 133) rfl)) (hw _ (List.mem_of_getElem? (i := 2) rfl)) (hw _ (List.mem_of_getElem? (i := 3) rfl)) (own_lay_String hw) (fs := [("value", "[B", .null), ("coder", "B", (.int (0)))]) rfl (by decide) (by decide) (fun T o13 X => ?_)
  refine k_dup C X d_jdk_42_method_139_code_16 rfl rfl ?_
  refine k_iloadN C X d_jdk_42_method_139_code_17 rfl rfl ?_
  refine k_static C X d_jdk_42_method_139_code_18 rfl (hw _ (List.mem_of_getElem? (i := 134) rfl)) (hw _ (List.mem_of_getElem? (i := 135) rfl)) (hw _ (List.mem_of_getElem? (i := 88) rfl)) (hw _ (List.mem_of_getElem? (i := 136) rfl)) (by decide) (own_ltob l Z a0 hw d0_ cs fm hS hcs hAD hHI hLO hFM hfc ((o13, own_ob Z "java/lang/String" [("value", "[B", .null), ("coder", "B", (.int (0)))]) :: L)) (W := 2) (argsL := [(.int d0_)]) (rest := [(.ref o13), (.ref o13)]) rfl rfl rfl own_pd11 rfl (Nat.le_of_eq rfl) (by decide) (by decide) (by decide) (by decide) (fun v T M hQ X => ?_)
  obtain ⟨f1, rfl, rfl⟩ := hQ
  refine k_iconst C X d_jdk_42_method_139_code_21 rfl (v := 0) rfl ?_
  replace X := X.bring (i := 1) rfl (M := (o13, own_ob Z "java/lang/String" [("value", "[B", .null), ("coder", "B", (.int (0)))]) :: (f1, own_ar Z .byte [(.int (nar .byte d0_.toInt8.toInt32))]) :: L) rfl
  refine k_init C X d_jdk_42_method_139_code_22 rfl rfl (hw _ (List.mem_of_getElem? (i := 137) rfl)) (hw _ (List.mem_of_getElem? (i := 138) rfl)) (hw _ (List.mem_of_getElem? (i := 3) rfl)) (hw _ (List.mem_of_getElem? (i := 139) rfl)) (by decide) (own_ibb0 l Z a0 hw o13 f1 cs fm hS hcs hAD hHI hLO hFM hfc ((f1, own_ar Z .byte [(.int (nar .byte d0_.toInt8.toInt32))]) :: L)) (W := 1) (argsL := [(.ref f1), (.int (0))]) (rest := [(.ref o13)]) rfl rfl rfl own_pd12 rfl (Nat.le_of_eq rfl) (by decide) (by decide) (by decide) (by decide) (fun v T M hQ X => ?_)
  obtain ⟨rfl, rfl⟩ := hQ
  exact k_areturn C X d_jdk_42_method_139_code_25 rfl rfl rfl ⟨o13, f1, rfl, rfl⟩ (by decide) (by decide)
def rm_own_len10 : Room := { frames := 1, cells := 0, slots := 0, locals := 13 }
set_option maxRecDepth 65536 in
set_option maxHeartbeats 40000000 in
theorem own_len10 (l : Launch) (Z : State) (a0 : Array Value) (hw : ∀ d ∈ tables_1, d.before a0 Z = true) (sa_ : Addr) (qb_ : Addr) (e0_ : Int32) (cs : Int32) (fm : Value) (hS : Sta Z Z.heap "java/lang/String" "COMPACT_STRINGS" "Z" (.int cs)) (hcs : ¬ cs = 0) (hAD : Sta Z Z.heap "java/lang/StringUTF16" "$assertionsDisabled" "Z" (.int 1)) (hHI : Sta Z Z.heap "java/lang/StringUTF16" "HI_BYTE_SHIFT" "I" (.int 0)) (hLO : Sta Z Z.heap "java/lang/StringUTF16" "LO_BYTE_SHIFT" "I" (.int 8)) (hFM : Sta Z Z.heap "jdk/internal/util/Preconditions" "SIOOBE_FORMATTER" "Ljava/util/function/BiFunction;" fm) (hfc : fm.category = 1) (L : List (Addr × (Cell → Prop))) :
    own_Con l Z (⟨"java/lang/String", "length", "()I"⟩ : MethodName) jdk_42_method_54_code 1 (some .int) rm_own_len10 #[(.ref sa_)] ((sa_, own_ob Z "java/lang/String" [("value", "[B", (.ref qb_)), ("coder", "B", (.int (0)))]) :: (qb_, own_ar Z .byte [(.int e0_)]) :: L) (fun v M => v = some (.int (1)) ∧ M = (sa_, own_ob Z "java/lang/String" [("value", "[B", (.ref qb_)), ("coder", "B", (.int (0)))]) :: (qb_, own_ar Z .byte [(.int e0_)]) :: L) := by
  refine own_con (ls := #[.val (.ref sa_)]) (plainFor_of_name own_pn0) (fun m => own_ent m rfl) ?_
  intro p e s m below meth c T C X
  refine k_aloadN C X d_jdk_42_method_54_code_0 rfl rfl rfl ?_
  refine k_getfield C X d_jdk_42_method_54_code_1 rfl (host := "") (Or.inl (hw _ (List.mem_of_getElem? (i := 21) rfl))) (own_fL (ix := 0) (j := 0) rfl rfl) (fun T X => ?_)
  refine k_arraylength C X d_jdk_42_method_54_code_4 rfl (ix := 1) rfl (z := (1)) rfl ?_
  refine k_aloadN C X d_jdk_42_method_54_code_5 rfl rfl rfl ?_
  refine k_virtual C X d_jdk_42_method_54_code_6 rfl (hw _ (List.mem_of_getElem? (i := 55) rfl)) (hw _ (List.mem_of_getElem? (i := 56) rfl)) (hw _ (List.mem_of_getElem? (i := 3) rfl)) (hw _ (List.mem_of_getElem? (i := 59) rfl)) (hw _ (List.mem_of_getElem? (i := 58) rfl)) (hw _ (List.mem_of_getElem? (i := 57) rfl)) (by decide) (own_nf C.2.2.2.1 (hw _ (List.mem_of_getElem? (i := 58) rfl))) (own_eL (ix := 0) rfl) (own_coder0 l Z a0 hw sa_ qb_ cs fm hS hcs hAD hHI hLO hFM hfc ((qb_, own_ar Z .byte [(.int e0_)]) :: L)) (W := 1) (argsL := []) (rest := [(.int (1))]) rfl rfl rfl own_pd2 rfl (Nat.le_of_eq rfl) (by decide) (by decide) (by decide) (by decide) (fun v T M hQ X => ?_)
  obtain ⟨rfl, rfl⟩ := hQ
  refine k_ishr C X d_jdk_42_method_54_code_9 rfl ?_
  exact k_ireturn C X d_jdk_42_method_54_code_10 (by simp) rfl ⟨rfl, rfl⟩ (by decide) (by decide)
theorem d_jdk_42_method_154_code_13 : decode jdk_42_method_154_code 13 = .ok (.iconst 1, 1) := by decide +kernel
theorem d_jdk_42_method_154_code_14 : decode jdk_42_method_154_code 14 = .ok (.goto 4, 3) := by decide +kernel
def rm_own_isl0 : Room := { frames := 0, cells := 0, slots := 0, locals := 0 }
set_option maxRecDepth 65536 in
set_option maxHeartbeats 40000000 in
theorem own_isl0 (l : Launch) (Z : State) (a0 : Array Value) (hw : ∀ d ∈ tables_1, d.before a0 Z = true) (sa_ : Addr) (qb_ : Addr) (cs : Int32) (fm : Value) (hS : Sta Z Z.heap "java/lang/String" "COMPACT_STRINGS" "Z" (.int cs)) (hcs : ¬ cs = 0) (hAD : Sta Z Z.heap "java/lang/StringUTF16" "$assertionsDisabled" "Z" (.int 1)) (hHI : Sta Z Z.heap "java/lang/StringUTF16" "HI_BYTE_SHIFT" "I" (.int 0)) (hLO : Sta Z Z.heap "java/lang/StringUTF16" "LO_BYTE_SHIFT" "I" (.int 8)) (hFM : Sta Z Z.heap "jdk/internal/util/Preconditions" "SIOOBE_FORMATTER" "Ljava/util/function/BiFunction;" fm) (hfc : fm.category = 1) (L : List (Addr × (Cell → Prop))) :
    own_Con l Z (⟨"java/lang/String", "isLatin1", "()Z"⟩ : MethodName) jdk_42_method_154_code 1 (some .boolean) rm_own_isl0 #[(.ref sa_)] ((sa_, own_ob Z "java/lang/String" [("value", "[B", (.ref qb_)), ("coder", "B", (.int (0)))]) :: L) (fun v M => v = some (.int (1)) ∧ M = (sa_, own_ob Z "java/lang/String" [("value", "[B", (.ref qb_)), ("coder", "B", (.int (0)))]) :: L) := by
  refine own_con (ls := #[.val (.ref sa_)]) (plainFor_of_name own_pn0) (fun m => own_ent m rfl) ?_
  intro p e s m below meth c T C X
  refine k_getstatic C X d_jdk_42_method_154_code_0 rfl (hw _ (List.mem_of_getElem? (i := 60) rfl)) hS (fun T X => ?_)
  refine k_if_eq C X d_jdk_42_method_154_code_3 rfl (tpc := 17) rfl (fun hc => (hcs hc : False).elim) (fun _ => ?_)
  refine k_aloadN C X d_jdk_42_method_154_code_6 rfl rfl rfl ?_
  refine k_getfield C X d_jdk_42_method_154_code_7 rfl (host := "") (Or.inl (hw _ (List.mem_of_getElem? (i := 22) rfl))) (own_fL (ix := 0) (j := 1) rfl rfl) (fun T X => ?_)
  refine k_if_ne C X d_jdk_42_method_154_code_10 rfl (tpc := 17) rfl (fun hc => (absurd hc (by decide) : False).elim) (fun _ => ?_)
  refine k_iconst C X d_jdk_42_method_154_code_13 rfl (v := 1) rfl ?_
  refine k_goto C X d_jdk_42_method_154_code_14 (tpc := 18) rfl ?_
  exact k_ireturn C X d_jdk_42_method_154_code_18 (by simp) rfl ⟨rfl, rfl⟩ (by decide) (by decide)
theorem d_jdk_42_method_56_code_7 : decode jdk_42_method_56_code 7 = .ok (.aload_n 0, 1) := by decide +kernel
theorem d_jdk_42_method_56_code_8 : decode jdk_42_method_56_code 8 = .ok (.getfield 9, 3) := by decide +kernel
theorem d_jdk_42_method_56_code_11 : decode jdk_42_method_56_code 11 = .ok (.iload_n 1, 1) := by decide +kernel
theorem d_jdk_42_method_56_code_12 : decode jdk_42_method_56_code 12 = .ok (.invokestatic 495, 3) := by decide +kernel
theorem d_jdk_42_method_56_code_15 : decode jdk_42_method_56_code 15 = .ok (.ireturn, 1) := by decide +kernel
def rm_own_cha100 : Room := { frames := 3, cells := 0, slots := 0, locals := 40 }
set_option maxRecDepth 65536 in
set_option maxHeartbeats 40000000 in
theorem own_cha100 (l : Launch) (Z : State) (a0 : Array Value) (hw : ∀ d ∈ tables_1, d.before a0 Z = true) (sa_ : Addr) (qb_ : Addr) (e0_ : Int32) (cs : Int32) (fm : Value) (hS : Sta Z Z.heap "java/lang/String" "COMPACT_STRINGS" "Z" (.int cs)) (hcs : ¬ cs = 0) (hAD : Sta Z Z.heap "java/lang/StringUTF16" "$assertionsDisabled" "Z" (.int 1)) (hHI : Sta Z Z.heap "java/lang/StringUTF16" "HI_BYTE_SHIFT" "I" (.int 0)) (hLO : Sta Z Z.heap "java/lang/StringUTF16" "LO_BYTE_SHIFT" "I" (.int 8)) (hFM : Sta Z Z.heap "jdk/internal/util/Preconditions" "SIOOBE_FORMATTER" "Ljava/util/function/BiFunction;" fm) (hfc : fm.category = 1) (L : List (Addr × (Cell → Prop))) :
    own_Con l Z (⟨"java/lang/String", "charAt", "(I)C"⟩ : MethodName) jdk_42_method_56_code 2 (some .char) rm_own_cha100 #[(.ref sa_), (.int (0))] ((sa_, own_ob Z "java/lang/String" [("value", "[B", (.ref qb_)), ("coder", "B", (.int (0)))]) :: (qb_, own_ar Z .byte [(.int e0_)]) :: L) (fun v M => v = some (.int ((e0_ &&& (255)).toUInt32.toUInt16.toUInt32.toInt32)) ∧ M = (qb_, own_ar Z .byte [(.int e0_)]) :: (sa_, own_ob Z "java/lang/String" [("value", "[B", (.ref qb_)), ("coder", "B", (.int (0)))]) :: L) := by
  refine own_con (ls := #[.val (.ref sa_), .val (.int (0))]) (plainFor_of_name own_pn0) (fun m => own_ent m rfl) ?_
  intro p e s m below meth c T C X
  refine k_aloadN C X d_jdk_42_method_56_code_0 rfl rfl rfl ?_
  refine k_virtual C X d_jdk_42_method_56_code_1 rfl (hw _ (List.mem_of_getElem? (i := 81) rfl)) (hw _ (List.mem_of_getElem? (i := 82) rfl)) (hw _ (List.mem_of_getElem? (i := 3) rfl)) (hw _ (List.mem_of_getElem? (i := 85) rfl)) (hw _ (List.mem_of_getElem? (i := 84) rfl)) (hw _ (List.mem_of_getElem? (i := 83) rfl)) (by decide) (own_nf C.2.2.2.1 (hw _ (List.mem_of_getElem? (i := 84) rfl))) (own_eL (ix := 0) rfl) (own_isl0 l Z a0 hw sa_ qb_ cs fm hS hcs hAD hHI hLO hFM hfc ((qb_, own_ar Z .byte [(.int e0_)]) :: L)) (W := 0) (argsL := []) (rest := []) rfl rfl rfl own_pd19 rfl (Nat.le_of_eq rfl) (by decide) (by decide) (by decide) (by decide) (fun v T M hQ X => ?_)
  obtain ⟨rfl, rfl⟩ := hQ
  refine k_if_eq C X d_jdk_42_method_56_code_4 rfl (tpc := 16) rfl (fun hc => (absurd hc (by decide) : False).elim) (fun _ => ?_)
  refine k_aloadN C X d_jdk_42_method_56_code_7 rfl rfl rfl ?_
  refine k_getfield C X d_jdk_42_method_56_code_8 rfl (host := "") (Or.inl (hw _ (List.mem_of_getElem? (i := 21) rfl))) (own_fL (ix := 0) (j := 0) rfl rfl) (fun T X => ?_)
  refine k_iloadN C X d_jdk_42_method_56_code_11 rfl rfl ?_
  replace X := X.bring (i := 1) rfl (M := (qb_, own_ar Z .byte [(.int e0_)]) :: (sa_, own_ob Z "java/lang/String" [("value", "[B", (.ref qb_)), ("coder", "B", (.int (0)))]) :: L) rfl
  refine k_static C X d_jdk_42_method_56_code_12 rfl (hw _ (List.mem_of_getElem? (i := 86) rfl)) (hw _ (List.mem_of_getElem? (i := 87) rfl)) (hw _ (List.mem_of_getElem? (i := 88) rfl)) (hw _ (List.mem_of_getElem? (i := 89) rfl)) (by decide) (own_lca10 l Z a0 hw qb_ e0_ cs fm hS hcs hAD hHI hLO hFM hfc ((sa_, own_ob Z "java/lang/String" [("value", "[B", (.ref qb_)), ("coder", "B", (.int (0)))]) :: L)) (W := 0) (argsL := [(.ref qb_), (.int (0))]) (rest := []) rfl rfl rfl own_pd18 rfl (Nat.le_of_eq rfl) (by decide) (by decide) (by decide) (by decide) (fun v T M hQ X => ?_)
  obtain ⟨rfl, rfl⟩ := hQ
  exact k_ireturn C X d_jdk_42_method_56_code_15 (by simp) (own_nch _) ⟨rfl, rfl⟩ (by decide) (by decide)
theorem d_jdk_52_method_21_code_0 : decode jdk_52_method_21_code 0 = .ok (.iconst 0, 1) := by decide +kernel
theorem d_jdk_52_method_21_code_1 : decode jdk_52_method_21_code 1 = .ok (.istore 5, 2) := by decide +kernel
theorem d_jdk_52_method_21_code_3 : decode jdk_52_method_21_code 3 = .ok (.iload 5, 2) := by decide +kernel
theorem d_jdk_52_method_21_code_5 : decode jdk_52_method_21_code 5 = .ok (.iload 4, 2) := by decide +kernel
theorem d_jdk_52_method_21_code_7 : decode jdk_52_method_21_code 7 = .ok (.if_icmp .ge 37, 3) := by decide +kernel
theorem d_jdk_52_method_21_code_10 : decode jdk_52_method_21_code 10 = .ok (.aload_n 0, 1) := by decide +kernel
theorem d_jdk_52_method_21_code_11 : decode jdk_52_method_21_code 11 = .ok (.iload_n 1, 1) := by decide +kernel
theorem d_jdk_52_method_21_code_12 : decode jdk_52_method_21_code 12 = .ok (.caload, 1) := by decide +kernel
theorem d_jdk_52_method_21_code_13 : decode jdk_52_method_21_code 13 = .ok (.istore 6, 2) := by decide +kernel
theorem d_jdk_52_method_21_code_15 : decode jdk_52_method_21_code 15 = .ok (.iload 6, 2) := by decide +kernel
theorem d_jdk_52_method_21_code_17 : decode jdk_52_method_21_code 17 = .ok (.sipush 255, 3) := by decide +kernel
theorem d_jdk_52_method_21_code_20 : decode jdk_52_method_21_code 20 = .ok (.if_icmp .le 6, 3) := by decide +kernel
theorem d_jdk_52_method_21_code_23 : decode jdk_52_method_21_code 23 = .ok (.iload 5, 2) := by decide +kernel
theorem d_jdk_52_method_21_code_25 : decode jdk_52_method_21_code 25 = .ok (.ireturn, 1) := by decide +kernel
def rm_own_cmp2_20 : Room := { frames := 0, cells := 0, slots := 0, locals := 0 }
set_option maxRecDepth 65536 in
set_option maxHeartbeats 40000000 in
theorem own_cmp2_20 (l : Launch) (Z : State) (a0 : Array Value) (hw : ∀ d ∈ tables_1, d.before a0 Z = true) (qc_ : Addr) (qb_ : Addr) (d0_ : Int32) (d1_ : Int32) (cs : Int32) (fm : Value) (hS : Sta Z Z.heap "java/lang/String" "COMPACT_STRINGS" "Z" (.int cs)) (hcs : ¬ cs = 0) (hAD : Sta Z Z.heap "java/lang/StringUTF16" "$assertionsDisabled" "Z" (.int 1)) (hHI : Sta Z Z.heap "java/lang/StringUTF16" "HI_BYTE_SHIFT" "I" (.int 0)) (hLO : Sta Z Z.heap "java/lang/StringUTF16" "LO_BYTE_SHIFT" "I" (.int 8)) (hFM : Sta Z Z.heap "jdk/internal/util/Preconditions" "SIOOBE_FORMATTER" "Ljava/util/function/BiFunction;" fm) (hfc : fm.category = 1) (c0 : own_ch d0_) (c1 : own_ch d1_) (g0 : (255) < d0_) (L : List (Addr × (Cell → Prop))) :
    own_Con l Z (⟨"java/lang/StringUTF16", "compress", "([CI[BII)I"⟩ : MethodName) jdk_52_method_21_code 7 (some .int) rm_own_cmp2_20 #[(.ref qc_), (.int (0)), (.ref qb_), (.int (0)), (.int (2))] ((qc_, own_ar Z .char [(.int d0_), (.int d1_)]) :: (qb_, own_ar Z .byte [(.int 0), (.int 0)]) :: L) (fun v M => v = some (.int (0)) ∧ M = (qc_, own_ar Z .char [(.int d0_), (.int d1_)]) :: (qb_, own_ar Z .byte [(.int 0), (.int 0)]) :: L) := by
  refine own_con (ls := #[.val (.ref qc_), .val (.int (0)), .val (.ref qb_), .val (.int (0)), .val (.int (2)), .unset, .unset]) (plainFor_of_name own_pn2) (fun m => own_ent m rfl) ?_
  intro p e s m below meth c T C X
  refine k_iconst C X d_jdk_52_method_21_code_0 rfl (v := 0) rfl ?_
  refine k_istore C X d_jdk_52_method_21_code_1 rfl (l' := #[.val (.ref qc_), .val (.int (0)), .val (.ref qb_), .val (.int (0)), .val (.int (2)), .val (.int (0)), .unset]) rfl ?_
  refine k_iload C X d_jdk_52_method_21_code_3 rfl rfl ?_
  refine k_iload C X d_jdk_52_method_21_code_5 rfl rfl ?_
  refine k_icmp_ge C X d_jdk_52_method_21_code_7 rfl (tpc := 44) rfl (fun hc => (absurd hc (by decide) : False).elim) (fun _ => ?_)
  refine k_aloadN C X d_jdk_52_method_21_code_10 rfl rfl rfl ?_
  refine k_iloadN C X d_jdk_52_method_21_code_11 rfl rfl ?_
  refine k_caload C X d_jdk_52_method_21_code_12 rfl (ix := 0) (i := 0) rfl (by decide) (by decide) rfl ?_
  refine k_istore C X d_jdk_52_method_21_code_13 rfl (l' := #[.val (.ref qc_), .val (.int (0)), .val (.ref qb_), .val (.int (0)), .val (.int (2)), .val (.int (0)), .val (.int d0_)]) rfl ?_
  refine k_iload C X d_jdk_52_method_21_code_15 rfl rfl ?_
  refine k_sipush C X d_jdk_52_method_21_code_17 rfl (v := 255) rfl ?_
  refine k_icmp_le C X d_jdk_52_method_21_code_20 rfl (tpc := 26) rfl (fun hc => (hc g0 : False).elim) (fun _ => ?_)
  refine k_iload C X d_jdk_52_method_21_code_23 rfl rfl ?_
  exact k_ireturn C X d_jdk_52_method_21_code_25 (by simp) rfl ⟨rfl, rfl⟩ (by decide) (by decide)
def rm_own_put20 : Room := { frames := 0, cells := 0, slots := 0, locals := 0 }
set_option maxRecDepth 65536 in
set_option maxHeartbeats 40000000 in
theorem own_put20 (l : Launch) (Z : State) (a0 : Array Value) (hw : ∀ d ∈ tables_1, d.before a0 Z = true) (qb_ : Addr) (d_ : Int32) (e0_ : Int32) (e1_ : Int32) (e2_ : Int32) (e3_ : Int32) (cs : Int32) (fm : Value) (hS : Sta Z Z.heap "java/lang/String" "COMPACT_STRINGS" "Z" (.int cs)) (hcs : ¬ cs = 0) (hAD : Sta Z Z.heap "java/lang/StringUTF16" "$assertionsDisabled" "Z" (.int 1)) (hHI : Sta Z Z.heap "java/lang/StringUTF16" "HI_BYTE_SHIFT" "I" (.int 0)) (hLO : Sta Z Z.heap "java/lang/StringUTF16" "LO_BYTE_SHIFT" "I" (.int 8)) (hFM : Sta Z Z.heap "jdk/internal/util/Preconditions" "SIOOBE_FORMATTER" "Ljava/util/function/BiFunction;" fm) (hfc : fm.category = 1) (L : List (Addr × (Cell → Prop))) :
    own_Con l Z (⟨"java/lang/StringUTF16", "putChar", "([BII)V"⟩ : MethodName) jdk_52_method_4_code 3 none rm_own_put20 #[(.ref qb_), (.int (0)), (.int d_)] ((qb_, own_ar Z .byte [(.int e0_), (.int e1_), (.int e2_), (.int e3_)]) :: L) (fun v M => v = none ∧ M = (qb_, own_ar Z .byte [(.int (nar .byte ((d_ >>> ((0) &&& 31 : Int32) : Int32).toInt8.toInt32))), (.int (nar .byte ((d_ >>> ((8) &&& 31 : Int32) : Int32).toInt8.toInt32))), (.int e2_), (.int e3_)]) :: L) := by
  refine own_con (ls := #[.val (.ref qb_), .val (.int (0)), .val (.int d_)]) (plainFor_of_name own_pn2) (fun m => own_ent m rfl) ?_
  intro p e s m below meth c T C X
  refine k_getstatic C X d_jdk_52_method_4_code_0 rfl (hw _ (List.mem_of_getElem? (i := 111) rfl)) hAD (fun T X => ?_)
  refine k_if_ne C X d_jdk_52_method_4_code_3 rfl (tpc := 28) rfl (fun _ => ?_) (fun hc => (absurd hc (by decide) : False).elim)
  refine k_iloadN C X d_jdk_52_method_4_code_28 rfl rfl ?_
  refine k_iconst C X d_jdk_52_method_4_code_29 rfl (v := 1) rfl ?_
  refine k_ishl C X d_jdk_52_method_4_code_30 rfl ?_
  refine k_istoreN C X d_jdk_52_method_4_code_31 rfl (l' := #[.val (.ref qb_), .val (.int (0)), .val (.int d_)]) rfl ?_
  refine k_aloadN C X d_jdk_52_method_4_code_32 rfl rfl rfl ?_
  refine k_iloadN C X d_jdk_52_method_4_code_33 rfl rfl ?_
  refine k_iinc C X d_jdk_52_method_4_code_34 rfl (v := 1) rfl rfl (l' := #[.val (.ref qb_), .val (.int (1)), .val (.int d_)]) rfl ?_
  refine k_iloadN C X d_jdk_52_method_4_code_37 rfl rfl ?_
  refine k_getstatic C X d_jdk_52_method_4_code_38 rfl (hw _ (List.mem_of_getElem? (i := 112) rfl)) hHI (fun T X => ?_)
  refine k_ishr C X d_jdk_52_method_4_code_41 rfl ?_
  refine k_i2b C X d_jdk_52_method_4_code_42 rfl ?_
  refine k_bastore C X d_jdk_52_method_4_code_43 rfl (ix := 0) (i := 0) rfl (by decide) (by decide) (Nat.le_of_ble_eq_true rfl) (vs' := [(.int (nar .byte ((d_ >>> ((0) &&& 31 : Int32) : Int32).toInt8.toInt32))), (.int e1_), (.int e2_), (.int e3_)]) rfl (L' := (qb_, own_ar Z .byte [(.int (nar .byte ((d_ >>> ((0) &&& 31 : Int32) : Int32).toInt8.toInt32))), (.int e1_), (.int e2_), (.int e3_)]) :: L) rfl (fun T X => ?_)
  refine k_aloadN C X d_jdk_52_method_4_code_44 rfl rfl rfl ?_
  refine k_iloadN C X d_jdk_52_method_4_code_45 rfl rfl ?_
  refine k_iloadN C X d_jdk_52_method_4_code_46 rfl rfl ?_
  refine k_getstatic C X d_jdk_52_method_4_code_47 rfl (hw _ (List.mem_of_getElem? (i := 113) rfl)) hLO (fun T X => ?_)
  refine k_ishr C X d_jdk_52_method_4_code_50 rfl ?_
  refine k_i2b C X d_jdk_52_method_4_code_51 rfl ?_
  refine k_bastore C X d_jdk_52_method_4_code_52 rfl (ix := 0) (i := 1) rfl (by decide) (by decide) (Nat.le_of_ble_eq_true rfl) (vs' := [(.int (nar .byte ((d_ >>> ((0) &&& 31 : Int32) : Int32).toInt8.toInt32))), (.int (nar .byte ((d_ >>> ((8) &&& 31 : Int32) : Int32).toInt8.toInt32))), (.int e2_), (.int e3_)]) rfl (L' := (qb_, own_ar Z .byte [(.int (nar .byte ((d_ >>> ((0) &&& 31 : Int32) : Int32).toInt8.toInt32))), (.int (nar .byte ((d_ >>> ((8) &&& 31 : Int32) : Int32).toInt8.toInt32))), (.int e2_), (.int e3_)]) :: L) rfl (fun T X => ?_)
  exact k_return C X d_jdk_52_method_4_code_53 ⟨rfl, rfl⟩ (by decide) (by decide)
def rm_own_put21 : Room := { frames := 0, cells := 0, slots := 0, locals := 0 }
set_option maxRecDepth 65536 in
set_option maxHeartbeats 40000000 in
theorem own_put21 (l : Launch) (Z : State) (a0 : Array Value) (hw : ∀ d ∈ tables_1, d.before a0 Z = true) (qb_ : Addr) (d_ : Int32) (e0_ : Int32) (e1_ : Int32) (e2_ : Int32) (e3_ : Int32) (cs : Int32) (fm : Value) (hS : Sta Z Z.heap "java/lang/String" "COMPACT_STRINGS" "Z" (.int cs)) (hcs : ¬ cs = 0) (hAD : Sta Z Z.heap "java/lang/StringUTF16" "$assertionsDisabled" "Z" (.int 1)) (hHI : Sta Z Z.heap "java/lang/StringUTF16" "HI_BYTE_SHIFT" "I" (.int 0)) (hLO : Sta Z Z.heap "java/lang/StringUTF16" "LO_BYTE_SHIFT" "I" (.int 8)) (hFM : Sta Z Z.heap "jdk/internal/util/Preconditions" "SIOOBE_FORMATTER" "Ljava/util/function/BiFunction;" fm) (hfc : fm.category = 1) (L : List (Addr × (Cell → Prop))) :
    own_Con l Z (⟨"java/lang/StringUTF16", "putChar", "([BII)V"⟩ : MethodName) jdk_52_method_4_code 3 none rm_own_put21 #[(.ref qb_), (.int (1)), (.int d_)] ((qb_, own_ar Z .byte [(.int e0_), (.int e1_), (.int e2_), (.int e3_)]) :: L) (fun v M => v = none ∧ M = (qb_, own_ar Z .byte [(.int e0_), (.int e1_), (.int (nar .byte ((d_ >>> ((0) &&& 31 : Int32) : Int32).toInt8.toInt32))), (.int (nar .byte ((d_ >>> ((8) &&& 31 : Int32) : Int32).toInt8.toInt32)))]) :: L) := by
  refine own_con (ls := #[.val (.ref qb_), .val (.int (1)), .val (.int d_)]) (plainFor_of_name own_pn2) (fun m => own_ent m rfl) ?_
  intro p e s m below meth c T C X
  refine k_getstatic C X d_jdk_52_method_4_code_0 rfl (hw _ (List.mem_of_getElem? (i := 111) rfl)) hAD (fun T X => ?_)
  refine k_if_ne C X d_jdk_52_method_4_code_3 rfl (tpc := 28) rfl (fun _ => ?_) (fun hc => (absurd hc (by decide) : False).elim)
  refine k_iloadN C X d_jdk_52_method_4_code_28 rfl rfl ?_
  refine k_iconst C X d_jdk_52_method_4_code_29 rfl (v := 1) rfl ?_
  refine k_ishl C X d_jdk_52_method_4_code_30 rfl ?_
  refine k_istoreN C X d_jdk_52_method_4_code_31 rfl (l' := #[.val (.ref qb_), .val (.int (2)), .val (.int d_)]) rfl ?_
  refine k_aloadN C X d_jdk_52_method_4_code_32 rfl rfl rfl ?_
  refine k_iloadN C X d_jdk_52_method_4_code_33 rfl rfl ?_
  refine k_iinc C X d_jdk_52_method_4_code_34 rfl (v := 1) rfl rfl (l' := #[.val (.ref qb_), .val (.int (3)), .val (.int d_)]) rfl ?_
  refine k_iloadN C X d_jdk_52_method_4_code_37 rfl rfl ?_
  refine k_getstatic C X d_jdk_52_method_4_code_38 rfl (hw _ (List.mem_of_getElem? (i := 112) rfl)) hHI (fun T X => ?_)
  refine k_ishr C X d_jdk_52_method_4_code_41 rfl ?_
  refine k_i2b C X d_jdk_52_method_4_code_42 rfl ?_
  refine k_bastore C X d_jdk_52_method_4_code_43 rfl (ix := 0) (i := 2) rfl (by decide) (by decide) (Nat.le_of_ble_eq_true rfl) (vs' := [(.int e0_), (.int e1_), (.int (nar .byte ((d_ >>> ((0) &&& 31 : Int32) : Int32).toInt8.toInt32))), (.int e3_)]) rfl (L' := (qb_, own_ar Z .byte [(.int e0_), (.int e1_), (.int (nar .byte ((d_ >>> ((0) &&& 31 : Int32) : Int32).toInt8.toInt32))), (.int e3_)]) :: L) rfl (fun T X => ?_)
  refine k_aloadN C X d_jdk_52_method_4_code_44 rfl rfl rfl ?_
  refine k_iloadN C X d_jdk_52_method_4_code_45 rfl rfl ?_
  refine k_iloadN C X d_jdk_52_method_4_code_46 rfl rfl ?_
  refine k_getstatic C X d_jdk_52_method_4_code_47 rfl (hw _ (List.mem_of_getElem? (i := 113) rfl)) hLO (fun T X => ?_)
  refine k_ishr C X d_jdk_52_method_4_code_50 rfl ?_
  refine k_i2b C X d_jdk_52_method_4_code_51 rfl ?_
  refine k_bastore C X d_jdk_52_method_4_code_52 rfl (ix := 0) (i := 3) rfl (by decide) (by decide) (Nat.le_of_ble_eq_true rfl) (vs' := [(.int e0_), (.int e1_), (.int (nar .byte ((d_ >>> ((0) &&& 31 : Int32) : Int32).toInt8.toInt32))), (.int (nar .byte ((d_ >>> ((8) &&& 31 : Int32) : Int32).toInt8.toInt32)))]) rfl (L' := (qb_, own_ar Z .byte [(.int e0_), (.int e1_), (.int (nar .byte ((d_ >>> ((0) &&& 31 : Int32) : Int32).toInt8.toInt32))), (.int (nar .byte ((d_ >>> ((8) &&& 31 : Int32) : Int32).toInt8.toInt32)))]) :: L) rfl (fun T X => ?_)
  exact k_return C X d_jdk_52_method_4_code_53 ⟨rfl, rfl⟩ (by decide) (by decide)
theorem d_jdk_52_method_3_code_0 : decode jdk_52_method_3_code 0 = .ok (.iload_n 0, 1) := by decide +kernel
theorem d_jdk_52_method_3_code_1 : decode jdk_52_method_3_code 1 = .ok (.ifCond .ge 11, 3) := by decide +kernel
theorem d_jdk_52_method_3_code_12 : decode jdk_52_method_3_code 12 = .ok (.iload_n 0, 1) := by decide +kernel
theorem d_jdk_52_method_3_code_13 : decode jdk_52_method_3_code 13 = .ok (.ldc 20, 2) := by decide +kernel
theorem d_jdk_52_method_3_code_15 : decode jdk_52_method_3_code 15 = .ok (.if_icmp .lt 40, 3) := by decide +kernel
theorem d_jdk_52_method_3_code_55 : decode jdk_52_method_3_code 55 = .ok (.iload_n 0, 1) := by decide +kernel
theorem d_jdk_52_method_3_code_56 : decode jdk_52_method_3_code 56 = .ok (.iconst 1, 1) := by decide +kernel
theorem d_jdk_52_method_3_code_57 : decode jdk_52_method_3_code 57 = .ok (.ishl, 1) := by decide +kernel
theorem d_jdk_52_method_3_code_58 : decode jdk_52_method_3_code 58 = .ok (.ireturn, 1) := by decide +kernel
def rm_own_nbl2 : Room := { frames := 0, cells := 0, slots := 0, locals := 0 }
set_option maxRecDepth 65536 in
set_option maxHeartbeats 40000000 in
theorem own_nbl2 (l : Launch) (Z : State) (a0 : Array Value) (hw : ∀ d ∈ tables_1, d.before a0 Z = true)  (cs : Int32) (fm : Value) (hS : Sta Z Z.heap "java/lang/String" "COMPACT_STRINGS" "Z" (.int cs)) (hcs : ¬ cs = 0) (hAD : Sta Z Z.heap "java/lang/StringUTF16" "$assertionsDisabled" "Z" (.int 1)) (hHI : Sta Z Z.heap "java/lang/StringUTF16" "HI_BYTE_SHIFT" "I" (.int 0)) (hLO : Sta Z Z.heap "java/lang/StringUTF16" "LO_BYTE_SHIFT" "I" (.int 8)) (hFM : Sta Z Z.heap "jdk/internal/util/Preconditions" "SIOOBE_FORMATTER" "Ljava/util/function/BiFunction;" fm) (hfc : fm.category = 1) (L : List (Addr × (Cell → Prop))) :
    own_Con l Z (⟨"java/lang/StringUTF16", "newBytesLength", "(I)I"⟩ : MethodName) jdk_52_method_3_code 1 (some .int) rm_own_nbl2 #[(.int (2))] (L) (fun v M => v = some (.int (4)) ∧ M = L) := by
  refine own_con (ls := #[.val (.int (2))]) (plainFor_of_name own_pn2) (fun m => own_ent m rfl) ?_
  intro p e s m below meth c T C X
  refine k_iloadN C X d_jdk_52_method_3_code_0 rfl rfl ?_
  refine k_if_ge C X d_jdk_52_method_3_code_1 rfl (tpc := 12) rfl (fun _ => ?_) (fun hc => (absurd hc (by decide) : False).elim)
  refine k_iloadN C X d_jdk_52_method_3_code_12 rfl rfl ?_
  refine k_ldc C X d_jdk_52_method_3_code_13 rfl (hw _ (List.mem_of_getElem? (i := 107) rfl)) ?_
  refine k_icmp_lt C X d_jdk_52_method_3_code_15 rfl (tpc := 55) rfl (fun _ => ?_) (fun hc => (hc (by decide) : False).elim)
  refine k_iloadN C X d_jdk_52_method_3_code_55 rfl rfl ?_
  refine k_iconst C X d_jdk_52_method_3_code_56 rfl (v := 1) rfl ?_
  refine k_ishl C X d_jdk_52_method_3_code_57 rfl ?_
  exact k_ireturn C X d_jdk_52_method_3_code_58 (by simp) rfl ⟨rfl, rfl⟩ (by decide) (by decide)
theorem d_jdk_52_method_2_code_0 : decode jdk_52_method_2_code 0 = .ok (.iload_n 0, 1) := by decide +kernel
theorem d_jdk_52_method_2_code_1 : decode jdk_52_method_2_code 1 = .ok (.invokestatic 11, 3) := by decide +kernel
theorem own_pd21 : parseMethodDescriptor "(I)I" = some ⟨[.int], some .int⟩ := by decide +kernel
theorem d_jdk_52_method_2_code_4 : decode jdk_52_method_2_code 4 = .ok (.newarray .byte, 2) := by decide +kernel
theorem d_jdk_52_method_2_code_6 : decode jdk_52_method_2_code 6 = .ok (.areturn, 1) := by decide +kernel
def rm_own_nbf2 : Room := { frames := 1, cells := 1, slots := 4, locals := 12 }
set_option maxRecDepth 65536 in
set_option maxHeartbeats 40000000 in
theorem own_nbf2 (l : Launch) (Z : State) (a0 : Array Value) (hw : ∀ d ∈ tables_1, d.before a0 Z = true)  (cs : Int32) (fm : Value) (hS : Sta Z Z.heap "java/lang/String" "COMPACT_STRINGS" "Z" (.int cs)) (hcs : ¬ cs = 0) (hAD : Sta Z Z.heap "java/lang/StringUTF16" "$assertionsDisabled" "Z" (.int 1)) (hHI : Sta Z Z.heap "java/lang/StringUTF16" "HI_BYTE_SHIFT" "I" (.int 0)) (hLO : Sta Z Z.heap "java/lang/StringUTF16" "LO_BYTE_SHIFT" "I" (.int 8)) (hFM : Sta Z Z.heap "jdk/internal/util/Preconditions" "SIOOBE_FORMATTER" "Ljava/util/function/BiFunction;" fm) (hfc : fm.category = 1) (L : List (Addr × (Cell → Prop))) :
    own_Con l Z (⟨"java/lang/StringUTF16", "newBytesFor", "(I)[B"⟩ : MethodName) jdk_52_method_2_code 1 (some (.array .byte)) rm_own_nbf2 #[(.int (2))] (L) (fun v M => ∃ o4, v = some (.ref o4) ∧ M = (o4, own_ar Z .byte [(.int 0), (.int 0), (.int 0), (.int 0)]) :: L) := by
  refine own_con (ls := #[.val (.int (2))]) (plainFor_of_name own_pn2) (fun m => own_ent m rfl) ?_
  intro p e s m below meth c T C X
  refine k_iloadN C X d_jdk_52_method_2_code_0 rfl rfl ?_
  refine k_static C X d_jdk_52_method_2_code_1 rfl (hw _ (List.mem_of_getElem? (i := 104) rfl)) (hw _ (List.mem_of_getElem? (i := 105) rfl)) (hw _ (List.mem_of_getElem? (i := 68) rfl)) (hw _ (List.mem_of_getElem? (i := 106) rfl)) (by decide) (own_nbl2 l Z a0 hw cs fm hS hcs hAD hHI hLO hFM hfc (L)) (W := 0) (argsL := [(.int (2))]) (rest := []) rfl rfl rfl own_pd21 rfl (Nat.le_of_eq rfl) (by decide) (by decide) (by decide) (by decide) (fun v T M hQ X => ?_)
  obtain ⟨rfl, hM_⟩ := hQ
  replace hM_ := hM_.symm
  subst hM_
  refine k_newarray C X d_jdk_52_method_2_code_4 rfl (ty := .byte) rfl (hw _ (List.mem_of_getElem? (i := 16) rfl)) (by decide) (cap := 4) (by decide) (by decide) (by decide) (by decide) (vs := [(.int 0), (.int 0), (.int 0), (.int 0)]) rfl (fun T o4 X => ?_)
  exact k_areturn C X d_jdk_52_method_2_code_6 rfl rfl rfl ⟨o4, rfl, rfl⟩ (by decide) (by decide)
theorem d_jdk_52_method_14_code_0 : decode jdk_52_method_14_code 0 = .ok (.iload_n 2, 1) := by decide +kernel
theorem d_jdk_52_method_14_code_1 : decode jdk_52_method_14_code 1 = .ok (.invokestatic 107, 3) := by decide +kernel
theorem own_pd22 : parseMethodDescriptor "(I)[B" = some ⟨[.int], some (.array .byte)⟩ := by decide +kernel
theorem d_jdk_52_method_14_code_4 : decode jdk_52_method_14_code 4 = .ok (.astore_n 3, 1) := by decide +kernel
theorem d_jdk_52_method_14_code_5 : decode jdk_52_method_14_code 5 = .ok (.iconst 0, 1) := by decide +kernel
theorem d_jdk_52_method_14_code_6 : decode jdk_52_method_14_code 6 = .ok (.istore 4, 2) := by decide +kernel
theorem d_jdk_52_method_14_code_8 : decode jdk_52_method_14_code 8 = .ok (.iload 4, 2) := by decide +kernel
theorem d_jdk_52_method_14_code_10 : decode jdk_52_method_14_code 10 = .ok (.iload_n 2, 1) := by decide +kernel
theorem d_jdk_52_method_14_code_11 : decode jdk_52_method_14_code 11 = .ok (.if_icmp .ge 21, 3) := by decide +kernel
theorem d_jdk_52_method_14_code_14 : decode jdk_52_method_14_code 14 = .ok (.aload_n 3, 1) := by decide +kernel
theorem d_jdk_52_method_14_code_15 : decode jdk_52_method_14_code 15 = .ok (.iload 4, 2) := by decide +kernel
theorem d_jdk_52_method_14_code_17 : decode jdk_52_method_14_code 17 = .ok (.aload_n 0, 1) := by decide +kernel
theorem d_jdk_52_method_14_code_18 : decode jdk_52_method_14_code 18 = .ok (.iload_n 1, 1) := by decide +kernel
theorem d_jdk_52_method_14_code_19 : decode jdk_52_method_14_code 19 = .ok (.caload, 1) := by decide +kernel
theorem d_jdk_52_method_14_code_20 : decode jdk_52_method_14_code 20 = .ok (.invokestatic 111, 3) := by decide +kernel
theorem d_jdk_52_method_14_code_23 : decode jdk_52_method_14_code 23 = .ok (.iinc 1 1, 3) := by decide +kernel
theorem d_jdk_52_method_14_code_26 : decode jdk_52_method_14_code 26 = .ok (.iinc 4 1, 3) := by decide +kernel
theorem d_jdk_52_method_14_code_29 : decode jdk_52_method_14_code 29 = .ok (.goto (-21), 3) := by decide +kernel
theorem d_jdk_52_method_14_code_32 : decode jdk_52_method_14_code 32 = .ok (.aload_n 3, 1) := by decide +kernel
theorem d_jdk_52_method_14_code_33 : decode jdk_52_method_14_code 33 = .ok (.areturn, 1) := by decide +kernel
def rm_own_tob2 : Room := { frames := 2, cells := 1, slots := 4, locals := 24 }
set_option maxRecDepth 65536 in
set_option maxHeartbeats 40000000 in
theorem own_tob2 (l : Launch) (Z : State) (a0 : Array Value) (hw : ∀ d ∈ tables_1, d.before a0 Z = true) (qc_ : Addr) (d0_ : Int32) (d1_ : Int32) (cs : Int32) (fm : Value) (hS : Sta Z Z.heap "java/lang/String" "COMPACT_STRINGS" "Z" (.int cs)) (hcs : ¬ cs = 0) (hAD : Sta Z Z.heap "java/lang/StringUTF16" "$assertionsDisabled" "Z" (.int 1)) (hHI : Sta Z Z.heap "java/lang/StringUTF16" "HI_BYTE_SHIFT" "I" (.int 0)) (hLO : Sta Z Z.heap "java/lang/StringUTF16" "LO_BYTE_SHIFT" "I" (.int 8)) (hFM : Sta Z Z.heap "jdk/internal/util/Preconditions" "SIOOBE_FORMATTER" "Ljava/util/function/BiFunction;" fm) (hfc : fm.category = 1) (L : List (Addr × (Cell → Prop))) :
    own_Con l Z (⟨"java/lang/StringUTF16", "toBytes", "([CII)[B"⟩ : MethodName) jdk_52_method_14_code 5 (some (.array .byte)) rm_own_tob2 #[(.ref qc_), (.int (0)), (.int (2))] ((qc_, own_ar Z .char [(.int d0_), (.int d1_)]) :: L) (fun v M => ∃ f1, v = some (.ref f1) ∧ M = (f1, own_ar Z .byte [(.int (nar .byte ((d0_ >>> ((0) &&& 31 : Int32) : Int32).toInt8.toInt32))), (.int (nar .byte ((d0_ >>> ((8) &&& 31 : Int32) : Int32).toInt8.toInt32))), (.int (nar .byte ((d1_ >>> ((0) &&& 31 : Int32) : Int32).toInt8.toInt32))), (.int (nar .byte ((d1_ >>> ((8) &&& 31 : Int32) : Int32).toInt8.toInt32)))]) :: (qc_, own_ar Z .char [(.int d0_), (.int d1_)]) :: L) := by
  refine own_con (ls := #[.val (.ref qc_), .val (.int (0)), .val (.int (2)), .unset, .unset]) (plainFor_of_name own_pn2) (fun m => own_ent m rfl) ?_
  intro p e s m below meth c T C X
  refine k_iloadN C X d_jdk_52_method_14_code_0 rfl rfl ?_
  refine k_static C X d_jdk_52_method_14_code_1 rfl (hw _ (List.mem_of_getElem? (i := 101) rfl)) (hw _ (List.mem_of_getElem? (i := 102) rfl)) (hw _ (List.mem_of_getElem? (i := 68) rfl)) (hw _ (List.mem_of_getElem? (i := 103) rfl)) (by decide) (own_nbf2 l Z a0 hw cs fm hS hcs hAD hHI hLO hFM hfc ((qc_, own_ar Z .char [(.int d0_), (.int d1_)]) :: L)) (W := 0) (argsL := [(.int (2))]) (rest := []) rfl rfl rfl own_pd22 rfl (Nat.le_of_eq rfl) (by decide) (by decide) (by decide) (by decide) (fun v T M hQ X => ?_)
  obtain ⟨f1, rfl, rfl⟩ := hQ
  refine k_astoreN C X d_jdk_52_method_14_code_4 rfl rfl (l' := #[.val (.ref qc_), .val (.int (0)), .val (.int (2)), .val (.ref f1), .unset]) rfl ?_
  refine k_iconst C X d_jdk_52_method_14_code_5 rfl (v := 0) rfl ?_
  refine k_istore C X d_jdk_52_method_14_code_6 rfl (l' := #[.val (.ref qc_), .val (.int (0)), .val (.int (2)), .val (.ref f1), .val (.int (0))]) rfl ?_
  refine k_iload C X d_jdk_52_method_14_code_8 rfl rfl ?_
  refine k_iloadN C X d_jdk_52_method_14_code_10 rfl rfl ?_
  refine k_icmp_ge C X d_jdk_52_method_14_code_11 rfl (tpc := 32) rfl (fun hc => (absurd hc (by decide) : False).elim) (fun _ => ?_)
  refine k_aloadN C X d_jdk_52_method_14_code_14 rfl rfl rfl ?_
  refine k_iload C X d_jdk_52_method_14_code_15 rfl rfl ?_
  refine k_aloadN C X d_jdk_52_method_14_code_17 rfl rfl rfl ?_
  refine k_iloadN C X d_jdk_52_method_14_code_18 rfl rfl ?_
  refine k_caload C X d_jdk_52_method_14_code_19 rfl (ix := 1) (i := 0) rfl (by decide) (by decide) rfl ?_
  refine k_static C X d_jdk_52_method_14_code_20 rfl (hw _ (List.mem_of_getElem? (i := 108) rfl)) (hw _ (List.mem_of_getElem? (i := 109) rfl)) (hw _ (List.mem_of_getElem? (i := 68) rfl)) (hw _ (List.mem_of_getElem? (i := 110) rfl)) (by decide) (own_put20 l Z a0 hw f1 d0_ 0 0 0 0 cs fm hS hcs hAD hHI hLO hFM hfc ((qc_, own_ar Z .char [(.int d0_), (.int d1_)]) :: L)) (W := 0) (argsL := [(.ref f1), (.int (0)), (.int d0_)]) (rest := []) rfl rfl rfl own_pd1 rfl (Nat.le_of_eq rfl) (by decide) (by decide) (by decide) (by decide) (fun v T M hQ X => ?_)
  obtain ⟨rfl, rfl⟩ := hQ
  refine k_iinc C X d_jdk_52_method_14_code_23 rfl (v := 1) rfl rfl (l' := #[.val (.ref qc_), .val (.int (1)), .val (.int (2)), .val (.ref f1), .val (.int (0))]) rfl ?_
  refine k_iinc C X d_jdk_52_method_14_code_26 rfl (v := 1) rfl rfl (l' := #[.val (.ref qc_), .val (.int (1)), .val (.int (2)), .val (.ref f1), .val (.int (1))]) rfl ?_
  refine k_goto C X d_jdk_52_method_14_code_29 (tpc := 8) rfl ?_
  refine k_iload C X d_jdk_52_method_14_code_8 rfl rfl ?_
  refine k_iloadN C X d_jdk_52_method_14_code_10 rfl rfl ?_
  refine k_icmp_ge C X d_jdk_52_method_14_code_11 rfl (tpc := 32) rfl (fun hc => (absurd hc (by decide) : False).elim) (fun _ => ?_)
  refine k_aloadN C X d_jdk_52_method_14_code_14 rfl rfl rfl ?_
  refine k_iload C X d_jdk_52_method_14_code_15 rfl rfl ?_
  refine k_aloadN C X d_jdk_52_method_14_code_17 rfl rfl rfl ?_
  refine k_iloadN C X d_jdk_52_method_14_code_18 rfl rfl ?_
  refine k_caload C X d_jdk_52_method_14_code_19 rfl (ix := 1) (i := 1) rfl (by decide) (by decide) rfl ?_
  refine k_static C X d_jdk_52_method_14_code_20 rfl (hw _ (List.mem_of_getElem? (i := 108) rfl)) (hw _ (List.mem_of_getElem? (i := 109) rfl)) (hw _ (List.mem_of_getElem? (i := 68) rfl)) (hw _ (List.mem_of_getElem? (i := 110) rfl)) (by decide) (own_put21 l Z a0 hw f1 d1_ (nar .byte ((d0_ >>> ((0) &&& 31 : Int32) : Int32).toInt8.toInt32)) (nar .byte ((d0_ >>> ((8) &&& 31 : Int32) : Int32).toInt8.toInt32)) 0 0 cs fm hS hcs hAD hHI hLO hFM hfc ((qc_, own_ar Z .char [(.int d0_), (.int d1_)]) :: L)) (W := 0) (argsL := [(.ref f1), (.int (1)), (.int d1_)]) (rest := []) rfl rfl rfl own_pd1 rfl (Nat.le_of_eq rfl) (by decide) (by decide) (by decide) (by decide) (fun v T M hQ X => ?_)
  obtain ⟨rfl, rfl⟩ := hQ
  refine k_iinc C X d_jdk_52_method_14_code_23 rfl (v := 1) rfl rfl (l' := #[.val (.ref qc_), .val (.int (2)), .val (.int (2)), .val (.ref f1), .val (.int (1))]) rfl ?_
  refine k_iinc C X d_jdk_52_method_14_code_26 rfl (v := 1) rfl rfl (l' := #[.val (.ref qc_), .val (.int (2)), .val (.int (2)), .val (.ref f1), .val (.int (2))]) rfl ?_
  refine k_goto C X d_jdk_52_method_14_code_29 (tpc := 8) rfl ?_
  refine k_iload C X d_jdk_52_method_14_code_8 rfl rfl ?_
  refine k_iloadN C X d_jdk_52_method_14_code_10 rfl rfl ?_
  refine k_icmp_ge C X d_jdk_52_method_14_code_11 rfl (tpc := 32) rfl (fun _ => ?_) (fun hc => (absurd hc (by decide) : False).elim)
  refine k_aloadN C X d_jdk_52_method_14_code_32 rfl rfl rfl ?_
  exact k_areturn C X d_jdk_52_method_14_code_33 rfl rfl rfl ⟨f1, rfl, rfl⟩ (by decide) (by decide)
def rm_own_get20 : Room := { frames := 0, cells := 0, slots := 0, locals := 0 }
set_option maxRecDepth 65536 in
set_option maxHeartbeats 40000000 in
theorem own_get20 (l : Launch) (Z : State) (a0 : Array Value) (hw : ∀ d ∈ tables_1, d.before a0 Z = true) (qb_ : Addr) (e0_ : Int32) (e1_ : Int32) (e2_ : Int32) (e3_ : Int32) (cs : Int32) (fm : Value) (hS : Sta Z Z.heap "java/lang/String" "COMPACT_STRINGS" "Z" (.int cs)) (hcs : ¬ cs = 0) (hAD : Sta Z Z.heap "java/lang/StringUTF16" "$assertionsDisabled" "Z" (.int 1)) (hHI : Sta Z Z.heap "java/lang/StringUTF16" "HI_BYTE_SHIFT" "I" (.int 0)) (hLO : Sta Z Z.heap "java/lang/StringUTF16" "LO_BYTE_SHIFT" "I" (.int 8)) (hFM : Sta Z Z.heap "jdk/internal/util/Preconditions" "SIOOBE_FORMATTER" "Ljava/util/function/BiFunction;" fm) (hfc : fm.category = 1) (L : List (Addr × (Cell → Prop))) :
    own_Con l Z (⟨"java/lang/StringUTF16", "getChar", "([BI)C"⟩ : MethodName) jdk_52_method_5_code 2 (some .char) rm_own_get20 #[(.ref qb_), (.int (0))] ((qb_, own_ar Z .byte [(.int e0_), (.int e1_), (.int e2_), (.int e3_)]) :: L) (fun v M => v = some (.int ((((e0_ &&& (255)) <<< ((0) &&& 31 : Int32) : Int32) ||| ((e1_ &&& (255)) <<< ((8) &&& 31 : Int32) : Int32)).toUInt32.toUInt16.toUInt32.toInt32)) ∧ M = (qb_, own_ar Z .byte [(.int e0_), (.int e1_), (.int e2_), (.int e3_)]) :: L) := by
  refine own_con (ls := #[.val (.ref qb_), .val (.int (0))]) (plainFor_of_name own_pn2) (fun m => own_ent m rfl) ?_
  intro p e s m below meth c T C X
  refine k_getstatic C X d_jdk_52_method_5_code_0 rfl (hw _ (List.mem_of_getElem? (i := 111) rfl)) hAD (fun T X => ?_)
  refine k_if_ne C X d_jdk_52_method_5_code_3 rfl (tpc := 28) rfl (fun _ => ?_) (fun hc => (absurd hc (by decide) : False).elim)
  refine k_iloadN C X d_jdk_52_method_5_code_28 rfl rfl ?_
  refine k_iconst C X d_jdk_52_method_5_code_29 rfl (v := 1) rfl ?_
  refine k_ishl C X d_jdk_52_method_5_code_30 rfl ?_
  refine k_istoreN C X d_jdk_52_method_5_code_31 rfl (l' := #[.val (.ref qb_), .val (.int (0))]) rfl ?_
  refine k_aloadN C X d_jdk_52_method_5_code_32 rfl rfl rfl ?_
  refine k_iloadN C X d_jdk_52_method_5_code_33 rfl rfl ?_
  refine k_iinc C X d_jdk_52_method_5_code_34 rfl (v := 1) rfl rfl (l' := #[.val (.ref qb_), .val (.int (1))]) rfl ?_
  refine k_baload C X d_jdk_52_method_5_code_37 rfl (ix := 0) (i := 0) rfl (by decide) (by decide) rfl ?_
  refine k_sipush C X d_jdk_52_method_5_code_38 rfl (v := 255) rfl ?_
  refine k_iand C X d_jdk_52_method_5_code_41 rfl ?_
  refine k_getstatic C X d_jdk_52_method_5_code_42 rfl (hw _ (List.mem_of_getElem? (i := 112) rfl)) hHI (fun T X => ?_)
  refine k_ishl C X d_jdk_52_method_5_code_45 rfl ?_
  refine k_aloadN C X d_jdk_52_method_5_code_46 rfl rfl rfl ?_
  refine k_iloadN C X d_jdk_52_method_5_code_47 rfl rfl ?_
  refine k_baload C X d_jdk_52_method_5_code_48 rfl (ix := 0) (i := 1) rfl (by decide) (by decide) rfl ?_
  refine k_sipush C X d_jdk_52_method_5_code_49 rfl (v := 255) rfl ?_
  refine k_iand C X d_jdk_52_method_5_code_52 rfl ?_
  refine k_getstatic C X d_jdk_52_method_5_code_53 rfl (hw _ (List.mem_of_getElem? (i := 113) rfl)) hLO (fun T X => ?_)
  refine k_ishl C X d_jdk_52_method_5_code_56 rfl ?_
  refine k_ior C X d_jdk_52_method_5_code_57 rfl ?_
  refine k_i2c C X d_jdk_52_method_5_code_58 rfl ?_
  exact k_ireturn C X d_jdk_52_method_5_code_59 (by simp) (own_nch _) ⟨rfl, rfl⟩ (by decide) (by decide)
theorem d_jdk_52_method_16_code_0 : decode jdk_52_method_16_code 0 = .ok (.iload_n 2, 1) := by decide +kernel
theorem d_jdk_52_method_16_code_1 : decode jdk_52_method_16_code 1 = .ok (.newarray .byte, 2) := by decide +kernel
theorem d_jdk_52_method_16_code_3 : decode jdk_52_method_16_code 3 = .ok (.astore_n 3, 1) := by decide +kernel
theorem d_jdk_52_method_16_code_4 : decode jdk_52_method_16_code 4 = .ok (.aload_n 0, 1) := by decide +kernel
theorem d_jdk_52_method_16_code_5 : decode jdk_52_method_16_code 5 = .ok (.iload_n 1, 1) := by decide +kernel
theorem d_jdk_52_method_16_code_6 : decode jdk_52_method_16_code 6 = .ok (.aload_n 3, 1) := by decide +kernel
theorem d_jdk_52_method_16_code_7 : decode jdk_52_method_16_code 7 = .ok (.iconst 0, 1) := by decide +kernel
theorem d_jdk_52_method_16_code_8 : decode jdk_52_method_16_code 8 = .ok (.iload_n 2, 1) := by decide +kernel
theorem d_jdk_52_method_16_code_9 : decode jdk_52_method_16_code 9 = .ok (.invokestatic 115, 3) := by decide +kernel
theorem own_pd23 : parseMethodDescriptor "([CI[BII)I" = some ⟨[(.array .char), .int, (.array .byte), .int, .int], some .int⟩ := by decide +kernel
theorem d_jdk_52_method_16_code_12 : decode jdk_52_method_16_code 12 = .ok (.istore 4, 2) := by decide +kernel
theorem d_jdk_52_method_16_code_14 : decode jdk_52_method_16_code 14 = .ok (.iload 4, 2) := by decide +kernel
theorem d_jdk_52_method_16_code_16 : decode jdk_52_method_16_code 16 = .ok (.iload_n 2, 1) := by decide +kernel
theorem d_jdk_52_method_16_code_17 : decode jdk_52_method_16_code 17 = .ok (.if_icmp .eq 40, 3) := by decide +kernel
theorem d_jdk_52_method_16_code_20 : decode jdk_52_method_16_code 20 = .ok (.aload_n 0, 1) := by decide +kernel
theorem d_jdk_52_method_16_code_21 : decode jdk_52_method_16_code 21 = .ok (.iload_n 1, 1) := by decide +kernel
theorem d_jdk_52_method_16_code_22 : decode jdk_52_method_16_code 22 = .ok (.iload_n 2, 1) := by decide +kernel
theorem d_jdk_52_method_16_code_23 : decode jdk_52_method_16_code 23 = .ok (.invokestatic 119, 3) := by decide +kernel
theorem own_pd24 : parseMethodDescriptor "([CII)[B" = some ⟨[(.array .char), .int, .int], some (.array .byte)⟩ := by decide +kernel
theorem d_jdk_52_method_16_code_26 : decode jdk_52_method_16_code 26 = .ok (.astore 5, 2) := by decide +kernel
theorem d_jdk_52_method_16_code_28 : decode jdk_52_method_16_code 28 = .ok (.aload 5, 2) := by decide +kernel
theorem d_jdk_52_method_16_code_30 : decode jdk_52_method_16_code 30 = .ok (.iload 4, 2) := by decide +kernel
theorem d_jdk_52_method_16_code_32 : decode jdk_52_method_16_code 32 = .ok (.invokestatic 71, 3) := by decide +kernel
theorem d_jdk_52_method_16_code_35 : decode jdk_52_method_16_code 35 = .ok (.sipush 255, 3) := by decide +kernel
theorem d_jdk_52_method_16_code_38 : decode jdk_52_method_16_code 38 = .ok (.if_icmp .gt 16, 3) := by decide +kernel
theorem d_jdk_52_method_16_code_54 : decode jdk_52_method_16_code 54 = .ok (.aload 5, 2) := by decide +kernel
theorem d_jdk_52_method_16_code_56 : decode jdk_52_method_16_code 56 = .ok (.areturn, 1) := by decide +kernel
def rm_own_cmp1_20 : Room := { frames := 3, cells := 2, slots := 6, locals := 40 }
set_option maxRecDepth 65536 in
set_option maxHeartbeats 40000000 in
theorem own_cmp1_20 (l : Launch) (Z : State) (a0 : Array Value) (hw : ∀ d ∈ tables_1, d.before a0 Z = true) (qc_ : Addr) (d0_ : Int32) (d1_ : Int32) (cs : Int32) (fm : Value) (hS : Sta Z Z.heap "java/lang/String" "COMPACT_STRINGS" "Z" (.int cs)) (hcs : ¬ cs = 0) (hAD : Sta Z Z.heap "java/lang/StringUTF16" "$assertionsDisabled" "Z" (.int 1)) (hHI : Sta Z Z.heap "java/lang/StringUTF16" "HI_BYTE_SHIFT" "I" (.int 0)) (hLO : Sta Z Z.heap "java/lang/StringUTF16" "LO_BYTE_SHIFT" "I" (.int 8)) (hFM : Sta Z Z.heap "jdk/internal/util/Preconditions" "SIOOBE_FORMATTER" "Ljava/util/function/BiFunction;" fm) (hfc : fm.category = 1) (c0 : own_ch d0_) (c1 : own_ch d1_) (g0 : (255) < d0_) (L : List (Addr × (Cell → Prop))) :
    own_Con l Z (⟨"java/lang/StringUTF16", "compress", "([CII)[B"⟩ : MethodName) jdk_52_method_16_code 6 (some (.array .byte)) rm_own_cmp1_20 #[(.ref qc_), (.int (0)), (.int (2))] ((qc_, own_ar Z .char [(.int d0_), (.int d1_)]) :: L) (fun v M => ∃ f1 o1, v = some (.ref f1) ∧ M = (f1, own_ar Z .byte [(.int (nar .byte ((d0_ >>> ((0) &&& 31 : Int32) : Int32).toInt8.toInt32))), (.int (nar .byte ((d0_ >>> ((8) &&& 31 : Int32) : Int32).toInt8.toInt32))), (.int (nar .byte ((d1_ >>> ((0) &&& 31 : Int32) : Int32).toInt8.toInt32))), (.int (nar .byte ((d1_ >>> ((8) &&& 31 : Int32) : Int32).toInt8.toInt32)))]) :: (qc_, own_ar Z .char [(.int d0_), (.int d1_)]) :: (o1, own_ar Z .byte [(.int 0), (.int 0)]) :: L) := by
  refine own_con (ls := #[.val (.ref qc_), .val (.int (0)), .val (.int (2)), .unset, .unset, .unset]) (plainFor_of_name own_pn2) (fun m => own_ent m rfl) ?_
  intro p e s m below meth c T C X
  refine k_iloadN C X d_jdk_52_method_16_code_0 rfl rfl ?_
  refine k_newarray C X d_jdk_52_method_16_code_1 rfl (ty := .byte) rfl (hw _ (List.mem_of_getElem? (i := 16) rfl)) (by decide) (cap := 2) (by decide) (by decide) (by decide) (by decide) (vs := [(.int 0), (.int 0)]) rfl (fun T o1 X => ?_)
  refine k_astoreN C X d_jdk_52_method_16_code_3 rfl rfl (l' := #[.val (.ref qc_), .val (.int (0)), .val (.int (2)), .val (.ref o1), .unset, .unset]) rfl ?_
  refine k_aloadN C X d_jdk_52_method_16_code_4 rfl rfl rfl ?_
  refine k_iloadN C X d_jdk_52_method_16_code_5 rfl rfl ?_
  refine k_aloadN C X d_jdk_52_method_16_code_6 rfl rfl rfl ?_
  refine k_iconst C X d_jdk_52_method_16_code_7 rfl (v := 0) rfl ?_
  refine k_iloadN C X d_jdk_52_method_16_code_8 rfl rfl ?_
  replace X := X.bring (i := 1) rfl (M := (qc_, own_ar Z .char [(.int d0_), (.int d1_)]) :: (o1, own_ar Z .byte [(.int 0), (.int 0)]) :: L) rfl
  refine k_static C X d_jdk_52_method_16_code_9 rfl (hw _ (List.mem_of_getElem? (i := 70) rfl)) (hw _ (List.mem_of_getElem? (i := 71) rfl)) (hw _ (List.mem_of_getElem? (i := 68) rfl)) (hw _ (List.mem_of_getElem? (i := 72) rfl)) (by decide) (own_cmp2_20 l Z a0 hw qc_ o1 d0_ d1_ cs fm hS hcs hAD hHI hLO hFM hfc c0 c1 g0 (L)) (W := 0) (argsL := [(.ref qc_), (.int (0)), (.ref o1), (.int (0)), (.int (2))]) (rest := []) rfl rfl rfl own_pd23 rfl (Nat.le_of_eq rfl) (by decide) (by decide) (by decide) (by decide) (fun v T M hQ X => ?_)
  obtain ⟨rfl, rfl⟩ := hQ
  refine k_istore C X d_jdk_52_method_16_code_12 rfl (l' := #[.val (.ref qc_), .val (.int (0)), .val (.int (2)), .val (.ref o1), .val (.int (0)), .unset]) rfl ?_
  refine k_iload C X d_jdk_52_method_16_code_14 rfl rfl ?_
  refine k_iloadN C X d_jdk_52_method_16_code_16 rfl rfl ?_
  refine k_icmp_eq C X d_jdk_52_method_16_code_17 rfl (tpc := 57) rfl (fun hc => (absurd hc (by decide) : False).elim) (fun _ => ?_)
  refine k_aloadN C X d_jdk_52_method_16_code_20 rfl rfl rfl ?_
  refine k_iloadN C X d_jdk_52_method_16_code_21 rfl rfl ?_
  refine k_iloadN C X d_jdk_52_method_16_code_22 rfl rfl ?_
  refine k_static C X d_jdk_52_method_16_code_23 rfl (hw _ (List.mem_of_getElem? (i := 98) rfl)) (hw _ (List.mem_of_getElem? (i := 99) rfl)) (hw _ (List.mem_of_getElem? (i := 68) rfl)) (hw _ (List.mem_of_getElem? (i := 100) rfl)) (by decide) (own_tob2 l Z a0 hw qc_ d0_ d1_ cs fm hS hcs hAD hHI hLO hFM hfc ((o1, own_ar Z .byte [(.int 0), (.int 0)]) :: L)) (W := 0) (argsL := [(.ref qc_), (.int (0)), (.int (2))]) (rest := []) rfl rfl rfl own_pd24 rfl (Nat.le_of_eq rfl) (by decide) (by decide) (by decide) (by decide) (fun v T M hQ X => ?_)
  obtain ⟨f1, rfl, rfl⟩ := hQ
  refine k_astore C X d_jdk_52_method_16_code_26 rfl rfl (l' := #[.val (.ref qc_), .val (.int (0)), .val (.int (2)), .val (.ref o1), .val (.int (0)), .val (.ref f1)]) rfl ?_
  refine k_aload C X d_jdk_52_method_16_code_28 rfl rfl rfl ?_
  refine k_iload C X d_jdk_52_method_16_code_30 rfl rfl ?_
  refine k_static C X d_jdk_52_method_16_code_32 rfl (hw _ (List.mem_of_getElem? (i := 114) rfl)) (hw _ (List.mem_of_getElem? (i := 115) rfl)) (hw _ (List.mem_of_getElem? (i := 68) rfl)) (hw _ (List.mem_of_getElem? (i := 116) rfl)) (by decide) (own_get20 l Z a0 hw f1 (nar .byte ((d0_ >>> ((0) &&& 31 : Int32) : Int32).toInt8.toInt32)) (nar .byte ((d0_ >>> ((8) &&& 31 : Int32) : Int32).toInt8.toInt32)) (nar .byte ((d1_ >>> ((0) &&& 31 : Int32) : Int32).toInt8.toInt32)) (nar .byte ((d1_ >>> ((8) &&& 31 : Int32) : Int32).toInt8.toInt32)) cs fm hS hcs hAD hHI hLO hFM hfc ((qc_, own_ar Z .char [(.int d0_), (.int d1_)]) :: (o1, own_ar Z .byte [(.int 0), (.int 0)]) :: L)) (W := 0) (argsL := [(.ref f1), (.int (0))]) (rest := []) rfl rfl rfl own_pd18 rfl (Nat.le_of_eq rfl) (by decide) (by decide) (by decide) (by decide) (fun v T M hQ X => ?_)
  obtain ⟨rfl, rfl⟩ := hQ
  refine k_sipush C X d_jdk_52_method_16_code_35 rfl (v := 255) rfl ?_
  refine k_icmp_gt C X d_jdk_52_method_16_code_38 rfl (tpc := 54) rfl (fun _ => ?_) (fun hc => (hc (own_gt c0 g0) : False).elim)
  refine k_aload C X d_jdk_52_method_16_code_54 rfl rfl rfl ?_
  exact k_areturn C X d_jdk_52_method_16_code_56 rfl rfl rfl ⟨f1, o1, rfl, rfl⟩ (by decide) (by decide)
theorem d_jdk_52_method_15_code_0 : decode jdk_52_method_15_code 0 = .ok (.iload_n 1, 1) := by decide +kernel
theorem d_jdk_52_method_15_code_1 : decode jdk_52_method_15_code 1 = .ok (.aload_n 0, 1) := by decide +kernel
theorem d_jdk_52_method_15_code_2 : decode jdk_52_method_15_code 2 = .ok (.arraylength, 1) := by decide +kernel
theorem d_jdk_52_method_15_code_3 : decode jdk_52_method_15_code 3 = .ok (.isub, 1) := by decide +kernel
theorem d_jdk_52_method_15_code_4 : decode jdk_52_method_15_code 4 = .ok (.bipush 31, 2) := by decide +kernel
theorem d_jdk_52_method_15_code_6 : decode jdk_52_method_15_code 6 = .ok (.iushr, 1) := by decide +kernel
theorem d_jdk_52_method_15_code_7 : decode jdk_52_method_15_code 7 = .ok (.i2b, 1) := by decide +kernel
theorem d_jdk_52_method_15_code_8 : decode jdk_52_method_15_code 8 = .ok (.ireturn, 1) := by decide +kernel
def rm_own_cl24 : Room := { frames := 0, cells := 0, slots := 0, locals := 0 }
set_option maxRecDepth 65536 in
set_option maxHeartbeats 40000000 in
theorem own_cl24 (l : Launch) (Z : State) (a0 : Array Value) (hw : ∀ d ∈ tables_1, d.before a0 Z = true) (qb_ : Addr) (e0_ : Int32) (e1_ : Int32) (e2_ : Int32) (e3_ : Int32) (cs : Int32) (fm : Value) (hS : Sta Z Z.heap "java/lang/String" "COMPACT_STRINGS" "Z" (.int cs)) (hcs : ¬ cs = 0) (hAD : Sta Z Z.heap "java/lang/StringUTF16" "$assertionsDisabled" "Z" (.int 1)) (hHI : Sta Z Z.heap "java/lang/StringUTF16" "HI_BYTE_SHIFT" "I" (.int 0)) (hLO : Sta Z Z.heap "java/lang/StringUTF16" "LO_BYTE_SHIFT" "I" (.int 8)) (hFM : Sta Z Z.heap "jdk/internal/util/Preconditions" "SIOOBE_FORMATTER" "Ljava/util/function/BiFunction;" fm) (hfc : fm.category = 1) (L : List (Addr × (Cell → Prop))) :
    own_Con l Z (⟨"java/lang/StringUTF16", "coderFromArrayLen", "([BI)B"⟩ : MethodName) jdk_52_method_15_code 2 (some .byte) rm_own_cl24 #[(.ref qb_), (.int (2))] ((qb_, own_ar Z .byte [(.int e0_), (.int e1_), (.int e2_), (.int e3_)]) :: L) (fun v M => v = some (.int (1)) ∧ M = (qb_, own_ar Z .byte [(.int e0_), (.int e1_), (.int e2_), (.int e3_)]) :: L) := by
  refine own_con (ls := #[.val (.ref qb_), .val (.int (2))]) (plainFor_of_name own_pn2) (fun m => own_ent m rfl) ?_
  intro p e s m below meth c T C X
  refine k_iloadN C X d_jdk_52_method_15_code_0 rfl rfl ?_
  refine k_aloadN C X d_jdk_52_method_15_code_1 rfl rfl rfl ?_
  refine k_arraylength C X d_jdk_52_method_15_code_2 rfl (ix := 0) rfl (z := (4)) rfl ?_
  refine k_isub C X d_jdk_52_method_15_code_3 rfl ?_
  refine k_bipush C X d_jdk_52_method_15_code_4 rfl (v := 31) rfl ?_
  refine k_iushr C X d_jdk_52_method_15_code_6 rfl ?_
  refine k_i2b C X d_jdk_52_method_15_code_7 rfl ?_
  exact k_ireturn C X d_jdk_52_method_15_code_8 (by simp) rfl ⟨rfl, rfl⟩ (by decide) (by decide)
theorem d_jdk_42_method_149_code_27 : decode jdk_42_method_149_code 27 = .ok (.getstatic 38, 3) := by decide +kernel
theorem d_jdk_42_method_149_code_30 : decode jdk_42_method_149_code 30 = .ok (.ifCond .eq 28, 3) := by decide +kernel
theorem d_jdk_42_method_149_code_33 : decode jdk_42_method_149_code 33 = .ok (.aload_n 1, 1) := by decide +kernel
theorem d_jdk_42_method_149_code_34 : decode jdk_42_method_149_code 34 = .ok (.iload_n 2, 1) := by decide +kernel
theorem d_jdk_42_method_149_code_35 : decode jdk_42_method_149_code 35 = .ok (.iload_n 3, 1) := by decide +kernel
theorem d_jdk_42_method_149_code_36 : decode jdk_42_method_149_code 36 = .ok (.invokestatic 177, 3) := by decide +kernel
theorem d_jdk_42_method_149_code_39 : decode jdk_42_method_149_code 39 = .ok (.astore 5, 2) := by decide +kernel
theorem d_jdk_42_method_149_code_41 : decode jdk_42_method_149_code 41 = .ok (.aload_n 0, 1) := by decide +kernel
theorem d_jdk_42_method_149_code_42 : decode jdk_42_method_149_code 42 = .ok (.aload 5, 2) := by decide +kernel
theorem d_jdk_42_method_149_code_44 : decode jdk_42_method_149_code 44 = .ok (.iload_n 3, 1) := by decide +kernel
theorem d_jdk_42_method_149_code_45 : decode jdk_42_method_149_code 45 = .ok (.invokestatic 47, 3) := by decide +kernel
theorem own_pd25 : parseMethodDescriptor "([BI)B" = some ⟨[(.array .byte), .int], some .byte⟩ := by decide +kernel
theorem d_jdk_42_method_149_code_48 : decode jdk_42_method_149_code 48 = .ok (.putfield 15, 3) := by decide +kernel
theorem d_jdk_42_method_149_code_51 : decode jdk_42_method_149_code 51 = .ok (.aload_n 0, 1) := by decide +kernel
theorem d_jdk_42_method_149_code_52 : decode jdk_42_method_149_code 52 = .ok (.aload 5, 2) := by decide +kernel
theorem d_jdk_42_method_149_code_54 : decode jdk_42_method_149_code 54 = .ok (.putfield 9, 3) := by decide +kernel
theorem d_jdk_42_method_149_code_57 : decode jdk_42_method_149_code 57 = .ok (.return_, 1) := by decide +kernel
def rm_own_si2_20 : Room := { frames := 4, cells := 2, slots := 6, locals := 57 }
set_option maxRecDepth 65536 in
set_option maxHeartbeats 40000000 in
theorem own_si2_20 (l : Launch) (Z : State) (a0 : Array Value) (hw : ∀ d ∈ tables_1, d.before a0 Z = true) (sa_ : Addr) (qc_ : Addr) (d0_ : Int32) (d1_ : Int32) (cs : Int32) (fm : Value) (hS : Sta Z Z.heap "java/lang/String" "COMPACT_STRINGS" "Z" (.int cs)) (hcs : ¬ cs = 0) (hAD : Sta Z Z.heap "java/lang/StringUTF16" "$assertionsDisabled" "Z" (.int 1)) (hHI : Sta Z Z.heap "java/lang/StringUTF16" "HI_BYTE_SHIFT" "I" (.int 0)) (hLO : Sta Z Z.heap "java/lang/StringUTF16" "LO_BYTE_SHIFT" "I" (.int 8)) (hFM : Sta Z Z.heap "jdk/internal/util/Preconditions" "SIOOBE_FORMATTER" "Ljava/util/function/BiFunction;" fm) (hfc : fm.category = 1) (c0 : own_ch d0_) (c1 : own_ch d1_) (g0 : (255) < d0_) (L : List (Addr × (Cell → Prop))) :
    own_Con l Z (⟨"java/lang/String", "<init>", "([CIILjava/lang/Void;)V"⟩ : MethodName) jdk_42_method_149_code 6 none rm_own_si2_20 #[(.ref sa_), (.ref qc_), (.int (0)), (.int (2)), .null] ((sa_, own_ob Z "java/lang/String" [("value", "[B", .null), ("coder", "B", (.int (0)))]) :: (qc_, own_ar Z .char [(.int d0_), (.int d1_)]) :: L) (fun v M => ∃ f1 f2, v = none ∧ M = (f1, own_ar Z .byte [(.int (nar .byte ((d0_ >>> ((0) &&& 31 : Int32) : Int32).toInt8.toInt32))), (.int (nar .byte ((d0_ >>> ((8) &&& 31 : Int32) : Int32).toInt8.toInt32))), (.int (nar .byte ((d1_ >>> ((0) &&& 31 : Int32) : Int32).toInt8.toInt32))), (.int (nar .byte ((d1_ >>> ((8) &&& 31 : Int32) : Int32).toInt8.toInt32)))]) :: (qc_, own_ar Z .char [(.int d0_), (.int d1_)]) :: (f2, own_ar Z .byte [(.int 0), (.int 0)]) :: (sa_, own_ob Z "java/lang/String" [("value", "[B", (.ref f1)), ("coder", "B", (.int (1)))]) :: L) := by
  refine own_con (ls := #[.val (.ref sa_), .val (.ref qc_), .val (.int (0)), .val (.int (2)), .val .null, .unset]) (plainFor_of_name own_pn0) (fun m => own_ent m rfl) ?_
  intro p e s m below meth c T C X
  refine k_aloadN C X d_jdk_42_method_149_code_0 rfl rfl rfl ?_
  refine k_initO C X d_jdk_42_method_149_code_1 rfl (hw _ (List.mem_of_getElem? (i := 12) rfl)) (hw _ (List.mem_of_getElem? (i := 13) rfl)) (hw _ (List.mem_of_getElem? (i := 14) rfl)) rfl (W := 0) (Nat.le_of_eq rfl) (by decide) (by decide) (fun T X => ?_)
  refine k_iloadN C X d_jdk_42_method_149_code_4 rfl rfl ?_
  refine k_if_ne C X d_jdk_42_method_149_code_5 rfl (tpc := 27) rfl (fun _ => ?_) (fun hc => (absurd hc (by decide) : False).elim)
  refine k_getstatic C X d_jdk_42_method_149_code_27 rfl (hw _ (List.mem_of_getElem? (i := 60) rfl)) hS (fun T X => ?_)
  refine k_if_eq C X d_jdk_42_method_149_code_30 rfl (tpc := 58) rfl (fun hc => (hcs hc : False).elim) (fun _ => ?_)
  refine k_aloadN C X d_jdk_42_method_149_code_33 rfl rfl rfl ?_
  refine k_iloadN C X d_jdk_42_method_149_code_34 rfl rfl ?_
  refine k_iloadN C X d_jdk_42_method_149_code_35 rfl rfl ?_
  replace X := X.bring (i := 1) rfl (M := (qc_, own_ar Z .char [(.int d0_), (.int d1_)]) :: (sa_, own_ob Z "java/lang/String" [("value", "[B", .null), ("coder", "B", (.int (0)))]) :: L) rfl
  refine k_static C X d_jdk_42_method_149_code_36 rfl (hw _ (List.mem_of_getElem? (i := 66) rfl)) (hw _ (List.mem_of_getElem? (i := 67) rfl)) (hw _ (List.mem_of_getElem? (i := 68) rfl)) (hw _ (List.mem_of_getElem? (i := 69) rfl)) (by decide) (own_cmp1_20 l Z a0 hw qc_ d0_ d1_ cs fm hS hcs hAD hHI hLO hFM hfc c0 c1 g0 ((sa_, own_ob Z "java/lang/String" [("value", "[B", .null), ("coder", "B", (.int (0)))]) :: L)) (W := 0) (argsL := [(.ref qc_), (.int (0)), (.int (2))]) (rest := []) rfl rfl rfl own_pd24 rfl (Nat.le_of_eq rfl) (by decide) (by decide) (by decide) (by decide) (fun v T M hQ X => ?_)
  obtain ⟨f1, f2, rfl, rfl⟩ := hQ
  refine k_astore C X d_jdk_42_method_149_code_39 rfl rfl (l' := #[.val (.ref sa_), .val (.ref qc_), .val (.int (0)), .val (.int (2)), .val .null, .val (.ref f1)]) rfl ?_
  refine k_aloadN C X d_jdk_42_method_149_code_41 rfl rfl rfl ?_
  refine k_aload C X d_jdk_42_method_149_code_42 rfl rfl rfl ?_
  refine k_iloadN C X d_jdk_42_method_149_code_44 rfl rfl ?_
  refine k_static C X d_jdk_42_method_149_code_45 rfl (hw _ (List.mem_of_getElem? (i := 73) rfl)) (hw _ (List.mem_of_getElem? (i := 74) rfl)) (hw _ (List.mem_of_getElem? (i := 68) rfl)) (hw _ (List.mem_of_getElem? (i := 75) rfl)) (by decide) (own_cl24 l Z a0 hw f1 (nar .byte ((d0_ >>> ((0) &&& 31 : Int32) : Int32).toInt8.toInt32)) (nar .byte ((d0_ >>> ((8) &&& 31 : Int32) : Int32).toInt8.toInt32)) (nar .byte ((d1_ >>> ((0) &&& 31 : Int32) : Int32).toInt8.toInt32)) (nar .byte ((d1_ >>> ((8) &&& 31 : Int32) : Int32).toInt8.toInt32)) cs fm hS hcs hAD hHI hLO hFM hfc ((qc_, own_ar Z .char [(.int d0_), (.int d1_)]) :: (f2, own_ar Z .byte [(.int 0), (.int 0)]) :: (sa_, own_ob Z "java/lang/String" [("value", "[B", .null), ("coder", "B", (.int (0)))]) :: L)) (W := 1) (argsL := [(.ref f1), (.int (2))]) (rest := [(.ref sa_)]) rfl rfl rfl own_pd25 rfl (Nat.le_of_eq rfl) (by decide) (by decide) (by decide) (by decide) (fun v T M hQ X => ?_)
  obtain ⟨rfl, rfl⟩ := hQ
  refine k_putfield C X d_jdk_42_method_149_code_48 rfl (host := "") (Or.inl (hw _ (List.mem_of_getElem? (i := 22) rfl))) (hw _ (List.mem_of_getElem? (i := 2) rfl)) (Or.inr ⟨(hw _ (List.mem_of_getElem? (i := 18) rfl)), rfl, rfl⟩) (own_lay_String hw) own_lay_String_nd (ix := 3) (j := 1) rfl rfl rfl (fs' := [("value", "[B", .null), ("coder", "B", (.int (1)))]) rfl (ty := .byte) (by decide) rfl rfl (L' := (f1, own_ar Z .byte [(.int (nar .byte ((d0_ >>> ((0) &&& 31 : Int32) : Int32).toInt8.toInt32))), (.int (nar .byte ((d0_ >>> ((8) &&& 31 : Int32) : Int32).toInt8.toInt32))), (.int (nar .byte ((d1_ >>> ((0) &&& 31 : Int32) : Int32).toInt8.toInt32))), (.int (nar .byte ((d1_ >>> ((8) &&& 31 : Int32) : Int32).toInt8.toInt32)))]) :: (qc_, own_ar Z .char [(.int d0_), (.int d1_)]) :: (f2, own_ar Z .byte [(.int 0), (.int 0)]) :: (sa_, own_ob Z "java/lang/String" [("value", "[B", .null), ("coder", "B", (.int (1)))]) :: L) rfl (fun T X => ?_)
  refine k_aloadN C X d_jdk_42_method_149_code_51 rfl rfl rfl ?_
  refine k_aload C X d_jdk_42_method_149_code_52 rfl rfl rfl ?_
  refine k_putfield C X d_jdk_42_method_149_code_54 rfl (host := "") (Or.inl (hw _ (List.mem_of_getElem? (i := 21) rfl))) (hw _ (List.mem_of_getElem? (i := 2) rfl)) (Or.inr ⟨(hw _ (List.mem_of_getElem? (i := 17) rfl)), rfl, rfl⟩) (own_lay_String hw) own_lay_String_nd (ix := 3) (j := 0) rfl rfl rfl (fs' := [("value", "[B", (.ref f1)), ("coder", "B", (.int (1)))]) rfl (ty := (.array .byte)) (by decide) rfl rfl (L' := (f1, own_ar Z .byte [(.int (nar .byte ((d0_ >>> ((0) &&& 31 : Int32) : Int32).toInt8.toInt32))), (.int (nar .byte ((d0_ >>> ((8) &&& 31 : Int32) : Int32).toInt8.toInt32))), (.int (nar .byte ((d1_ >>> ((0) &&& 31 : Int32) : Int32).toInt8.toInt32))), (.int (nar .byte ((d1_ >>> ((8) &&& 31 : Int32) : Int32).toInt8.toInt32)))]) :: (qc_, own_ar Z .char [(.int d0_), (.int d1_)]) :: (f2, own_ar Z .byte [(.int 0), (.int 0)]) :: (sa_, own_ob Z "java/lang/String" [("value", "[B", (.ref f1)), ("coder", "B", (.int (1)))]) :: L) rfl (fun T X => ?_)
  exact k_return C X d_jdk_42_method_149_code_57 ⟨f1, f2, rfl, rfl⟩ (by decide) (by decide)
def rm_own_si1_20 : Room := { frames := 5, cells := 2, slots := 6, locals := 74 }
set_option maxRecDepth 65536 in
set_option maxHeartbeats 40000000 in
theorem own_si1_20 (l : Launch) (Z : State) (a0 : Array Value) (hw : ∀ d ∈ tables_1, d.before a0 Z = true) (sa_ : Addr) (qc_ : Addr) (d0_ : Int32) (d1_ : Int32) (cs : Int32) (fm : Value) (hS : Sta Z Z.heap "java/lang/String" "COMPACT_STRINGS" "Z" (.int cs)) (hcs : ¬ cs = 0) (hAD : Sta Z Z.heap "java/lang/StringUTF16" "$assertionsDisabled" "Z" (.int 1)) (hHI : Sta Z Z.heap "java/lang/StringUTF16" "HI_BYTE_SHIFT" "I" (.int 0)) (hLO : Sta Z Z.heap "java/lang/StringUTF16" "LO_BYTE_SHIFT" "I" (.int 8)) (hFM : Sta Z Z.heap "jdk/internal/util/Preconditions" "SIOOBE_FORMATTER" "Ljava/util/function/BiFunction;" fm) (hfc : fm.category = 1) (c0 : own_ch d0_) (c1 : own_ch d1_) (g0 : (255) < d0_) (L : List (Addr × (Cell → Prop))) :
    own_Con l Z (⟨"java/lang/String", "<init>", "([C)V"⟩ : MethodName) jdk_42_method_3_code 2 none rm_own_si1_20 #[(.ref sa_), (.ref qc_)] ((sa_, own_ob Z "java/lang/String" [("value", "[B", .null), ("coder", "B", (.int (0)))]) :: (qc_, own_ar Z .char [(.int d0_), (.int d1_)]) :: L) (fun v M => ∃ f1 f2, v = none ∧ M = (f1, own_ar Z .byte [(.int (nar .byte ((d0_ >>> ((0) &&& 31 : Int32) : Int32).toInt8.toInt32))), (.int (nar .byte ((d0_ >>> ((8) &&& 31 : Int32) : Int32).toInt8.toInt32))), (.int (nar .byte ((d1_ >>> ((0) &&& 31 : Int32) : Int32).toInt8.toInt32))), (.int (nar .byte ((d1_ >>> ((8) &&& 31 : Int32) : Int32).toInt8.toInt32)))]) :: (qc_, own_ar Z .char [(.int d0_), (.int d1_)]) :: (f2, own_ar Z .byte [(.int 0), (.int 0)]) :: (sa_, own_ob Z "java/lang/String" [("value", "[B", (.ref f1)), ("coder", "B", (.int (1)))]) :: L) := by
  refine own_con (ls := #[.val (.ref sa_), .val (.ref qc_)]) (plainFor_of_name own_pn0) (fun m => own_ent m rfl) ?_
  intro p e s m below meth c T C X
  refine k_aloadN C X d_jdk_42_method_3_code_0 rfl rfl rfl ?_
  refine k_aloadN C X d_jdk_42_method_3_code_1 rfl rfl rfl ?_
  refine k_iconst C X d_jdk_42_method_3_code_2 rfl (v := 0) rfl ?_
  refine k_aloadN C X d_jdk_42_method_3_code_3 rfl rfl rfl ?_
  refine k_arraylength C X d_jdk_42_method_3_code_4 rfl (ix := 1) rfl (z := (2)) rfl ?_
  refine k_aconst_null C X d_jdk_42_method_3_code_5 rfl ?_
  replace X := X.bring (i := 1) rfl (M := (qc_, own_ar Z .char [(.int d0_), (.int d1_)]) :: (sa_, own_ob Z "java/lang/String" [("value", "[B", .null), ("coder", "B", (.int (0)))]) :: L) rfl
  replace X := X.bring (i := 1) rfl (M := (sa_, own_ob Z "java/lang/String" [("value", "[B", .null), ("coder", "B", (.int (0)))]) :: (qc_, own_ar Z .char [(.int d0_), (.int d1_)]) :: L) rfl
  refine k_init C X d_jdk_42_method_3_code_6 rfl rfl (hw _ (List.mem_of_getElem? (i := 8) rfl)) (hw _ (List.mem_of_getElem? (i := 9) rfl)) (hw _ (List.mem_of_getElem? (i := 3) rfl)) (hw _ (List.mem_of_getElem? (i := 11) rfl)) (by decide) (own_si2_20 l Z a0 hw sa_ qc_ d0_ d1_ cs fm hS hcs hAD hHI hLO hFM hfc c0 c1 g0 (L)) (W := 0) (argsL := [(.ref qc_), (.int (0)), (.int (2)), .null]) (rest := []) rfl rfl rfl own_pd0 rfl (Nat.le_of_eq rfl) (by decide) (by decide) (by decide) (by decide) (fun v T M hQ X => ?_)
  obtain ⟨f1, f2, rfl, rfl⟩ := hQ
  exact k_return C X d_jdk_42_method_3_code_9 ⟨f1, f2, rfl, rfl⟩ (by decide) (by decide)
def rm_own_len21 : Room := { frames := 1, cells := 0, slots := 0, locals := 13 }
set_option maxRecDepth 65536 in
set_option maxHeartbeats 40000000 in
theorem own_len21 (l : Launch) (Z : State) (a0 : Array Value) (hw : ∀ d ∈ tables_1, d.before a0 Z = true) (sa_ : Addr) (qb_ : Addr) (e0_ : Int32) (e1_ : Int32) (e2_ : Int32) (e3_ : Int32) (cs : Int32) (fm : Value) (hS : Sta Z Z.heap "java/lang/String" "COMPACT_STRINGS" "Z" (.int cs)) (hcs : ¬ cs = 0) (hAD : Sta Z Z.heap "java/lang/StringUTF16" "$assertionsDisabled" "Z" (.int 1)) (hHI : Sta Z Z.heap "java/lang/StringUTF16" "HI_BYTE_SHIFT" "I" (.int 0)) (hLO : Sta Z Z.heap "java/lang/StringUTF16" "LO_BYTE_SHIFT" "I" (.int 8)) (hFM : Sta Z Z.heap "jdk/internal/util/Preconditions" "SIOOBE_FORMATTER" "Ljava/util/function/BiFunction;" fm) (hfc : fm.category = 1) (L : List (Addr × (Cell → Prop))) :
    own_Con l Z (⟨"java/lang/String", "length", "()I"⟩ : MethodName) jdk_42_method_54_code 1 (some .int) rm_own_len21 #[(.ref sa_)] ((sa_, own_ob Z "java/lang/String" [("value", "[B", (.ref qb_)), ("coder", "B", (.int (1)))]) :: (qb_, own_ar Z .byte [(.int e0_), (.int e1_), (.int e2_), (.int e3_)]) :: L) (fun v M => v = some (.int (2)) ∧ M = (sa_, own_ob Z "java/lang/String" [("value", "[B", (.ref qb_)), ("coder", "B", (.int (1)))]) :: (qb_, own_ar Z .byte [(.int e0_), (.int e1_), (.int e2_), (.int e3_)]) :: L) := by
  refine own_con (ls := #[.val (.ref sa_)]) (plainFor_of_name own_pn0) (fun m => own_ent m rfl) ?_
  intro p e s m below meth c T C X
  refine k_aloadN C X d_jdk_42_method_54_code_0 rfl rfl rfl ?_
  refine k_getfield C X d_jdk_42_method_54_code_1 rfl (host := "") (Or.inl (hw _ (List.mem_of_getElem? (i := 21) rfl))) (own_fL (ix := 0) (j := 0) rfl rfl) (fun T X => ?_)
  refine k_arraylength C X d_jdk_42_method_54_code_4 rfl (ix := 1) rfl (z := (4)) rfl ?_
  refine k_aloadN C X d_jdk_42_method_54_code_5 rfl rfl rfl ?_
  refine k_virtual C X d_jdk_42_method_54_code_6 rfl (hw _ (List.mem_of_getElem? (i := 55) rfl)) (hw _ (List.mem_of_getElem? (i := 56) rfl)) (hw _ (List.mem_of_getElem? (i := 3) rfl)) (hw _ (List.mem_of_getElem? (i := 59) rfl)) (hw _ (List.mem_of_getElem? (i := 58) rfl)) (hw _ (List.mem_of_getElem? (i := 57) rfl)) (by decide) (own_nf C.2.2.2.1 (hw _ (List.mem_of_getElem? (i := 58) rfl))) (own_eL (ix := 0) rfl) (own_coder1 l Z a0 hw sa_ qb_ cs fm hS hcs hAD hHI hLO hFM hfc ((qb_, own_ar Z .byte [(.int e0_), (.int e1_), (.int e2_), (.int e3_)]) :: L)) (W := 1) (argsL := []) (rest := [(.int (4))]) rfl rfl rfl own_pd2 rfl (Nat.le_of_eq rfl) (by decide) (by decide) (by decide) (by decide) (fun v T M hQ X => ?_)
  obtain ⟨rfl, rfl⟩ := hQ
  refine k_ishr C X d_jdk_42_method_54_code_9 rfl ?_
  exact k_ireturn C X d_jdk_42_method_54_code_10 (by simp) rfl ⟨rfl, rfl⟩ (by decide) (by decide)
def rm_own_pci02 : Room := { frames := 0, cells := 0, slots := 0, locals := 0 }
set_option maxRecDepth 65536 in
set_option maxHeartbeats 40000000 in
theorem own_pci02 (l : Launch) (Z : State) (a0 : Array Value) (hw : ∀ d ∈ tables_1, d.before a0 Z = true) (fm_ : Value) (cs : Int32) (fm : Value) (hS : Sta Z Z.heap "java/lang/String" "COMPACT_STRINGS" "Z" (.int cs)) (hcs : ¬ cs = 0) (hAD : Sta Z Z.heap "java/lang/StringUTF16" "$assertionsDisabled" "Z" (.int 1)) (hHI : Sta Z Z.heap "java/lang/StringUTF16" "HI_BYTE_SHIFT" "I" (.int 0)) (hLO : Sta Z Z.heap "java/lang/StringUTF16" "LO_BYTE_SHIFT" "I" (.int 8)) (hFM : Sta Z Z.heap "jdk/internal/util/Preconditions" "SIOOBE_FORMATTER" "Ljava/util/function/BiFunction;" fm) (hfc : fm.category = 1) (hfm_ : fm_.category = 1) (L : List (Addr × (Cell → Prop))) :
    own_Con l Z (⟨"jdk/internal/util/Preconditions", "checkIndex", "(IILjava/util/function/BiFunction;)I"⟩ : MethodName) jdk_41_method_11_code 3 (some .int) rm_own_pci02 #[(.int (0)), (.int (2)), fm_] (L) (fun v M => v = some (.int (0)) ∧ M = L) := by
  refine own_con (ls := #[.val (.int (0)), .val (.int (2)), .val fm_]) (plainFor_of_name own_pn5) (fun m => own_ent m (by rw [own_locs1 (v := (.int (0))) rfl, own_locs1 (v := (.int (2))) rfl, own_locs1 hfm_]; rfl)) ?_
  intro p e s m below meth c T C X
  refine k_iloadN C X d_jdk_41_method_11_code_0 rfl rfl ?_
  refine k_if_lt C X d_jdk_41_method_11_code_1 rfl (tpc := 9) rfl (fun hc => (absurd hc (by decide) : False).elim) (fun _ => ?_)
  refine k_iloadN C X d_jdk_41_method_11_code_4 rfl rfl ?_
  refine k_iloadN C X d_jdk_41_method_11_code_5 rfl rfl ?_
  refine k_icmp_lt C X d_jdk_41_method_11_code_6 rfl (tpc := 16) rfl (fun _ => ?_) (fun hc => (absurd hc (by decide) : False).elim)
  refine k_iloadN C X d_jdk_41_method_11_code_16 rfl rfl ?_
  exact k_ireturn C X d_jdk_41_method_11_code_17 (by simp) rfl ⟨rfl, rfl⟩ (by decide) (by decide)
def rm_own_chk02 : Room := { frames := 1, cells := 0, slots := 0, locals := 14 }
set_option maxRecDepth 65536 in
set_option maxHeartbeats 40000000 in
theorem own_chk02 (l : Launch) (Z : State) (a0 : Array Value) (hw : ∀ d ∈ tables_1, d.before a0 Z = true)  (cs : Int32) (fm : Value) (hS : Sta Z Z.heap "java/lang/String" "COMPACT_STRINGS" "Z" (.int cs)) (hcs : ¬ cs = 0) (hAD : Sta Z Z.heap "java/lang/StringUTF16" "$assertionsDisabled" "Z" (.int 1)) (hHI : Sta Z Z.heap "java/lang/StringUTF16" "HI_BYTE_SHIFT" "I" (.int 0)) (hLO : Sta Z Z.heap "java/lang/StringUTF16" "LO_BYTE_SHIFT" "I" (.int 8)) (hFM : Sta Z Z.heap "jdk/internal/util/Preconditions" "SIOOBE_FORMATTER" "Ljava/util/function/BiFunction;" fm) (hfc : fm.category = 1) (L : List (Addr × (Cell → Prop))) :
    own_Con l Z (⟨"java/lang/String", "checkIndex", "(II)V"⟩ : MethodName) jdk_42_method_155_code 2 none rm_own_chk02 #[(.int (0)), (.int (2))] (L) (fun v M => v = none ∧ M = L) := by
  refine own_con (ls := #[.val (.int (0)), .val (.int (2))]) (plainFor_of_name own_pn0) (fun m => own_ent m rfl) ?_
  intro p e s m below meth c T C X
  refine k_iloadN C X d_jdk_42_method_155_code_0 rfl rfl ?_
  refine k_iloadN C X d_jdk_42_method_155_code_1 rfl rfl ?_
  refine k_getstatic C X d_jdk_42_method_155_code_2 rfl (hw _ (List.mem_of_getElem? (i := 93) rfl)) hFM (fun T X => ?_)
  refine k_static C X d_jdk_42_method_155_code_5 rfl (hw _ (List.mem_of_getElem? (i := 95) rfl)) (hw _ (List.mem_of_getElem? (i := 96) rfl)) (hw _ (List.mem_of_getElem? (i := 94) rfl)) (hw _ (List.mem_of_getElem? (i := 97) rfl)) (by decide) (own_pci02 l Z a0 hw fm cs fm hS hcs hAD hHI hLO hFM hfc hfc (L)) (W := 0) (argsL := [(.int (0)), (.int (2)), fm]) (rest := []) rfl rfl rfl own_pd14 rfl (Nat.le_of_eq rfl) (by decide) (by decide) (by decide) (by decide) (fun v T M hQ X => ?_)
  obtain ⟨rfl, hM_⟩ := hQ
  replace hM_ := hM_.symm
  subst hM_
  refine k_pop C X d_jdk_42_method_155_code_8 rfl rfl ?_
  exact k_return C X d_jdk_42_method_155_code_9 ⟨rfl, rfl⟩ (by decide) (by decide)
def rm_own_lca20 : Room := { frames := 2, cells := 0, slots := 0, locals := 27 }
set_option maxRecDepth 65536 in
set_option maxHeartbeats 40000000 in
theorem own_lca20 (l : Launch) (Z : State) (a0 : Array Value) (hw : ∀ d ∈ tables_1, d.before a0 Z = true) (qb_ : Addr) (e0_ : Int32) (e1_ : Int32) (cs : Int32) (fm : Value) (hS : Sta Z Z.heap "java/lang/String" "COMPACT_STRINGS" "Z" (.int cs)) (hcs : ¬ cs = 0) (hAD : Sta Z Z.heap "java/lang/StringUTF16" "$assertionsDisabled" "Z" (.int 1)) (hHI : Sta Z Z.heap "java/lang/StringUTF16" "HI_BYTE_SHIFT" "I" (.int 0)) (hLO : Sta Z Z.heap "java/lang/StringUTF16" "LO_BYTE_SHIFT" "I" (.int 8)) (hFM : Sta Z Z.heap "jdk/internal/util/Preconditions" "SIOOBE_FORMATTER" "Ljava/util/function/BiFunction;" fm) (hfc : fm.category = 1) (L : List (Addr × (Cell → Prop))) :
    own_Con l Z (⟨"java/lang/StringLatin1", "charAt", "([BI)C"⟩ : MethodName) jdk_43_method_2_code 2 (some .char) rm_own_lca20 #[(.ref qb_), (.int (0))] ((qb_, own_ar Z .byte [(.int e0_), (.int e1_)]) :: L) (fun v M => v = some (.int ((e0_ &&& (255)).toUInt32.toUInt16.toUInt32.toInt32)) ∧ M = (qb_, own_ar Z .byte [(.int e0_), (.int e1_)]) :: L) := by
  refine own_con (ls := #[.val (.ref qb_), .val (.int (0))]) (plainFor_of_name own_pn1) (fun m => own_ent m rfl) ?_
  intro p e s m below meth c T C X
  refine k_iloadN C X d_jdk_43_method_2_code_0 rfl rfl ?_
  refine k_aloadN C X d_jdk_43_method_2_code_1 rfl rfl rfl ?_
  refine k_arraylength C X d_jdk_43_method_2_code_2 rfl (ix := 0) rfl (z := (2)) rfl ?_
  refine k_static C X d_jdk_43_method_2_code_3 rfl (hw _ (List.mem_of_getElem? (i := 90) rfl)) (hw _ (List.mem_of_getElem? (i := 91) rfl)) (hw _ (List.mem_of_getElem? (i := 3) rfl)) (hw _ (List.mem_of_getElem? (i := 92) rfl)) (by decide) (own_chk02 l Z a0 hw cs fm hS hcs hAD hHI hLO hFM hfc ((qb_, own_ar Z .byte [(.int e0_), (.int e1_)]) :: L)) (W := 0) (argsL := [(.int (0)), (.int (2))]) (rest := []) rfl rfl rfl own_pd15 rfl (Nat.le_of_eq rfl) (by decide) (by decide) (by decide) (by decide) (fun v T M hQ X => ?_)
  obtain ⟨rfl, rfl⟩ := hQ
  refine k_aloadN C X d_jdk_43_method_2_code_6 rfl rfl rfl ?_
  refine k_iloadN C X d_jdk_43_method_2_code_7 rfl rfl ?_
  refine k_baload C X d_jdk_43_method_2_code_8 rfl (ix := 0) (i := 0) rfl (by decide) (by decide) rfl ?_
  refine k_sipush C X d_jdk_43_method_2_code_9 rfl (v := 255) rfl ?_
  refine k_iand C X d_jdk_43_method_2_code_12 rfl ?_
  refine k_i2c C X d_jdk_43_method_2_code_13 rfl ?_
  exact k_ireturn C X d_jdk_43_method_2_code_14 (by simp) (own_nch _) ⟨rfl, rfl⟩ (by decide) (by decide)
def rm_own_ulen2 : Room := { frames := 0, cells := 0, slots := 0, locals := 0 }
set_option maxRecDepth 65536 in
set_option maxHeartbeats 40000000 in
theorem own_ulen2 (l : Launch) (Z : State) (a0 : Array Value) (hw : ∀ d ∈ tables_1, d.before a0 Z = true) (qb_ : Addr) (e0_ : Int32) (e1_ : Int32) (e2_ : Int32) (e3_ : Int32) (cs : Int32) (fm : Value) (hS : Sta Z Z.heap "java/lang/String" "COMPACT_STRINGS" "Z" (.int cs)) (hcs : ¬ cs = 0) (hAD : Sta Z Z.heap "java/lang/StringUTF16" "$assertionsDisabled" "Z" (.int 1)) (hHI : Sta Z Z.heap "java/lang/StringUTF16" "HI_BYTE_SHIFT" "I" (.int 0)) (hLO : Sta Z Z.heap "java/lang/StringUTF16" "LO_BYTE_SHIFT" "I" (.int 8)) (hFM : Sta Z Z.heap "jdk/internal/util/Preconditions" "SIOOBE_FORMATTER" "Ljava/util/function/BiFunction;" fm) (hfc : fm.category = 1) (L : List (Addr × (Cell → Prop))) :
    own_Con l Z (⟨"java/lang/StringUTF16", "length", "([B)I"⟩ : MethodName) jdk_52_method_6_code 1 (some .int) rm_own_ulen2 #[(.ref qb_)] ((qb_, own_ar Z .byte [(.int e0_), (.int e1_), (.int e2_), (.int e3_)]) :: L) (fun v M => v = some (.int (2)) ∧ M = (qb_, own_ar Z .byte [(.int e0_), (.int e1_), (.int e2_), (.int e3_)]) :: L) := by
  refine own_con (ls := #[.val (.ref qb_)]) (plainFor_of_name own_pn2) (fun m => own_ent m rfl) ?_
  intro p e s m below meth c T C X
  refine k_aloadN C X d_jdk_52_method_6_code_0 rfl rfl rfl ?_
  refine k_arraylength C X d_jdk_52_method_6_code_1 rfl (ix := 0) rfl (z := (4)) rfl ?_
  refine k_iconst C X d_jdk_52_method_6_code_2 rfl (v := 1) rfl ?_
  refine k_ishr C X d_jdk_52_method_6_code_3 rfl ?_
  exact k_ireturn C X d_jdk_52_method_6_code_4 (by simp) rfl ⟨rfl, rfl⟩ (by decide) (by decide)
def rm_own_uchk20 : Room := { frames := 2, cells := 0, slots := 0, locals := 27 }
set_option maxRecDepth 65536 in
set_option maxHeartbeats 40000000 in
theorem own_uchk20 (l : Launch) (Z : State) (a0 : Array Value) (hw : ∀ d ∈ tables_1, d.before a0 Z = true) (qb_ : Addr) (e0_ : Int32) (e1_ : Int32) (e2_ : Int32) (e3_ : Int32) (cs : Int32) (fm : Value) (hS : Sta Z Z.heap "java/lang/String" "COMPACT_STRINGS" "Z" (.int cs)) (hcs : ¬ cs = 0) (hAD : Sta Z Z.heap "java/lang/StringUTF16" "$assertionsDisabled" "Z" (.int 1)) (hHI : Sta Z Z.heap "java/lang/StringUTF16" "HI_BYTE_SHIFT" "I" (.int 0)) (hLO : Sta Z Z.heap "java/lang/StringUTF16" "LO_BYTE_SHIFT" "I" (.int 8)) (hFM : Sta Z Z.heap "jdk/internal/util/Preconditions" "SIOOBE_FORMATTER" "Ljava/util/function/BiFunction;" fm) (hfc : fm.category = 1) (L : List (Addr × (Cell → Prop))) :
    own_Con l Z (⟨"java/lang/StringUTF16", "checkIndex", "(I[B)V"⟩ : MethodName) jdk_52_method_91_code 2 none rm_own_uchk20 #[(.int (0)), (.ref qb_)] ((qb_, own_ar Z .byte [(.int e0_), (.int e1_), (.int e2_), (.int e3_)]) :: L) (fun v M => v = none ∧ M = (qb_, own_ar Z .byte [(.int e0_), (.int e1_), (.int e2_), (.int e3_)]) :: L) := by
  refine own_con (ls := #[.val (.int (0)), .val (.ref qb_)]) (plainFor_of_name own_pn2) (fun m => own_ent m rfl) ?_
  intro p e s m below meth c T C X
  refine k_iloadN C X d_jdk_52_method_91_code_0 rfl rfl ?_
  refine k_aloadN C X d_jdk_52_method_91_code_1 rfl rfl rfl ?_
  refine k_static C X d_jdk_52_method_91_code_2 rfl (hw _ (List.mem_of_getElem? (i := 123) rfl)) (hw _ (List.mem_of_getElem? (i := 124) rfl)) (hw _ (List.mem_of_getElem? (i := 68) rfl)) (hw _ (List.mem_of_getElem? (i := 125) rfl)) (by decide) (own_ulen2 l Z a0 hw qb_ e0_ e1_ e2_ e3_ cs fm hS hcs hAD hHI hLO hFM hfc (L)) (W := 1) (argsL := [(.ref qb_)]) (rest := [(.int (0))]) rfl rfl rfl own_pd16 rfl (Nat.le_of_eq rfl) (by decide) (by decide) (by decide) (by decide) (fun v T M hQ X => ?_)
  obtain ⟨rfl, rfl⟩ := hQ
  refine k_static C X d_jdk_52_method_91_code_5 rfl (hw _ (List.mem_of_getElem? (i := 126) rfl)) (hw _ (List.mem_of_getElem? (i := 91) rfl)) (hw _ (List.mem_of_getElem? (i := 3) rfl)) (hw _ (List.mem_of_getElem? (i := 92) rfl)) (by decide) (own_chk02 l Z a0 hw cs fm hS hcs hAD hHI hLO hFM hfc ((qb_, own_ar Z .byte [(.int e0_), (.int e1_), (.int e2_), (.int e3_)]) :: L)) (W := 0) (argsL := [(.int (0)), (.int (2))]) (rest := []) rfl rfl rfl own_pd15 rfl (Nat.le_of_eq rfl) (by decide) (by decide) (by decide) (by decide) (fun v T M hQ X => ?_)
  obtain ⟨rfl, rfl⟩ := hQ
  exact k_return C X d_jdk_52_method_91_code_8 ⟨rfl, rfl⟩ (by decide) (by decide)
def rm_own_uca20 : Room := { frames := 3, cells := 0, slots := 0, locals := 40 }
set_option maxRecDepth 65536 in
set_option maxHeartbeats 40000000 in
theorem own_uca20 (l : Launch) (Z : State) (a0 : Array Value) (hw : ∀ d ∈ tables_1, d.before a0 Z = true) (qb_ : Addr) (e0_ : Int32) (e1_ : Int32) (e2_ : Int32) (e3_ : Int32) (cs : Int32) (fm : Value) (hS : Sta Z Z.heap "java/lang/String" "COMPACT_STRINGS" "Z" (.int cs)) (hcs : ¬ cs = 0) (hAD : Sta Z Z.heap "java/lang/StringUTF16" "$assertionsDisabled" "Z" (.int 1)) (hHI : Sta Z Z.heap "java/lang/StringUTF16" "HI_BYTE_SHIFT" "I" (.int 0)) (hLO : Sta Z Z.heap "java/lang/StringUTF16" "LO_BYTE_SHIFT" "I" (.int 8)) (hFM : Sta Z Z.heap "jdk/internal/util/Preconditions" "SIOOBE_FORMATTER" "Ljava/util/function/BiFunction;" fm) (hfc : fm.category = 1) (L : List (Addr × (Cell → Prop))) :
    own_Con l Z (⟨"java/lang/StringUTF16", "charAt", "([BI)C"⟩ : MethodName) jdk_52_method_83_code 2 (some .char) rm_own_uca20 #[(.ref qb_), (.int (0))] ((qb_, own_ar Z .byte [(.int e0_), (.int e1_), (.int e2_), (.int e3_)]) :: L) (fun v M => v = some (.int ((((e0_ &&& (255)) <<< ((0) &&& 31 : Int32) : Int32) ||| ((e1_ &&& (255)) <<< ((8) &&& 31 : Int32) : Int32)).toUInt32.toUInt16.toUInt32.toInt32)) ∧ M = (qb_, own_ar Z .byte [(.int e0_), (.int e1_), (.int e2_), (.int e3_)]) :: L) := by
  refine own_con (ls := #[.val (.ref qb_), .val (.int (0))]) (plainFor_of_name own_pn2) (fun m => own_ent m rfl) ?_
  intro p e s m below meth c T C X
  refine k_iloadN C X d_jdk_52_method_83_code_0 rfl rfl ?_
  refine k_aloadN C X d_jdk_52_method_83_code_1 rfl rfl rfl ?_
  refine k_static C X d_jdk_52_method_83_code_2 rfl (hw _ (List.mem_of_getElem? (i := 120) rfl)) (hw _ (List.mem_of_getElem? (i := 121) rfl)) (hw _ (List.mem_of_getElem? (i := 68) rfl)) (hw _ (List.mem_of_getElem? (i := 122) rfl)) (by decide) (own_uchk20 l Z a0 hw qb_ e0_ e1_ e2_ e3_ cs fm hS hcs hAD hHI hLO hFM hfc (L)) (W := 0) (argsL := [(.int (0)), (.ref qb_)]) (rest := []) rfl rfl rfl own_pd17 rfl (Nat.le_of_eq rfl) (by decide) (by decide) (by decide) (by decide) (fun v T M hQ X => ?_)
  obtain ⟨rfl, rfl⟩ := hQ
  refine k_aloadN C X d_jdk_52_method_83_code_5 rfl rfl rfl ?_
  refine k_iloadN C X d_jdk_52_method_83_code_6 rfl rfl ?_
  refine k_static C X d_jdk_52_method_83_code_7 rfl (hw _ (List.mem_of_getElem? (i := 114) rfl)) (hw _ (List.mem_of_getElem? (i := 115) rfl)) (hw _ (List.mem_of_getElem? (i := 68) rfl)) (hw _ (List.mem_of_getElem? (i := 116) rfl)) (by decide) (own_get20 l Z a0 hw qb_ e0_ e1_ e2_ e3_ cs fm hS hcs hAD hHI hLO hFM hfc (L)) (W := 0) (argsL := [(.ref qb_), (.int (0))]) (rest := []) rfl rfl rfl own_pd18 rfl (Nat.le_of_eq rfl) (by decide) (by decide) (by decide) (by decide) (fun v T M hQ X => ?_)
  obtain ⟨rfl, rfl⟩ := hQ
  exact k_ireturn C X d_jdk_52_method_83_code_10 (by simp) (own_nch _) ⟨rfl, rfl⟩ (by decide) (by decide)
def rm_own_cha210 : Room := { frames := 4, cells := 0, slots := 0, locals := 53 }
set_option maxRecDepth 65536 in
set_option maxHeartbeats 40000000 in
theorem own_cha210 (l : Launch) (Z : State) (a0 : Array Value) (hw : ∀ d ∈ tables_1, d.before a0 Z = true) (sa_ : Addr) (qb_ : Addr) (e0_ : Int32) (e1_ : Int32) (e2_ : Int32) (e3_ : Int32) (cs : Int32) (fm : Value) (hS : Sta Z Z.heap "java/lang/String" "COMPACT_STRINGS" "Z" (.int cs)) (hcs : ¬ cs = 0) (hAD : Sta Z Z.heap "java/lang/StringUTF16" "$assertionsDisabled" "Z" (.int 1)) (hHI : Sta Z Z.heap "java/lang/StringUTF16" "HI_BYTE_SHIFT" "I" (.int 0)) (hLO : Sta Z Z.heap "java/lang/StringUTF16" "LO_BYTE_SHIFT" "I" (.int 8)) (hFM : Sta Z Z.heap "jdk/internal/util/Preconditions" "SIOOBE_FORMATTER" "Ljava/util/function/BiFunction;" fm) (hfc : fm.category = 1) (L : List (Addr × (Cell → Prop))) :
    own_Con l Z (⟨"java/lang/String", "charAt", "(I)C"⟩ : MethodName) jdk_42_method_56_code 2 (some .char) rm_own_cha210 #[(.ref sa_), (.int (0))] ((sa_, own_ob Z "java/lang/String" [("value", "[B", (.ref qb_)), ("coder", "B", (.int (1)))]) :: (qb_, own_ar Z .byte [(.int e0_), (.int e1_), (.int e2_), (.int e3_)]) :: L) (fun v M => v = some (.int ((((e0_ &&& (255)) <<< ((0) &&& 31 : Int32) : Int32) ||| ((e1_ &&& (255)) <<< ((8) &&& 31 : Int32) : Int32)).toUInt32.toUInt16.toUInt32.toInt32)) ∧ M = (qb_, own_ar Z .byte [(.int e0_), (.int e1_), (.int e2_), (.int e3_)]) :: (sa_, own_ob Z "java/lang/String" [("value", "[B", (.ref qb_)), ("coder", "B", (.int (1)))]) :: L) := by
  refine own_con (ls := #[.val (.ref sa_), .val (.int (0))]) (plainFor_of_name own_pn0) (fun m => own_ent m rfl) ?_
  intro p e s m below meth c T C X
  refine k_aloadN C X d_jdk_42_method_56_code_0 rfl rfl rfl ?_
  refine k_virtual C X d_jdk_42_method_56_code_1 rfl (hw _ (List.mem_of_getElem? (i := 81) rfl)) (hw _ (List.mem_of_getElem? (i := 82) rfl)) (hw _ (List.mem_of_getElem? (i := 3) rfl)) (hw _ (List.mem_of_getElem? (i := 85) rfl)) (hw _ (List.mem_of_getElem? (i := 84) rfl)) (hw _ (List.mem_of_getElem? (i := 83) rfl)) (by decide) (own_nf C.2.2.2.1 (hw _ (List.mem_of_getElem? (i := 84) rfl))) (own_eL (ix := 0) rfl) (own_isl1 l Z a0 hw sa_ qb_ cs fm hS hcs hAD hHI hLO hFM hfc ((qb_, own_ar Z .byte [(.int e0_), (.int e1_), (.int e2_), (.int e3_)]) :: L)) (W := 0) (argsL := []) (rest := []) rfl rfl rfl own_pd19 rfl (Nat.le_of_eq rfl) (by decide) (by decide) (by decide) (by decide) (fun v T M hQ X => ?_)
  obtain ⟨rfl, rfl⟩ := hQ
  refine k_if_eq C X d_jdk_42_method_56_code_4 rfl (tpc := 16) rfl (fun _ => ?_) (fun hc => (absurd hc (by decide) : False).elim)
  refine k_aloadN C X d_jdk_42_method_56_code_16 rfl rfl rfl ?_
  refine k_getfield C X d_jdk_42_method_56_code_17 rfl (host := "") (Or.inl (hw _ (List.mem_of_getElem? (i := 21) rfl))) (own_fL (ix := 0) (j := 0) rfl rfl) (fun T X => ?_)
  refine k_iloadN C X d_jdk_42_method_56_code_20 rfl rfl ?_
  replace X := X.bring (i := 1) rfl (M := (qb_, own_ar Z .byte [(.int e0_), (.int e1_), (.int e2_), (.int e3_)]) :: (sa_, own_ob Z "java/lang/String" [("value", "[B", (.ref qb_)), ("coder", "B", (.int (1)))]) :: L) rfl
  refine k_static C X d_jdk_42_method_56_code_21 rfl (hw _ (List.mem_of_getElem? (i := 117) rfl)) (hw _ (List.mem_of_getElem? (i := 118) rfl)) (hw _ (List.mem_of_getElem? (i := 68) rfl)) (hw _ (List.mem_of_getElem? (i := 119) rfl)) (by decide) (own_uca20 l Z a0 hw qb_ e0_ e1_ e2_ e3_ cs fm hS hcs hAD hHI hLO hFM hfc ((sa_, own_ob Z "java/lang/String" [("value", "[B", (.ref qb_)), ("coder", "B", (.int (1)))]) :: L)) (W := 0) (argsL := [(.ref qb_), (.int (0))]) (rest := []) rfl rfl rfl own_pd18 rfl (Nat.le_of_eq rfl) (by decide) (by decide) (by decide) (by decide) (fun v T M hQ X => ?_)
  obtain ⟨rfl, rfl⟩ := hQ
  exact k_ireturn C X d_jdk_42_method_56_code_24 (by simp) (own_nch _) ⟨rfl, rfl⟩ (by decide) (by decide)
def rm_own_pci12 : Room := { frames := 0, cells := 0, slots := 0, locals := 0 }
set_option maxRecDepth 65536 in
set_option maxHeartbeats 40000000 in
theorem own_pci12 (l : Launch) (Z : State) (a0 : Array Value) (hw : ∀ d ∈ tables_1, d.before a0 Z = true) (fm_ : Value) (cs : Int32) (fm : Value) (hS : Sta Z Z.heap "java/lang/String" "COMPACT_STRINGS" "Z" (.int cs)) (hcs : ¬ cs = 0) (hAD : Sta Z Z.heap "java/lang/StringUTF16" "$assertionsDisabled" "Z" (.int 1)) (hHI : Sta Z Z.heap "java/lang/StringUTF16" "HI_BYTE_SHIFT" "I" (.int 0)) (hLO : Sta Z Z.heap "java/lang/StringUTF16" "LO_BYTE_SHIFT" "I" (.int 8)) (hFM : Sta Z Z.heap "jdk/internal/util/Preconditions" "SIOOBE_FORMATTER" "Ljava/util/function/BiFunction;" fm) (hfc : fm.category = 1) (hfm_ : fm_.category = 1) (L : List (Addr × (Cell → Prop))) :
    own_Con l Z (⟨"jdk/internal/util/Preconditions", "checkIndex", "(IILjava/util/function/BiFunction;)I"⟩ : MethodName) jdk_41_method_11_code 3 (some .int) rm_own_pci12 #[(.int (1)), (.int (2)), fm_] (L) (fun v M => v = some (.int (1)) ∧ M = L) := by
  refine own_con (ls := #[.val (.int (1)), .val (.int (2)), .val fm_]) (plainFor_of_name own_pn5) (fun m => own_ent m (by rw [own_locs1 (v := (.int (1))) rfl, own_locs1 (v := (.int (2))) rfl, own_locs1 hfm_]; rfl)) ?_
  intro p e s m below meth c T C X
  refine k_iloadN C X d_jdk_41_method_11_code_0 rfl rfl ?_
  refine k_if_lt C X d_jdk_41_method_11_code_1 rfl (tpc := 9) rfl (fun hc => (absurd hc (by decide) : False).elim) (fun _ => ?_)
  refine k_iloadN C X d_jdk_41_method_11_code_4 rfl rfl ?_
  refine k_iloadN C X d_jdk_41_method_11_code_5 rfl rfl ?_
  refine k_icmp_lt C X d_jdk_41_method_11_code_6 rfl (tpc := 16) rfl (fun _ => ?_) (fun hc => (absurd hc (by decide) : False).elim)
  refine k_iloadN C X d_jdk_41_method_11_code_16 rfl rfl ?_
  exact k_ireturn C X d_jdk_41_method_11_code_17 (by simp) rfl ⟨rfl, rfl⟩ (by decide) (by decide)
def rm_own_chk12 : Room := { frames := 1, cells := 0, slots := 0, locals := 14 }
set_option maxRecDepth 65536 in
set_option maxHeartbeats 40000000 in
theorem own_chk12 (l : Launch) (Z : State) (a0 : Array Value) (hw : ∀ d ∈ tables_1, d.before a0 Z = true)  (cs : Int32) (fm : Value) (hS : Sta Z Z.heap "java/lang/String" "COMPACT_STRINGS" "Z" (.int cs)) (hcs : ¬ cs = 0) (hAD : Sta Z Z.heap "java/lang/StringUTF16" "$assertionsDisabled" "Z" (.int 1)) (hHI : Sta Z Z.heap "java/lang/StringUTF16" "HI_BYTE_SHIFT" "I" (.int 0)) (hLO : Sta Z Z.heap "java/lang/StringUTF16" "LO_BYTE_SHIFT" "I" (.int 8)) (hFM : Sta Z Z.heap "jdk/internal/util/Preconditions" "SIOOBE_FORMATTER" "Ljava/util/function/BiFunction;" fm) (hfc : fm.category = 1) (L : List (Addr × (Cell → Prop))) :
    own_Con l Z (⟨"java/lang/String", "checkIndex", "(II)V"⟩ : MethodName) jdk_42_method_155_code 2 none rm_own_chk12 #[(.int (1)), (.int (2))] (L) (fun v M => v = none ∧ M = L) := by
  refine own_con (ls := #[.val (.int (1)), .val (.int (2))]) (plainFor_of_name own_pn0) (fun m => own_ent m rfl) ?_
  intro p e s m below meth c T C X
  refine k_iloadN C X d_jdk_42_method_155_code_0 rfl rfl ?_
  refine k_iloadN C X d_jdk_42_method_155_code_1 rfl rfl ?_
  refine k_getstatic C X d_jdk_42_method_155_code_2 rfl (hw _ (List.mem_of_getElem? (i := 93) rfl)) hFM (fun T X => ?_)
  refine k_static C X d_jdk_42_method_155_code_5 rfl (hw _ (List.mem_of_getElem? (i := 95) rfl)) (hw _ (List.mem_of_getElem? (i := 96) rfl)) (hw _ (List.mem_of_getElem? (i := 94) rfl)) (hw _ (List.mem_of_getElem? (i := 97) rfl)) (by decide) (own_pci12 l Z a0 hw fm cs fm hS hcs hAD hHI hLO hFM hfc hfc (L)) (W := 0) (argsL := [(.int (1)), (.int (2)), fm]) (rest := []) rfl rfl rfl own_pd14 rfl (Nat.le_of_eq rfl) (by decide) (by decide) (by decide) (by decide) (fun v T M hQ X => ?_)
  obtain ⟨rfl, hM_⟩ := hQ
  replace hM_ := hM_.symm
  subst hM_
  refine k_pop C X d_jdk_42_method_155_code_8 rfl rfl ?_
  exact k_return C X d_jdk_42_method_155_code_9 ⟨rfl, rfl⟩ (by decide) (by decide)
def rm_own_lca21 : Room := { frames := 2, cells := 0, slots := 0, locals := 27 }
set_option maxRecDepth 65536 in
set_option maxHeartbeats 40000000 in
theorem own_lca21 (l : Launch) (Z : State) (a0 : Array Value) (hw : ∀ d ∈ tables_1, d.before a0 Z = true) (qb_ : Addr) (e0_ : Int32) (e1_ : Int32) (cs : Int32) (fm : Value) (hS : Sta Z Z.heap "java/lang/String" "COMPACT_STRINGS" "Z" (.int cs)) (hcs : ¬ cs = 0) (hAD : Sta Z Z.heap "java/lang/StringUTF16" "$assertionsDisabled" "Z" (.int 1)) (hHI : Sta Z Z.heap "java/lang/StringUTF16" "HI_BYTE_SHIFT" "I" (.int 0)) (hLO : Sta Z Z.heap "java/lang/StringUTF16" "LO_BYTE_SHIFT" "I" (.int 8)) (hFM : Sta Z Z.heap "jdk/internal/util/Preconditions" "SIOOBE_FORMATTER" "Ljava/util/function/BiFunction;" fm) (hfc : fm.category = 1) (L : List (Addr × (Cell → Prop))) :
    own_Con l Z (⟨"java/lang/StringLatin1", "charAt", "([BI)C"⟩ : MethodName) jdk_43_method_2_code 2 (some .char) rm_own_lca21 #[(.ref qb_), (.int (1))] ((qb_, own_ar Z .byte [(.int e0_), (.int e1_)]) :: L) (fun v M => v = some (.int ((e1_ &&& (255)).toUInt32.toUInt16.toUInt32.toInt32)) ∧ M = (qb_, own_ar Z .byte [(.int e0_), (.int e1_)]) :: L) := by
  refine own_con (ls := #[.val (.ref qb_), .val (.int (1))]) (plainFor_of_name own_pn1) (fun m => own_ent m rfl) ?_
  intro p e s m below meth c T C X
  refine k_iloadN C X d_jdk_43_method_2_code_0 rfl rfl ?_
  refine k_aloadN C X d_jdk_43_method_2_code_1 rfl rfl rfl ?_
  refine k_arraylength C X d_jdk_43_method_2_code_2 rfl (ix := 0) rfl (z := (2)) rfl ?_
  refine k_static C X d_jdk_43_method_2_code_3 rfl (hw _ (List.mem_of_getElem? (i := 90) rfl)) (hw _ (List.mem_of_getElem? (i := 91) rfl)) (hw _ (List.mem_of_getElem? (i := 3) rfl)) (hw _ (List.mem_of_getElem? (i := 92) rfl)) (by decide) (own_chk12 l Z a0 hw cs fm hS hcs hAD hHI hLO hFM hfc ((qb_, own_ar Z .byte [(.int e0_), (.int e1_)]) :: L)) (W := 0) (argsL := [(.int (1)), (.int (2))]) (rest := []) rfl rfl rfl own_pd15 rfl (Nat.le_of_eq rfl) (by decide) (by decide) (by decide) (by decide) (fun v T M hQ X => ?_)
  obtain ⟨rfl, rfl⟩ := hQ
  refine k_aloadN C X d_jdk_43_method_2_code_6 rfl rfl rfl ?_
  refine k_iloadN C X d_jdk_43_method_2_code_7 rfl rfl ?_
  refine k_baload C X d_jdk_43_method_2_code_8 rfl (ix := 0) (i := 1) rfl (by decide) (by decide) rfl ?_
  refine k_sipush C X d_jdk_43_method_2_code_9 rfl (v := 255) rfl ?_
  refine k_iand C X d_jdk_43_method_2_code_12 rfl ?_
  refine k_i2c C X d_jdk_43_method_2_code_13 rfl ?_
  exact k_ireturn C X d_jdk_43_method_2_code_14 (by simp) (own_nch _) ⟨rfl, rfl⟩ (by decide) (by decide)
def rm_own_uchk21 : Room := { frames := 2, cells := 0, slots := 0, locals := 27 }
set_option maxRecDepth 65536 in
set_option maxHeartbeats 40000000 in
theorem own_uchk21 (l : Launch) (Z : State) (a0 : Array Value) (hw : ∀ d ∈ tables_1, d.before a0 Z = true) (qb_ : Addr) (e0_ : Int32) (e1_ : Int32) (e2_ : Int32) (e3_ : Int32) (cs : Int32) (fm : Value) (hS : Sta Z Z.heap "java/lang/String" "COMPACT_STRINGS" "Z" (.int cs)) (hcs : ¬ cs = 0) (hAD : Sta Z Z.heap "java/lang/StringUTF16" "$assertionsDisabled" "Z" (.int 1)) (hHI : Sta Z Z.heap "java/lang/StringUTF16" "HI_BYTE_SHIFT" "I" (.int 0)) (hLO : Sta Z Z.heap "java/lang/StringUTF16" "LO_BYTE_SHIFT" "I" (.int 8)) (hFM : Sta Z Z.heap "jdk/internal/util/Preconditions" "SIOOBE_FORMATTER" "Ljava/util/function/BiFunction;" fm) (hfc : fm.category = 1) (L : List (Addr × (Cell → Prop))) :
    own_Con l Z (⟨"java/lang/StringUTF16", "checkIndex", "(I[B)V"⟩ : MethodName) jdk_52_method_91_code 2 none rm_own_uchk21 #[(.int (1)), (.ref qb_)] ((qb_, own_ar Z .byte [(.int e0_), (.int e1_), (.int e2_), (.int e3_)]) :: L) (fun v M => v = none ∧ M = (qb_, own_ar Z .byte [(.int e0_), (.int e1_), (.int e2_), (.int e3_)]) :: L) := by
  refine own_con (ls := #[.val (.int (1)), .val (.ref qb_)]) (plainFor_of_name own_pn2) (fun m => own_ent m rfl) ?_
  intro p e s m below meth c T C X
  refine k_iloadN C X d_jdk_52_method_91_code_0 rfl rfl ?_
  refine k_aloadN C X d_jdk_52_method_91_code_1 rfl rfl rfl ?_
  refine k_static C X d_jdk_52_method_91_code_2 rfl (hw _ (List.mem_of_getElem? (i := 123) rfl)) (hw _ (List.mem_of_getElem? (i := 124) rfl)) (hw _ (List.mem_of_getElem? (i := 68) rfl)) (hw _ (List.mem_of_getElem? (i := 125) rfl)) (by decide) (own_ulen2 l Z a0 hw qb_ e0_ e1_ e2_ e3_ cs fm hS hcs hAD hHI hLO hFM hfc (L)) (W := 1) (argsL := [(.ref qb_)]) (rest := [(.int (1))]) rfl rfl rfl own_pd16 rfl (Nat.le_of_eq rfl) (by decide) (by decide) (by decide) (by decide) (fun v T M hQ X => ?_)
  obtain ⟨rfl, rfl⟩ := hQ
  refine k_static C X d_jdk_52_method_91_code_5 rfl (hw _ (List.mem_of_getElem? (i := 126) rfl)) (hw _ (List.mem_of_getElem? (i := 91) rfl)) (hw _ (List.mem_of_getElem? (i := 3) rfl)) (hw _ (List.mem_of_getElem? (i := 92) rfl)) (by decide) (own_chk12 l Z a0 hw cs fm hS hcs hAD hHI hLO hFM hfc ((qb_, own_ar Z .byte [(.int e0_), (.int e1_), (.int e2_), (.int e3_)]) :: L)) (W := 0) (argsL := [(.int (1)), (.int (2))]) (rest := []) rfl rfl rfl own_pd15 rfl (Nat.le_of_eq rfl) (by decide) (by decide) (by decide) (by decide) (fun v T M hQ X => ?_)
  obtain ⟨rfl, rfl⟩ := hQ
  exact k_return C X d_jdk_52_method_91_code_8 ⟨rfl, rfl⟩ (by decide) (by decide)
def rm_own_get21 : Room := { frames := 0, cells := 0, slots := 0, locals := 0 }
set_option maxRecDepth 65536 in
set_option maxHeartbeats 40000000 in
theorem own_get21 (l : Launch) (Z : State) (a0 : Array Value) (hw : ∀ d ∈ tables_1, d.before a0 Z = true) (qb_ : Addr) (e0_ : Int32) (e1_ : Int32) (e2_ : Int32) (e3_ : Int32) (cs : Int32) (fm : Value) (hS : Sta Z Z.heap "java/lang/String" "COMPACT_STRINGS" "Z" (.int cs)) (hcs : ¬ cs = 0) (hAD : Sta Z Z.heap "java/lang/StringUTF16" "$assertionsDisabled" "Z" (.int 1)) (hHI : Sta Z Z.heap "java/lang/StringUTF16" "HI_BYTE_SHIFT" "I" (.int 0)) (hLO : Sta Z Z.heap "java/lang/StringUTF16" "LO_BYTE_SHIFT" "I" (.int 8)) (hFM : Sta Z Z.heap "jdk/internal/util/Preconditions" "SIOOBE_FORMATTER" "Ljava/util/function/BiFunction;" fm) (hfc : fm.category = 1) (L : List (Addr × (Cell → Prop))) :
    own_Con l Z (⟨"java/lang/StringUTF16", "getChar", "([BI)C"⟩ : MethodName) jdk_52_method_5_code 2 (some .char) rm_own_get21 #[(.ref qb_), (.int (1))] ((qb_, own_ar Z .byte [(.int e0_), (.int e1_), (.int e2_), (.int e3_)]) :: L) (fun v M => v = some (.int ((((e2_ &&& (255)) <<< ((0) &&& 31 : Int32) : Int32) ||| ((e3_ &&& (255)) <<< ((8) &&& 31 : Int32) : Int32)).toUInt32.toUInt16.toUInt32.toInt32)) ∧ M = (qb_, own_ar Z .byte [(.int e0_), (.int e1_), (.int e2_), (.int e3_)]) :: L) := by
  refine own_con (ls := #[.val (.ref qb_), .val (.int (1))]) (plainFor_of_name own_pn2) (fun m => own_ent m rfl) ?_
  intro p e s m below meth c T C X
  refine k_getstatic C X d_jdk_52_method_5_code_0 rfl (hw _ (List.mem_of_getElem? (i := 111) rfl)) hAD (fun T X => ?_)
  refine k_if_ne C X d_jdk_52_method_5_code_3 rfl (tpc := 28) rfl (fun _ => ?_) (fun hc => (absurd hc (by decide) : False).elim)
  refine k_iloadN C X d_jdk_52_method_5_code_28 rfl rfl ?_
  refine k_iconst C X d_jdk_52_method_5_code_29 rfl (v := 1) rfl ?_
  refine k_ishl C X d_jdk_52_method_5_code_30 rfl ?_
  refine k_istoreN C X d_jdk_52_method_5_code_31 rfl (l' := #[.val (.ref qb_), .val (.int (2))]) rfl ?_
  refine k_aloadN C X d_jdk_52_method_5_code_32 rfl rfl rfl ?_
  refine k_iloadN C X d_jdk_52_method_5_code_33 rfl rfl ?_
  refine k_iinc C X d_jdk_52_method_5_code_34 rfl (v := 1) rfl rfl (l' := #[.val (.ref qb_), .val (.int (3))]) rfl ?_
  refine k_baload C X d_jdk_52_method_5_code_37 rfl (ix := 0) (i := 2) rfl (by decide) (by decide) rfl ?_
  refine k_sipush C X d_jdk_52_method_5_code_38 rfl (v := 255) rfl ?_
  refine k_iand C X d_jdk_52_method_5_code_41 rfl ?_
  refine k_getstatic C X d_jdk_52_method_5_code_42 rfl (hw _ (List.mem_of_getElem? (i := 112) rfl)) hHI (fun T X => ?_)
  refine k_ishl C X d_jdk_52_method_5_code_45 rfl ?_
  refine k_aloadN C X d_jdk_52_method_5_code_46 rfl rfl rfl ?_
  refine k_iloadN C X d_jdk_52_method_5_code_47 rfl rfl ?_
  refine k_baload C X d_jdk_52_method_5_code_48 rfl (ix := 0) (i := 3) rfl (by decide) (by decide) rfl ?_
  refine k_sipush C X d_jdk_52_method_5_code_49 rfl (v := 255) rfl ?_
  refine k_iand C X d_jdk_52_method_5_code_52 rfl ?_
  refine k_getstatic C X d_jdk_52_method_5_code_53 rfl (hw _ (List.mem_of_getElem? (i := 113) rfl)) hLO (fun T X => ?_)
  refine k_ishl C X d_jdk_52_method_5_code_56 rfl ?_
  refine k_ior C X d_jdk_52_method_5_code_57 rfl ?_
  refine k_i2c C X d_jdk_52_method_5_code_58 rfl ?_
  exact k_ireturn C X d_jdk_52_method_5_code_59 (by simp) (own_nch _) ⟨rfl, rfl⟩ (by decide) (by decide)
def rm_own_uca21 : Room := { frames := 3, cells := 0, slots := 0, locals := 40 }
set_option maxRecDepth 65536 in
set_option maxHeartbeats 40000000 in
theorem own_uca21 (l : Launch) (Z : State) (a0 : Array Value) (hw : ∀ d ∈ tables_1, d.before a0 Z = true) (qb_ : Addr) (e0_ : Int32) (e1_ : Int32) (e2_ : Int32) (e3_ : Int32) (cs : Int32) (fm : Value) (hS : Sta Z Z.heap "java/lang/String" "COMPACT_STRINGS" "Z" (.int cs)) (hcs : ¬ cs = 0) (hAD : Sta Z Z.heap "java/lang/StringUTF16" "$assertionsDisabled" "Z" (.int 1)) (hHI : Sta Z Z.heap "java/lang/StringUTF16" "HI_BYTE_SHIFT" "I" (.int 0)) (hLO : Sta Z Z.heap "java/lang/StringUTF16" "LO_BYTE_SHIFT" "I" (.int 8)) (hFM : Sta Z Z.heap "jdk/internal/util/Preconditions" "SIOOBE_FORMATTER" "Ljava/util/function/BiFunction;" fm) (hfc : fm.category = 1) (L : List (Addr × (Cell → Prop))) :
    own_Con l Z (⟨"java/lang/StringUTF16", "charAt", "([BI)C"⟩ : MethodName) jdk_52_method_83_code 2 (some .char) rm_own_uca21 #[(.ref qb_), (.int (1))] ((qb_, own_ar Z .byte [(.int e0_), (.int e1_), (.int e2_), (.int e3_)]) :: L) (fun v M => v = some (.int ((((e2_ &&& (255)) <<< ((0) &&& 31 : Int32) : Int32) ||| ((e3_ &&& (255)) <<< ((8) &&& 31 : Int32) : Int32)).toUInt32.toUInt16.toUInt32.toInt32)) ∧ M = (qb_, own_ar Z .byte [(.int e0_), (.int e1_), (.int e2_), (.int e3_)]) :: L) := by
  refine own_con (ls := #[.val (.ref qb_), .val (.int (1))]) (plainFor_of_name own_pn2) (fun m => own_ent m rfl) ?_
  intro p e s m below meth c T C X
  refine k_iloadN C X d_jdk_52_method_83_code_0 rfl rfl ?_
  refine k_aloadN C X d_jdk_52_method_83_code_1 rfl rfl rfl ?_
  refine k_static C X d_jdk_52_method_83_code_2 rfl (hw _ (List.mem_of_getElem? (i := 120) rfl)) (hw _ (List.mem_of_getElem? (i := 121) rfl)) (hw _ (List.mem_of_getElem? (i := 68) rfl)) (hw _ (List.mem_of_getElem? (i := 122) rfl)) (by decide) (own_uchk21 l Z a0 hw qb_ e0_ e1_ e2_ e3_ cs fm hS hcs hAD hHI hLO hFM hfc (L)) (W := 0) (argsL := [(.int (1)), (.ref qb_)]) (rest := []) rfl rfl rfl own_pd17 rfl (Nat.le_of_eq rfl) (by decide) (by decide) (by decide) (by decide) (fun v T M hQ X => ?_)
  obtain ⟨rfl, rfl⟩ := hQ
  refine k_aloadN C X d_jdk_52_method_83_code_5 rfl rfl rfl ?_
  refine k_iloadN C X d_jdk_52_method_83_code_6 rfl rfl ?_
  refine k_static C X d_jdk_52_method_83_code_7 rfl (hw _ (List.mem_of_getElem? (i := 114) rfl)) (hw _ (List.mem_of_getElem? (i := 115) rfl)) (hw _ (List.mem_of_getElem? (i := 68) rfl)) (hw _ (List.mem_of_getElem? (i := 116) rfl)) (by decide) (own_get21 l Z a0 hw qb_ e0_ e1_ e2_ e3_ cs fm hS hcs hAD hHI hLO hFM hfc (L)) (W := 0) (argsL := [(.ref qb_), (.int (1))]) (rest := []) rfl rfl rfl own_pd18 rfl (Nat.le_of_eq rfl) (by decide) (by decide) (by decide) (by decide) (fun v T M hQ X => ?_)
  obtain ⟨rfl, rfl⟩ := hQ
  exact k_ireturn C X d_jdk_52_method_83_code_10 (by simp) (own_nch _) ⟨rfl, rfl⟩ (by decide) (by decide)
def rm_own_cha211 : Room := { frames := 4, cells := 0, slots := 0, locals := 53 }
set_option maxRecDepth 65536 in
set_option maxHeartbeats 40000000 in
theorem own_cha211 (l : Launch) (Z : State) (a0 : Array Value) (hw : ∀ d ∈ tables_1, d.before a0 Z = true) (sa_ : Addr) (qb_ : Addr) (e0_ : Int32) (e1_ : Int32) (e2_ : Int32) (e3_ : Int32) (cs : Int32) (fm : Value) (hS : Sta Z Z.heap "java/lang/String" "COMPACT_STRINGS" "Z" (.int cs)) (hcs : ¬ cs = 0) (hAD : Sta Z Z.heap "java/lang/StringUTF16" "$assertionsDisabled" "Z" (.int 1)) (hHI : Sta Z Z.heap "java/lang/StringUTF16" "HI_BYTE_SHIFT" "I" (.int 0)) (hLO : Sta Z Z.heap "java/lang/StringUTF16" "LO_BYTE_SHIFT" "I" (.int 8)) (hFM : Sta Z Z.heap "jdk/internal/util/Preconditions" "SIOOBE_FORMATTER" "Ljava/util/function/BiFunction;" fm) (hfc : fm.category = 1) (L : List (Addr × (Cell → Prop))) :
    own_Con l Z (⟨"java/lang/String", "charAt", "(I)C"⟩ : MethodName) jdk_42_method_56_code 2 (some .char) rm_own_cha211 #[(.ref sa_), (.int (1))] ((sa_, own_ob Z "java/lang/String" [("value", "[B", (.ref qb_)), ("coder", "B", (.int (1)))]) :: (qb_, own_ar Z .byte [(.int e0_), (.int e1_), (.int e2_), (.int e3_)]) :: L) (fun v M => v = some (.int ((((e2_ &&& (255)) <<< ((0) &&& 31 : Int32) : Int32) ||| ((e3_ &&& (255)) <<< ((8) &&& 31 : Int32) : Int32)).toUInt32.toUInt16.toUInt32.toInt32)) ∧ M = (qb_, own_ar Z .byte [(.int e0_), (.int e1_), (.int e2_), (.int e3_)]) :: (sa_, own_ob Z "java/lang/String" [("value", "[B", (.ref qb_)), ("coder", "B", (.int (1)))]) :: L) := by
  refine own_con (ls := #[.val (.ref sa_), .val (.int (1))]) (plainFor_of_name own_pn0) (fun m => own_ent m rfl) ?_
  intro p e s m below meth c T C X
  refine k_aloadN C X d_jdk_42_method_56_code_0 rfl rfl rfl ?_
  refine k_virtual C X d_jdk_42_method_56_code_1 rfl (hw _ (List.mem_of_getElem? (i := 81) rfl)) (hw _ (List.mem_of_getElem? (i := 82) rfl)) (hw _ (List.mem_of_getElem? (i := 3) rfl)) (hw _ (List.mem_of_getElem? (i := 85) rfl)) (hw _ (List.mem_of_getElem? (i := 84) rfl)) (hw _ (List.mem_of_getElem? (i := 83) rfl)) (by decide) (own_nf C.2.2.2.1 (hw _ (List.mem_of_getElem? (i := 84) rfl))) (own_eL (ix := 0) rfl) (own_isl1 l Z a0 hw sa_ qb_ cs fm hS hcs hAD hHI hLO hFM hfc ((qb_, own_ar Z .byte [(.int e0_), (.int e1_), (.int e2_), (.int e3_)]) :: L)) (W := 0) (argsL := []) (rest := []) rfl rfl rfl own_pd19 rfl (Nat.le_of_eq rfl) (by decide) (by decide) (by decide) (by decide) (fun v T M hQ X => ?_)
  obtain ⟨rfl, rfl⟩ := hQ
  refine k_if_eq C X d_jdk_42_method_56_code_4 rfl (tpc := 16) rfl (fun _ => ?_) (fun hc => (absurd hc (by decide) : False).elim)
  refine k_aloadN C X d_jdk_42_method_56_code_16 rfl rfl rfl ?_
  refine k_getfield C X d_jdk_42_method_56_code_17 rfl (host := "") (Or.inl (hw _ (List.mem_of_getElem? (i := 21) rfl))) (own_fL (ix := 0) (j := 0) rfl rfl) (fun T X => ?_)
  refine k_iloadN C X d_jdk_42_method_56_code_20 rfl rfl ?_
  replace X := X.bring (i := 1) rfl (M := (qb_, own_ar Z .byte [(.int e0_), (.int e1_), (.int e2_), (.int e3_)]) :: (sa_, own_ob Z "java/lang/String" [("value", "[B", (.ref qb_)), ("coder", "B", (.int (1)))]) :: L) rfl
  refine k_static C X d_jdk_42_method_56_code_21 rfl (hw _ (List.mem_of_getElem? (i := 117) rfl)) (hw _ (List.mem_of_getElem? (i := 118) rfl)) (hw _ (List.mem_of_getElem? (i := 68) rfl)) (hw _ (List.mem_of_getElem? (i := 119) rfl)) (by decide) (own_uca21 l Z a0 hw qb_ e0_ e1_ e2_ e3_ cs fm hS hcs hAD hHI hLO hFM hfc ((sa_, own_ob Z "java/lang/String" [("value", "[B", (.ref qb_)), ("coder", "B", (.int (1)))]) :: L)) (W := 0) (argsL := [(.ref qb_), (.int (1))]) (rest := []) rfl rfl rfl own_pd18 rfl (Nat.le_of_eq rfl) (by decide) (by decide) (by decide) (by decide) (fun v T M hQ X => ?_)
  obtain ⟨rfl, rfl⟩ := hQ
  exact k_ireturn C X d_jdk_42_method_56_code_24 (by simp) (own_nch _) ⟨rfl, rfl⟩ (by decide) (by decide)
theorem d_jdk_52_method_21_code_26 : decode jdk_52_method_21_code 26 = .ok (.aload_n 2, 1) := by decide +kernel
theorem d_jdk_52_method_21_code_27 : decode jdk_52_method_21_code 27 = .ok (.iload_n 3, 1) := by decide +kernel
theorem d_jdk_52_method_21_code_28 : decode jdk_52_method_21_code 28 = .ok (.iload 6, 2) := by decide +kernel
theorem d_jdk_52_method_21_code_30 : decode jdk_52_method_21_code 30 = .ok (.i2b, 1) := by decide +kernel
theorem d_jdk_52_method_21_code_31 : decode jdk_52_method_21_code 31 = .ok (.bastore, 1) := by decide +kernel
theorem d_jdk_52_method_21_code_32 : decode jdk_52_method_21_code 32 = .ok (.iinc 1 1, 3) := by decide +kernel
theorem d_jdk_52_method_21_code_35 : decode jdk_52_method_21_code 35 = .ok (.iinc 3 1, 3) := by decide +kernel
theorem d_jdk_52_method_21_code_38 : decode jdk_52_method_21_code 38 = .ok (.iinc 5 1, 3) := by decide +kernel
theorem d_jdk_52_method_21_code_41 : decode jdk_52_method_21_code 41 = .ok (.goto (-38), 3) := by decide +kernel
def rm_own_cmp2_21 : Room := { frames := 0, cells := 0, slots := 0, locals := 0 }
set_option maxRecDepth 65536 in
set_option maxHeartbeats 40000000 in
theorem own_cmp2_21 (l : Launch) (Z : State) (a0 : Array Value) (hw : ∀ d ∈ tables_1, d.before a0 Z = true) (qc_ : Addr) (qb_ : Addr) (d0_ : Int32) (d1_ : Int32) (cs : Int32) (fm : Value) (hS : Sta Z Z.heap "java/lang/String" "COMPACT_STRINGS" "Z" (.int cs)) (hcs : ¬ cs = 0) (hAD : Sta Z Z.heap "java/lang/StringUTF16" "$assertionsDisabled" "Z" (.int 1)) (hHI : Sta Z Z.heap "java/lang/StringUTF16" "HI_BYTE_SHIFT" "I" (.int 0)) (hLO : Sta Z Z.heap "java/lang/StringUTF16" "LO_BYTE_SHIFT" "I" (.int 8)) (hFM : Sta Z Z.heap "jdk/internal/util/Preconditions" "SIOOBE_FORMATTER" "Ljava/util/function/BiFunction;" fm) (hfc : fm.category = 1) (c0 : own_ch d0_) (c1 : own_ch d1_) (g0 : ¬ (255) < d0_) (g1 : (255) < d1_) (L : List (Addr × (Cell → Prop))) :
    own_Con l Z (⟨"java/lang/StringUTF16", "compress", "([CI[BII)I"⟩ : MethodName) jdk_52_method_21_code 7 (some .int) rm_own_cmp2_21 #[(.ref qc_), (.int (0)), (.ref qb_), (.int (0)), (.int (2))] ((qc_, own_ar Z .char [(.int d0_), (.int d1_)]) :: (qb_, own_ar Z .byte [(.int 0), (.int 0)]) :: L) (fun v M => v = some (.int (1)) ∧ M = (qc_, own_ar Z .char [(.int d0_), (.int d1_)]) :: (qb_, own_ar Z .byte [(.int (nar .byte d0_.toInt8.toInt32)), (.int 0)]) :: L) := by
  refine own_con (ls := #[.val (.ref qc_), .val (.int (0)), .val (.ref qb_), .val (.int (0)), .val (.int (2)), .unset, .unset]) (plainFor_of_name own_pn2) (fun m => own_ent m rfl) ?_
  intro p e s m below meth c T C X
  refine k_iconst C X d_jdk_52_method_21_code_0 rfl (v := 0) rfl ?_
  refine k_istore C X d_jdk_52_method_21_code_1 rfl (l' := #[.val (.ref qc_), .val (.int (0)), .val (.ref qb_), .val (.int (0)), .val (.int (2)), .val (.int (0)), .unset]) rfl ?_
  refine k_iload C X d_jdk_52_method_21_code_3 rfl rfl ?_
  refine k_iload C X d_jdk_52_method_21_code_5 rfl rfl ?_
  refine k_icmp_ge C X d_jdk_52_method_21_code_7 rfl (tpc := 44) rfl (fun hc => (absurd hc (by decide) : False).elim) (fun _ => ?_)
  refine k_aloadN C X d_jdk_52_method_21_code_10 rfl rfl rfl ?_
  refine k_iloadN C X d_jdk_52_method_21_code_11 rfl rfl ?_
  refine k_caload C X d_jdk_52_method_21_code_12 rfl (ix := 0) (i := 0) rfl (by decide) (by decide) rfl ?_
  refine k_istore C X d_jdk_52_method_21_code_13 rfl (l' := #[.val (.ref qc_), .val (.int (0)), .val (.ref qb_), .val (.int (0)), .val (.int (2)), .val (.int (0)), .val (.int d0_)]) rfl ?_
  refine k_iload C X d_jdk_52_method_21_code_15 rfl rfl ?_
  refine k_sipush C X d_jdk_52_method_21_code_17 rfl (v := 255) rfl ?_
  refine k_icmp_le C X d_jdk_52_method_21_code_20 rfl (tpc := 26) rfl (fun _ => ?_) (fun hc => (g0 hc : False).elim)
  refine k_aloadN C X d_jdk_52_method_21_code_26 rfl rfl rfl ?_
  refine k_iloadN C X d_jdk_52_method_21_code_27 rfl rfl ?_
  refine k_iload C X d_jdk_52_method_21_code_28 rfl rfl ?_
  refine k_i2b C X d_jdk_52_method_21_code_30 rfl ?_
  refine k_bastore C X d_jdk_52_method_21_code_31 rfl (ix := 1) (i := 0) rfl (by decide) (by decide) (Nat.le_of_ble_eq_true rfl) (vs' := [(.int (nar .byte d0_.toInt8.toInt32)), (.int 0)]) rfl (L' := (qc_, own_ar Z .char [(.int d0_), (.int d1_)]) :: (qb_, own_ar Z .byte [(.int (nar .byte d0_.toInt8.toInt32)), (.int 0)]) :: L) rfl (fun T X => ?_)
  refine k_iinc C X d_jdk_52_method_21_code_32 rfl (v := 1) rfl rfl (l' := #[.val (.ref qc_), .val (.int (1)), .val (.ref qb_), .val (.int (0)), .val (.int (2)), .val (.int (0)), .val (.int d0_)]) rfl ?_
  refine k_iinc C X d_jdk_52_method_21_code_35 rfl (v := 1) rfl rfl (l' := #[.val (.ref qc_), .val (.int (1)), .val (.ref qb_), .val (.int (1)), .val (.int (2)), .val (.int (0)), .val (.int d0_)]) rfl ?_
  refine k_iinc C X d_jdk_52_method_21_code_38 rfl (v := 1) rfl rfl (l' := #[.val (.ref qc_), .val (.int (1)), .val (.ref qb_), .val (.int (1)), .val (.int (2)), .val (.int (1)), .val (.int d0_)]) rfl ?_
  refine k_goto C X d_jdk_52_method_21_code_41 (tpc := 3) rfl ?_
  refine k_iload C X d_jdk_52_method_21_code_3 rfl rfl ?_
  refine k_iload C X d_jdk_52_method_21_code_5 rfl rfl ?_
  refine k_icmp_ge C X d_jdk_52_method_21_code_7 rfl (tpc := 44) rfl (fun hc => (absurd hc (by decide) : False).elim) (fun _ => ?_)
  refine k_aloadN C X d_jdk_52_method_21_code_10 rfl rfl rfl ?_
  refine k_iloadN C X d_jdk_52_method_21_code_11 rfl rfl ?_
  refine k_caload C X d_jdk_52_method_21_code_12 rfl (ix := 0) (i := 1) rfl (by decide) (by decide) rfl ?_
  refine k_istore C X d_jdk_52_method_21_code_13 rfl (l' := #[.val (.ref qc_), .val (.int (1)), .val (.ref qb_), .val (.int (1)), .val (.int (2)), .val (.int (1)), .val (.int d1_)]) rfl ?_
  refine k_iload C X d_jdk_52_method_21_code_15 rfl rfl ?_
  refine k_sipush C X d_jdk_52_method_21_code_17 rfl (v := 255) rfl ?_
  refine k_icmp_le C X d_jdk_52_method_21_code_20 rfl (tpc := 26) rfl (fun hc => (hc g1 : False).elim) (fun _ => ?_)
  refine k_iload C X d_jdk_52_method_21_code_23 rfl rfl ?_
  exact k_ireturn C X d_jdk_52_method_21_code_25 (by simp) rfl ⟨rfl, rfl⟩ (by decide) (by decide)
def rm_own_cmp1_21 : Room := { frames := 3, cells := 2, slots := 6, locals := 40 }
set_option maxRecDepth 65536 in
set_option maxHeartbeats 40000000 in
theorem own_cmp1_21 (l : Launch) (Z : State) (a0 : Array Value) (hw : ∀ d ∈ tables_1, d.before a0 Z = true) (qc_ : Addr) (d0_ : Int32) (d1_ : Int32) (cs : Int32) (fm : Value) (hS : Sta Z Z.heap "java/lang/String" "COMPACT_STRINGS" "Z" (.int cs)) (hcs : ¬ cs = 0) (hAD : Sta Z Z.heap "java/lang/StringUTF16" "$assertionsDisabled" "Z" (.int 1)) (hHI : Sta Z Z.heap "java/lang/StringUTF16" "HI_BYTE_SHIFT" "I" (.int 0)) (hLO : Sta Z Z.heap "java/lang/StringUTF16" "LO_BYTE_SHIFT" "I" (.int 8)) (hFM : Sta Z Z.heap "jdk/internal/util/Preconditions" "SIOOBE_FORMATTER" "Ljava/util/function/BiFunction;" fm) (hfc : fm.category = 1) (c0 : own_ch d0_) (c1 : own_ch d1_) (g0 : ¬ (255) < d0_) (g1 : (255) < d1_) (L : List (Addr × (Cell → Prop))) :
    own_Con l Z (⟨"java/lang/StringUTF16", "compress", "([CII)[B"⟩ : MethodName) jdk_52_method_16_code 6 (some (.array .byte)) rm_own_cmp1_21 #[(.ref qc_), (.int (0)), (.int (2))] ((qc_, own_ar Z .char [(.int d0_), (.int d1_)]) :: L) (fun v M => ∃ f1 o1, v = some (.ref f1) ∧ M = (f1, own_ar Z .byte [(.int (nar .byte ((d0_ >>> ((0) &&& 31 : Int32) : Int32).toInt8.toInt32))), (.int (nar .byte ((d0_ >>> ((8) &&& 31 : Int32) : Int32).toInt8.toInt32))), (.int (nar .byte ((d1_ >>> ((0) &&& 31 : Int32) : Int32).toInt8.toInt32))), (.int (nar .byte ((d1_ >>> ((8) &&& 31 : Int32) : Int32).toInt8.toInt32)))]) :: (qc_, own_ar Z .char [(.int d0_), (.int d1_)]) :: (o1, own_ar Z .byte [(.int (nar .byte d0_.toInt8.toInt32)), (.int 0)]) :: L) := by
  refine own_con (ls := #[.val (.ref qc_), .val (.int (0)), .val (.int (2)), .unset, .unset, .unset]) (plainFor_of_name own_pn2) (fun m => own_ent m rfl) ?_
  intro p e s m below meth c T C X
  refine k_iloadN C X d_jdk_52_method_16_code_0 rfl rfl ?_
  refine k_newarray C X d_jdk_52_method_16_code_1 rfl (ty := .byte) rfl (hw _ (List.mem_of_getElem? (i := 16) rfl)) (by decide) (cap := 2) (by decide) (by decide) (by decide) (by decide) (vs := [(.int 0), (.int 0)]) rfl (fun T o1 X => ?_)
  refine k_astoreN C X d_jdk_52_method_16_code_3 rfl rfl (l' := #[.val (.ref qc_), .val (.int (0)), .val (.int (2)), .val (.ref o1), .unset, .unset]) rfl ?_
  refine k_aloadN C X d_jdk_52_method_16_code_4 rfl rfl rfl ?_
  refine k_iloadN C X d_jdk_52_method_16_code_5 rfl rfl ?_
  refine k_aloadN C X d_jdk_52_method_16_code_6 rfl rfl rfl ?_
  refine k_iconst C X d_jdk_52_method_16_code_7 rfl (v := 0) rfl ?_
  refine k_iloadN C X d_jdk_52_method_16_code_8 rfl rfl ?_
  replace X := X.bring (i := 1) rfl (M := (qc_, own_ar Z .char [(.int d0_), (.int d1_)]) :: (o1, own_ar Z .byte [(.int 0), (.int 0)]) :: L) rfl
  refine k_static C X d_jdk_52_method_16_code_9 rfl (hw _ (List.mem_of_getElem? (i := 70) rfl)) (hw _ (List.mem_of_getElem? (i := 71) rfl)) (hw _ (List.mem_of_getElem? (i := 68) rfl)) (hw _ (List.mem_of_getElem? (i := 72) rfl)) (by decide) (own_cmp2_21 l Z a0 hw qc_ o1 d0_ d1_ cs fm hS hcs hAD hHI hLO hFM hfc c0 c1 g0 g1 (L)) (W := 0) (argsL := [(.ref qc_), (.int (0)), (.ref o1), (.int (0)), (.int (2))]) (rest := []) rfl rfl rfl own_pd23 rfl (Nat.le_of_eq rfl) (by decide) (by decide) (by decide) (by decide) (fun v T M hQ X => ?_)
  obtain ⟨rfl, rfl⟩ := hQ
  refine k_istore C X d_jdk_52_method_16_code_12 rfl (l' := #[.val (.ref qc_), .val (.int (0)), .val (.int (2)), .val (.ref o1), .val (.int (1)), .unset]) rfl ?_
  refine k_iload C X d_jdk_52_method_16_code_14 rfl rfl ?_
  refine k_iloadN C X d_jdk_52_method_16_code_16 rfl rfl ?_
  refine k_icmp_eq C X d_jdk_52_method_16_code_17 rfl (tpc := 57) rfl (fun hc => (absurd hc (by decide) : False).elim) (fun _ => ?_)
  refine k_aloadN C X d_jdk_52_method_16_code_20 rfl rfl rfl ?_
  refine k_iloadN C X d_jdk_52_method_16_code_21 rfl rfl ?_
  refine k_iloadN C X d_jdk_52_method_16_code_22 rfl rfl ?_
  refine k_static C X d_jdk_52_method_16_code_23 rfl (hw _ (List.mem_of_getElem? (i := 98) rfl)) (hw _ (List.mem_of_getElem? (i := 99) rfl)) (hw _ (List.mem_of_getElem? (i := 68) rfl)) (hw _ (List.mem_of_getElem? (i := 100) rfl)) (by decide) (own_tob2 l Z a0 hw qc_ d0_ d1_ cs fm hS hcs hAD hHI hLO hFM hfc ((o1, own_ar Z .byte [(.int (nar .byte d0_.toInt8.toInt32)), (.int 0)]) :: L)) (W := 0) (argsL := [(.ref qc_), (.int (0)), (.int (2))]) (rest := []) rfl rfl rfl own_pd24 rfl (Nat.le_of_eq rfl) (by decide) (by decide) (by decide) (by decide) (fun v T M hQ X => ?_)
  obtain ⟨f1, rfl, rfl⟩ := hQ
  refine k_astore C X d_jdk_52_method_16_code_26 rfl rfl (l' := #[.val (.ref qc_), .val (.int (0)), .val (.int (2)), .val (.ref o1), .val (.int (1)), .val (.ref f1)]) rfl ?_
  refine k_aload C X d_jdk_52_method_16_code_28 rfl rfl rfl ?_
  refine k_iload C X d_jdk_52_method_16_code_30 rfl rfl ?_
  refine k_static C X d_jdk_52_method_16_code_32 rfl (hw _ (List.mem_of_getElem? (i := 114) rfl)) (hw _ (List.mem_of_getElem? (i := 115) rfl)) (hw _ (List.mem_of_getElem? (i := 68) rfl)) (hw _ (List.mem_of_getElem? (i := 116) rfl)) (by decide) (own_get21 l Z a0 hw f1 (nar .byte ((d0_ >>> ((0) &&& 31 : Int32) : Int32).toInt8.toInt32)) (nar .byte ((d0_ >>> ((8) &&& 31 : Int32) : Int32).toInt8.toInt32)) (nar .byte ((d1_ >>> ((0) &&& 31 : Int32) : Int32).toInt8.toInt32)) (nar .byte ((d1_ >>> ((8) &&& 31 : Int32) : Int32).toInt8.toInt32)) cs fm hS hcs hAD hHI hLO hFM hfc ((qc_, own_ar Z .char [(.int d0_), (.int d1_)]) :: (o1, own_ar Z .byte [(.int (nar .byte d0_.toInt8.toInt32)), (.int 0)]) :: L)) (W := 0) (argsL := [(.ref f1), (.int (1))]) (rest := []) rfl rfl rfl own_pd18 rfl (Nat.le_of_eq rfl) (by decide) (by decide) (by decide) (by decide) (fun v T M hQ X => ?_)
  obtain ⟨rfl, rfl⟩ := hQ
  refine k_sipush C X d_jdk_52_method_16_code_35 rfl (v := 255) rfl ?_
  refine k_icmp_gt C X d_jdk_52_method_16_code_38 rfl (tpc := 54) rfl (fun _ => ?_) (fun hc => (hc (own_gt c1 g1) : False).elim)
  refine k_aload C X d_jdk_52_method_16_code_54 rfl rfl rfl ?_
  exact k_areturn C X d_jdk_52_method_16_code_56 rfl rfl rfl ⟨f1, o1, rfl, rfl⟩ (by decide) (by decide)
def rm_own_si2_21 : Room := { frames := 4, cells := 2, slots := 6, locals := 57 }
set_option maxRecDepth 65536 in
set_option maxHeartbeats 40000000 in
theorem own_si2_21 (l : Launch) (Z : State) (a0 : Array Value) (hw : ∀ d ∈ tables_1, d.before a0 Z = true) (sa_ : Addr) (qc_ : Addr) (d0_ : Int32) (d1_ : Int32) (cs : Int32) (fm : Value) (hS : Sta Z Z.heap "java/lang/String" "COMPACT_STRINGS" "Z" (.int cs)) (hcs : ¬ cs = 0) (hAD : Sta Z Z.heap "java/lang/StringUTF16" "$assertionsDisabled" "Z" (.int 1)) (hHI : Sta Z Z.heap "java/lang/StringUTF16" "HI_BYTE_SHIFT" "I" (.int 0)) (hLO : Sta Z Z.heap "java/lang/StringUTF16" "LO_BYTE_SHIFT" "I" (.int 8)) (hFM : Sta Z Z.heap "jdk/internal/util/Preconditions" "SIOOBE_FORMATTER" "Ljava/util/function/BiFunction;" fm) (hfc : fm.category = 1) (c0 : own_ch d0_) (c1 : own_ch d1_) (g0 : ¬ (255) < d0_) (g1 : (255) < d1_) (L : List (Addr × (Cell → Prop))) :
    own_Con l Z (⟨"java/lang/String", "<init>", "([CIILjava/lang/Void;)V"⟩ : MethodName) jdk_42_method_149_code 6 none rm_own_si2_21 #[(.ref sa_), (.ref qc_), (.int (0)), (.int (2)), .null] ((sa_, own_ob Z "java/lang/String" [("value", "[B", .null), ("coder", "B", (.int (0)))]) :: (qc_, own_ar Z .char [(.int d0_), (.int d1_)]) :: L) (fun v M => ∃ f1 f2, v = none ∧ M = (f1, own_ar Z .byte [(.int (nar .byte ((d0_ >>> ((0) &&& 31 : Int32) : Int32).toInt8.toInt32))), (.int (nar .byte ((d0_ >>> ((8) &&& 31 : Int32) : Int32).toInt8.toInt32))), (.int (nar .byte ((d1_ >>> ((0) &&& 31 : Int32) : Int32).toInt8.toInt32))), (.int (nar .byte ((d1_ >>> ((8) &&& 31 : Int32) : Int32).toInt8.toInt32)))]) :: (qc_, own_ar Z .char [(.int d0_), (.int d1_)]) :: (f2, own_ar Z .byte [(.int (nar .byte d0_.toInt8.toInt32)), (.int 0)]) :: (sa_, own_ob Z "java/lang/String" [("value", "[B", (.ref f1)), ("coder", "B", (.int (1)))]) :: L) := by
  refine own_con (ls := #[.val (.ref sa_), .val (.ref qc_), .val (.int (0)), .val (.int (2)), .val .null, .unset]) (plainFor_of_name own_pn0) (fun m => own_ent m rfl) ?_
  intro p e s m below meth c T C X
  refine k_aloadN C X d_jdk_42_method_149_code_0 rfl rfl rfl ?_
  refine k_initO C X d_jdk_42_method_149_code_1 rfl (hw _ (List.mem_of_getElem? (i := 12) rfl)) (hw _ (List.mem_of_getElem? (i := 13) rfl)) (hw _ (List.mem_of_getElem? (i := 14) rfl)) rfl (W := 0) (Nat.le_of_eq rfl) (by decide) (by decide) (fun T X => ?_)
  refine k_iloadN C X d_jdk_42_method_149_code_4 rfl rfl ?_
  refine k_if_ne C X d_jdk_42_method_149_code_5 rfl (tpc := 27) rfl (fun _ => ?_) (fun hc => (absurd hc (by decide) : False).elim)
  refine k_getstatic C X d_jdk_42_method_149_code_27 rfl (hw _ (List.mem_of_getElem? (i := 60) rfl)) hS (fun T X => ?_)
  refine k_if_eq C X d_jdk_42_method_149_code_30 rfl (tpc := 58) rfl (fun hc => (hcs hc : False).elim) (fun _ => ?_)
  refine k_aloadN C X d_jdk_42_method_149_code_33 rfl rfl rfl ?_
  refine k_iloadN C X d_jdk_42_method_149_code_34 rfl rfl ?_
  refine k_iloadN C X d_jdk_42_method_149_code_35 rfl rfl ?_
  replace X := X.bring (i := 1) rfl (M := (qc_, own_ar Z .char [(.int d0_), (.int d1_)]) :: (sa_, own_ob Z "java/lang/String" [("value", "[B", .null), ("coder", "B", (.int (0)))]) :: L) rfl
  refine k_static C X d_jdk_42_method_149_code_36 rfl (hw _ (List.mem_of_getElem? (i := 66) rfl)) (hw _ (List.mem_of_getElem? (i := 67) rfl)) (hw _ (List.mem_of_getElem? (i := 68) rfl)) (hw _ (List.mem_of_getElem? (i := 69) rfl)) (by decide) (own_cmp1_21 l Z a0 hw qc_ d0_ d1_ cs fm hS hcs hAD hHI hLO hFM hfc c0 c1 g0 g1 ((sa_, own_ob Z "java/lang/String" [("value", "[B", .null), ("coder", "B", (.int (0)))]) :: L)) (W := 0) (argsL := [(.ref qc_), (.int (0)), (.int (2))]) (rest := []) rfl rfl rfl own_pd24 rfl (Nat.le_of_eq rfl) (by decide) (by decide) (by decide) (by decide) (fun v T M hQ X => ?_)
  obtain ⟨f1, f2, rfl, rfl⟩ := hQ
  refine k_astore C X d_jdk_42_method_149_code_39 rfl rfl (l' := #[.val (.ref sa_), .val (.ref qc_), .val (.int (0)), .val (.int (2)), .val .null, .val (.ref f1)]) rfl ?_
  refine k_aloadN C X d_jdk_42_method_149_code_41 rfl rfl rfl ?_
  refine k_aload C X d_jdk_42_method_149_code_42 rfl rfl rfl ?_
  refine k_iloadN C X d_jdk_42_method_149_code_44 rfl rfl ?_
  refine k_static C X d_jdk_42_method_149_code_45 rfl (hw _ (List.mem_of_getElem? (i := 73) rfl)) (hw _ (List.mem_of_getElem? (i := 74) rfl)) (hw _ (List.mem_of_getElem? (i := 68) rfl)) (hw _ (List.mem_of_getElem? (i := 75) rfl)) (by decide) (own_cl24 l Z a0 hw f1 (nar .byte ((d0_ >>> ((0) &&& 31 : Int32) : Int32).toInt8.toInt32)) (nar .byte ((d0_ >>> ((8) &&& 31 : Int32) : Int32).toInt8.toInt32)) (nar .byte ((d1_ >>> ((0) &&& 31 : Int32) : Int32).toInt8.toInt32)) (nar .byte ((d1_ >>> ((8) &&& 31 : Int32) : Int32).toInt8.toInt32)) cs fm hS hcs hAD hHI hLO hFM hfc ((qc_, own_ar Z .char [(.int d0_), (.int d1_)]) :: (f2, own_ar Z .byte [(.int (nar .byte d0_.toInt8.toInt32)), (.int 0)]) :: (sa_, own_ob Z "java/lang/String" [("value", "[B", .null), ("coder", "B", (.int (0)))]) :: L)) (W := 1) (argsL := [(.ref f1), (.int (2))]) (rest := [(.ref sa_)]) rfl rfl rfl own_pd25 rfl (Nat.le_of_eq rfl) (by decide) (by decide) (by decide) (by decide) (fun v T M hQ X => ?_)
  obtain ⟨rfl, rfl⟩ := hQ
  refine k_putfield C X d_jdk_42_method_149_code_48 rfl (host := "") (Or.inl (hw _ (List.mem_of_getElem? (i := 22) rfl))) (hw _ (List.mem_of_getElem? (i := 2) rfl)) (Or.inr ⟨(hw _ (List.mem_of_getElem? (i := 18) rfl)), rfl, rfl⟩) (own_lay_String hw) own_lay_String_nd (ix := 3) (j := 1) rfl rfl rfl (fs' := [("value", "[B", .null), ("coder", "B", (.int (1)))]) rfl (ty := .byte) (by decide) rfl rfl (L' := (f1, own_ar Z .byte [(.int (nar .byte ((d0_ >>> ((0) &&& 31 : Int32) : Int32).toInt8.toInt32))), (.int (nar .byte ((d0_ >>> ((8) &&& 31 : Int32) : Int32).toInt8.toInt32))), (.int (nar .byte ((d1_ >>> ((0) &&& 31 : Int32) : Int32).toInt8.toInt32))), (.int (nar .byte ((d1_ >>> ((8) &&& 31 : Int32) : Int32).toInt8.toInt32)))]) :: (qc_, own_ar Z .char [(.int d0_), (.int d1_)]) :: (f2, own_ar Z .byte [(.int (nar .byte d0_.toInt8.toInt32)), (.int 0)]) :: (sa_, own_ob Z "java/lang/String" [("value", "[B", .null), ("coder", "B", (.int (1)))]) :: L) rfl (fun T X => ?_)
  refine k_aloadN C X d_jdk_42_method_149_code_51 rfl rfl rfl ?_
  refine k_aload C X d_jdk_42_method_149_code_52 rfl rfl rfl ?_
  refine k_putfield C X d_jdk_42_method_149_code_54 rfl (host := "") (Or.inl (hw _ (List.mem_of_getElem? (i := 21) rfl))) (hw _ (List.mem_of_getElem? (i := 2) rfl)) (Or.inr ⟨(hw _ (List.mem_of_getElem? (i := 17) rfl)), rfl, rfl⟩) (own_lay_String hw) own_lay_String_nd (ix := 3) (j := 0) rfl rfl rfl (fs' := [("value", "[B", (.ref f1)), ("coder", "B", (.int (1)))]) rfl (ty := (.array .byte)) (by decide) rfl rfl (L' := (f1, own_ar Z .byte [(.int (nar .byte ((d0_ >>> ((0) &&& 31 : Int32) : Int32).toInt8.toInt32))), (.int (nar .byte ((d0_ >>> ((8) &&& 31 : Int32) : Int32).toInt8.toInt32))), (.int (nar .byte ((d1_ >>> ((0) &&& 31 : Int32) : Int32).toInt8.toInt32))), (.int (nar .byte ((d1_ >>> ((8) &&& 31 : Int32) : Int32).toInt8.toInt32)))]) :: (qc_, own_ar Z .char [(.int d0_), (.int d1_)]) :: (f2, own_ar Z .byte [(.int (nar .byte d0_.toInt8.toInt32)), (.int 0)]) :: (sa_, own_ob Z "java/lang/String" [("value", "[B", (.ref f1)), ("coder", "B", (.int (1)))]) :: L) rfl (fun T X => ?_)
  exact k_return C X d_jdk_42_method_149_code_57 ⟨f1, f2, rfl, rfl⟩ (by decide) (by decide)
def rm_own_si1_21 : Room := { frames := 5, cells := 2, slots := 6, locals := 74 }
set_option maxRecDepth 65536 in
set_option maxHeartbeats 40000000 in
theorem own_si1_21 (l : Launch) (Z : State) (a0 : Array Value) (hw : ∀ d ∈ tables_1, d.before a0 Z = true) (sa_ : Addr) (qc_ : Addr) (d0_ : Int32) (d1_ : Int32) (cs : Int32) (fm : Value) (hS : Sta Z Z.heap "java/lang/String" "COMPACT_STRINGS" "Z" (.int cs)) (hcs : ¬ cs = 0) (hAD : Sta Z Z.heap "java/lang/StringUTF16" "$assertionsDisabled" "Z" (.int 1)) (hHI : Sta Z Z.heap "java/lang/StringUTF16" "HI_BYTE_SHIFT" "I" (.int 0)) (hLO : Sta Z Z.heap "java/lang/StringUTF16" "LO_BYTE_SHIFT" "I" (.int 8)) (hFM : Sta Z Z.heap "jdk/internal/util/Preconditions" "SIOOBE_FORMATTER" "Ljava/util/function/BiFunction;" fm) (hfc : fm.category = 1) (c0 : own_ch d0_) (c1 : own_ch d1_) (g0 : ¬ (255) < d0_) (g1 : (255) < d1_) (L : List (Addr × (Cell → Prop))) :
    own_Con l Z (⟨"java/lang/String", "<init>", "([C)V"⟩ : MethodName) jdk_42_method_3_code 2 none rm_own_si1_21 #[(.ref sa_), (.ref qc_)] ((sa_, own_ob Z "java/lang/String" [("value", "[B", .null), ("coder", "B", (.int (0)))]) :: (qc_, own_ar Z .char [(.int d0_), (.int d1_)]) :: L) (fun v M => ∃ f1 f2, v = none ∧ M = (f1, own_ar Z .byte [(.int (nar .byte ((d0_ >>> ((0) &&& 31 : Int32) : Int32).toInt8.toInt32))), (.int (nar .byte ((d0_ >>> ((8) &&& 31 : Int32) : Int32).toInt8.toInt32))), (.int (nar .byte ((d1_ >>> ((0) &&& 31 : Int32) : Int32).toInt8.toInt32))), (.int (nar .byte ((d1_ >>> ((8) &&& 31 : Int32) : Int32).toInt8.toInt32)))]) :: (qc_, own_ar Z .char [(.int d0_), (.int d1_)]) :: (f2, own_ar Z .byte [(.int (nar .byte d0_.toInt8.toInt32)), (.int 0)]) :: (sa_, own_ob Z "java/lang/String" [("value", "[B", (.ref f1)), ("coder", "B", (.int (1)))]) :: L) := by
  refine own_con (ls := #[.val (.ref sa_), .val (.ref qc_)]) (plainFor_of_name own_pn0) (fun m => own_ent m rfl) ?_
  intro p e s m below meth c T C X
  refine k_aloadN C X d_jdk_42_method_3_code_0 rfl rfl rfl ?_
  refine k_aloadN C X d_jdk_42_method_3_code_1 rfl rfl rfl ?_
  refine k_iconst C X d_jdk_42_method_3_code_2 rfl (v := 0) rfl ?_
  refine k_aloadN C X d_jdk_42_method_3_code_3 rfl rfl rfl ?_
  refine k_arraylength C X d_jdk_42_method_3_code_4 rfl (ix := 1) rfl (z := (2)) rfl ?_
  refine k_aconst_null C X d_jdk_42_method_3_code_5 rfl ?_
  replace X := X.bring (i := 1) rfl (M := (qc_, own_ar Z .char [(.int d0_), (.int d1_)]) :: (sa_, own_ob Z "java/lang/String" [("value", "[B", .null), ("coder", "B", (.int (0)))]) :: L) rfl
  replace X := X.bring (i := 1) rfl (M := (sa_, own_ob Z "java/lang/String" [("value", "[B", .null), ("coder", "B", (.int (0)))]) :: (qc_, own_ar Z .char [(.int d0_), (.int d1_)]) :: L) rfl
  refine k_init C X d_jdk_42_method_3_code_6 rfl rfl (hw _ (List.mem_of_getElem? (i := 8) rfl)) (hw _ (List.mem_of_getElem? (i := 9) rfl)) (hw _ (List.mem_of_getElem? (i := 3) rfl)) (hw _ (List.mem_of_getElem? (i := 11) rfl)) (by decide) (own_si2_21 l Z a0 hw sa_ qc_ d0_ d1_ cs fm hS hcs hAD hHI hLO hFM hfc c0 c1 g0 g1 (L)) (W := 0) (argsL := [(.ref qc_), (.int (0)), (.int (2)), .null]) (rest := []) rfl rfl rfl own_pd0 rfl (Nat.le_of_eq rfl) (by decide) (by decide) (by decide) (by decide) (fun v T M hQ X => ?_)
  obtain ⟨f1, f2, rfl, rfl⟩ := hQ
  exact k_return C X d_jdk_42_method_3_code_9 ⟨f1, f2, rfl, rfl⟩ (by decide) (by decide)
theorem d_jdk_52_method_21_code_44 : decode jdk_52_method_21_code 44 = .ok (.iload 4, 2) := by decide +kernel
theorem d_jdk_52_method_21_code_46 : decode jdk_52_method_21_code 46 = .ok (.ireturn, 1) := by decide +kernel
def rm_own_cmp2_22 : Room := { frames := 0, cells := 0, slots := 0, locals := 0 }
set_option maxRecDepth 65536 in
set_option maxHeartbeats 40000000 in
theorem own_cmp2_22 (l : Launch) (Z : State) (a0 : Array Value) (hw : ∀ d ∈ tables_1, d.before a0 Z = true) (qc_ : Addr) (qb_ : Addr) (d0_ : Int32) (d1_ : Int32) (cs : Int32) (fm : Value) (hS : Sta Z Z.heap "java/lang/String" "COMPACT_STRINGS" "Z" (.int cs)) (hcs : ¬ cs = 0) (hAD : Sta Z Z.heap "java/lang/StringUTF16" "$assertionsDisabled" "Z" (.int 1)) (hHI : Sta Z Z.heap "java/lang/StringUTF16" "HI_BYTE_SHIFT" "I" (.int 0)) (hLO : Sta Z Z.heap "java/lang/StringUTF16" "LO_BYTE_SHIFT" "I" (.int 8)) (hFM : Sta Z Z.heap "jdk/internal/util/Preconditions" "SIOOBE_FORMATTER" "Ljava/util/function/BiFunction;" fm) (hfc : fm.category = 1) (c0 : own_ch d0_) (c1 : own_ch d1_) (g0 : ¬ (255) < d0_) (g1 : ¬ (255) < d1_) (L : List (Addr × (Cell → Prop))) :
    own_Con l Z (⟨"java/lang/StringUTF16", "compress", "([CI[BII)I"⟩ : MethodName) jdk_52_method_21_code 7 (some .int) rm_own_cmp2_22 #[(.ref qc_), (.int (0)), (.ref qb_), (.int (0)), (.int (2))] ((qc_, own_ar Z .char [(.int d0_), (.int d1_)]) :: (qb_, own_ar Z .byte [(.int 0), (.int 0)]) :: L) (fun v M => v = some (.int (2)) ∧ M = (qc_, own_ar Z .char [(.int d0_), (.int d1_)]) :: (qb_, own_ar Z .byte [(.int (nar .byte d0_.toInt8.toInt32)), (.int (nar .byte d1_.toInt8.toInt32))]) :: L) := by
  refine own_con (ls := #[.val (.ref qc_), .val (.int (0)), .val (.ref qb_), .val (.int (0)), .val (.int (2)), .unset, .unset]) (plainFor_of_name own_pn2) (fun m => own_ent m rfl) ?_
  intro p e s m below meth c T C X
  refine k_iconst C X d_jdk_52_method_21_code_0 rfl (v := 0) rfl ?_
  refine k_istore C X d_jdk_52_method_21_code_1 rfl (l' := #[.val (.ref qc_), .val (.int (0)), .val (.ref qb_), .val (.int (0)), .val (.int (2)), .val (.int (0)), .unset]) rfl ?_
  refine k_iload C X d_jdk_52_method_21_code_3 rfl rfl ?_
  refine k_iload C X d_jdk_52_method_21_code_5 rfl rfl ?_
  refine k_icmp_ge C X d_jdk_52_method_21_code_7 rfl (tpc := 44) rfl (fun hc => (absurd hc (by decide) : False).elim) (fun _ => ?_)
  refine k_aloadN C X d_jdk_52_method_21_code_10 rfl rfl rfl ?_
  refine k_iloadN C X d_jdk_52_method_21_code_11 rfl rfl ?_
  refine k_caload C X d_jdk_52_method_21_code_12 rfl (ix := 0) (i := 0) rfl (by decide) (by decide) rfl ?_
  refine k_istore C X d_jdk_52_method_21_code_13 rfl (l' := #[.val (.ref qc_), .val (.int (0)), .val (.ref qb_), .val (.int (0)), .val (.int (2)), .val (.int (0)), .val (.int d0_)]) rfl ?_
  refine k_iload C X d_jdk_52_method_21_code_15 rfl rfl ?_
  refine k_sipush C X d_jdk_52_method_21_code_17 rfl (v := 255) rfl ?_
  refine k_icmp_le C X d_jdk_52_method_21_code_20 rfl (tpc := 26) rfl (fun _ => ?_) (fun hc => (g0 hc : False).elim)
  refine k_aloadN C X d_jdk_52_method_21_code_26 rfl rfl rfl ?_
  refine k_iloadN C X d_jdk_52_method_21_code_27 rfl rfl ?_
  refine k_iload C X d_jdk_52_method_21_code_28 rfl rfl ?_
  refine k_i2b C X d_jdk_52_method_21_code_30 rfl ?_
  refine k_bastore C X d_jdk_52_method_21_code_31 rfl (ix := 1) (i := 0) rfl (by decide) (by decide) (Nat.le_of_ble_eq_true rfl) (vs' := [(.int (nar .byte d0_.toInt8.toInt32)), (.int 0)]) rfl (L' := (qc_, own_ar Z .char [(.int d0_), (.int d1_)]) :: (qb_, own_ar Z .byte [(.int (nar .byte d0_.toInt8.toInt32)), (.int 0)]) :: L) rfl (fun T X => ?_)
  refine k_iinc C X d_jdk_52_method_21_code_32 rfl (v := 1) rfl rfl (l' := #[.val (.ref qc_), .val (.int (1)), .val (.ref qb_), .val (.int (0)), .val (.int (2)), .val (.int (0)), .val (.int d0_)]) rfl ?_
  refine k_iinc C X d_jdk_52_method_21_code_35 rfl (v := 1) rfl rfl (l' := #[.val (.ref qc_), .val (.int (1)), .val (.ref qb_), .val (.int (1)), .val (.int (2)), .val (.int (0)), .val (.int d0_)]) rfl ?_
  refine k_iinc C X d_jdk_52_method_21_code_38 rfl (v := 1) rfl rfl (l' := #[.val (.ref qc_), .val (.int (1)), .val (.ref qb_), .val (.int (1)), .val (.int (2)), .val (.int (1)), .val (.int d0_)]) rfl ?_
  refine k_goto C X d_jdk_52_method_21_code_41 (tpc := 3) rfl ?_
  refine k_iload C X d_jdk_52_method_21_code_3 rfl rfl ?_
  refine k_iload C X d_jdk_52_method_21_code_5 rfl rfl ?_
  refine k_icmp_ge C X d_jdk_52_method_21_code_7 rfl (tpc := 44) rfl (fun hc => (absurd hc (by decide) : False).elim) (fun _ => ?_)
  refine k_aloadN C X d_jdk_52_method_21_code_10 rfl rfl rfl ?_
  refine k_iloadN C X d_jdk_52_method_21_code_11 rfl rfl ?_
  refine k_caload C X d_jdk_52_method_21_code_12 rfl (ix := 0) (i := 1) rfl (by decide) (by decide) rfl ?_
  refine k_istore C X d_jdk_52_method_21_code_13 rfl (l' := #[.val (.ref qc_), .val (.int (1)), .val (.ref qb_), .val (.int (1)), .val (.int (2)), .val (.int (1)), .val (.int d1_)]) rfl ?_
  refine k_iload C X d_jdk_52_method_21_code_15 rfl rfl ?_
  refine k_sipush C X d_jdk_52_method_21_code_17 rfl (v := 255) rfl ?_
  refine k_icmp_le C X d_jdk_52_method_21_code_20 rfl (tpc := 26) rfl (fun _ => ?_) (fun hc => (g1 hc : False).elim)
  refine k_aloadN C X d_jdk_52_method_21_code_26 rfl rfl rfl ?_
  refine k_iloadN C X d_jdk_52_method_21_code_27 rfl rfl ?_
  refine k_iload C X d_jdk_52_method_21_code_28 rfl rfl ?_
  refine k_i2b C X d_jdk_52_method_21_code_30 rfl ?_
  refine k_bastore C X d_jdk_52_method_21_code_31 rfl (ix := 1) (i := 1) rfl (by decide) (by decide) (Nat.le_of_ble_eq_true rfl) (vs' := [(.int (nar .byte d0_.toInt8.toInt32)), (.int (nar .byte d1_.toInt8.toInt32))]) rfl (L' := (qc_, own_ar Z .char [(.int d0_), (.int d1_)]) :: (qb_, own_ar Z .byte [(.int (nar .byte d0_.toInt8.toInt32)), (.int (nar .byte d1_.toInt8.toInt32))]) :: L) rfl (fun T X => ?_)
  refine k_iinc C X d_jdk_52_method_21_code_32 rfl (v := 1) rfl rfl (l' := #[.val (.ref qc_), .val (.int (2)), .val (.ref qb_), .val (.int (1)), .val (.int (2)), .val (.int (1)), .val (.int d1_)]) rfl ?_
  refine k_iinc C X d_jdk_52_method_21_code_35 rfl (v := 1) rfl rfl (l' := #[.val (.ref qc_), .val (.int (2)), .val (.ref qb_), .val (.int (2)), .val (.int (2)), .val (.int (1)), .val (.int d1_)]) rfl ?_
  refine k_iinc C X d_jdk_52_method_21_code_38 rfl (v := 1) rfl rfl (l' := #[.val (.ref qc_), .val (.int (2)), .val (.ref qb_), .val (.int (2)), .val (.int (2)), .val (.int (2)), .val (.int d1_)]) rfl ?_
  refine k_goto C X d_jdk_52_method_21_code_41 (tpc := 3) rfl ?_
  refine k_iload C X d_jdk_52_method_21_code_3 rfl rfl ?_
  refine k_iload C X d_jdk_52_method_21_code_5 rfl rfl ?_
  refine k_icmp_ge C X d_jdk_52_method_21_code_7 rfl (tpc := 44) rfl (fun _ => ?_) (fun hc => (absurd hc (by decide) : False).elim)
  refine k_iload C X d_jdk_52_method_21_code_44 rfl rfl ?_
  exact k_ireturn C X d_jdk_52_method_21_code_46 (by simp) rfl ⟨rfl, rfl⟩ (by decide) (by decide)
theorem d_jdk_52_method_16_code_57 : decode jdk_52_method_16_code 57 = .ok (.aload_n 3, 1) := by decide +kernel
theorem d_jdk_52_method_16_code_58 : decode jdk_52_method_16_code 58 = .ok (.areturn, 1) := by decide +kernel
def rm_own_cmp1_22 : Room := { frames := 1, cells := 1, slots := 2, locals := 18 }
set_option maxRecDepth 65536 in
set_option maxHeartbeats 40000000 in
theorem own_cmp1_22 (l : Launch) (Z : State) (a0 : Array Value) (hw : ∀ d ∈ tables_1, d.before a0 Z = true) (qc_ : Addr) (d0_ : Int32) (d1_ : Int32) (cs : Int32) (fm : Value) (hS : Sta Z Z.heap "java/lang/String" "COMPACT_STRINGS" "Z" (.int cs)) (hcs : ¬ cs = 0) (hAD : Sta Z Z.heap "java/lang/StringUTF16" "$assertionsDisabled" "Z" (.int 1)) (hHI : Sta Z Z.heap "java/lang/StringUTF16" "HI_BYTE_SHIFT" "I" (.int 0)) (hLO : Sta Z Z.heap "java/lang/StringUTF16" "LO_BYTE_SHIFT" "I" (.int 8)) (hFM : Sta Z Z.heap "jdk/internal/util/Preconditions" "SIOOBE_FORMATTER" "Ljava/util/function/BiFunction;" fm) (hfc : fm.category = 1) (c0 : own_ch d0_) (c1 : own_ch d1_) (g0 : ¬ (255) < d0_) (g1 : ¬ (255) < d1_) (L : List (Addr × (Cell → Prop))) :
    own_Con l Z (⟨"java/lang/StringUTF16", "compress", "([CII)[B"⟩ : MethodName) jdk_52_method_16_code 6 (some (.array .byte)) rm_own_cmp1_22 #[(.ref qc_), (.int (0)), (.int (2))] ((qc_, own_ar Z .char [(.int d0_), (.int d1_)]) :: L) (fun v M => ∃ o1, v = some (.ref o1) ∧ M = (qc_, own_ar Z .char [(.int d0_), (.int d1_)]) :: (o1, own_ar Z .byte [(.int (nar .byte d0_.toInt8.toInt32)), (.int (nar .byte d1_.toInt8.toInt32))]) :: L) := by
  refine own_con (ls := #[.val (.ref qc_), .val (.int (0)), .val (.int (2)), .unset, .unset, .unset]) (plainFor_of_name own_pn2) (fun m => own_ent m rfl) ?_
  intro p e s m below meth c T C X
  refine k_iloadN C X d_jdk_52_method_16_code_0 rfl rfl ?_
  refine k_newarray C X d_jdk_52_method_16_code_1 rfl (ty := .byte) rfl (hw _ (List.mem_of_getElem? (i := 16) rfl)) (by decide) (cap := 2) (by decide) (by decide) (by decide) (by decide) (vs := [(.int 0), (.int 0)]) rfl (fun T o1 X => ?_)
  refine k_astoreN C X d_jdk_52_method_16_code_3 rfl rfl (l' := #[.val (.ref qc_), .val (.int (0)), .val (.int (2)), .val (.ref o1), .unset, .unset]) rfl ?_
  refine k_aloadN C X d_jdk_52_method_16_code_4 rfl rfl rfl ?_
  refine k_iloadN C X d_jdk_52_method_16_code_5 rfl rfl ?_
  refine k_aloadN C X d_jdk_52_method_16_code_6 rfl rfl rfl ?_
  refine k_iconst C X d_jdk_52_method_16_code_7 rfl (v := 0) rfl ?_
  refine k_iloadN C X d_jdk_52_method_16_code_8 rfl rfl ?_
  replace X := X.bring (i := 1) rfl (M := (qc_, own_ar Z .char [(.int d0_), (.int d1_)]) :: (o1, own_ar Z .byte [(.int 0), (.int 0)]) :: L) rfl
  refine k_static C X d_jdk_52_method_16_code_9 rfl (hw _ (List.mem_of_getElem? (i := 70) rfl)) (hw _ (List.mem_of_getElem? (i := 71) rfl)) (hw _ (List.mem_of_getElem? (i := 68) rfl)) (hw _ (List.mem_of_getElem? (i := 72) rfl)) (by decide) (own_cmp2_22 l Z a0 hw qc_ o1 d0_ d1_ cs fm hS hcs hAD hHI hLO hFM hfc c0 c1 g0 g1 (L)) (W := 0) (argsL := [(.ref qc_), (.int (0)), (.ref o1), (.int (0)), (.int (2))]) (rest := []) rfl rfl rfl own_pd23 rfl (Nat.le_of_eq rfl) (by decide) (by decide) (by decide) (by decide) (fun v T M hQ X => ?_)
  obtain ⟨rfl, rfl⟩ := hQ
  refine k_istore C X d_jdk_52_method_16_code_12 rfl (l' := #[.val (.ref qc_), .val (.int (0)), .val (.int (2)), .val (.ref o1), .val (.int (2)), .unset]) rfl ?_
  refine k_iload C X d_jdk_52_method_16_code_14 rfl rfl ?_
  refine k_iloadN C X d_jdk_52_method_16_code_16 rfl rfl ?_
  refine k_icmp_eq C X d_jdk_52_method_16_code_17 rfl (tpc := 57) rfl (fun _ => ?_) (fun hc => (absurd hc (by decide) : False).elim)
  refine k_aloadN C X d_jdk_52_method_16_code_57 rfl rfl rfl ?_
  exact k_areturn C X d_jdk_52_method_16_code_58 rfl rfl rfl ⟨o1, rfl, rfl⟩ (by decide) (by decide)
def rm_own_cl22 : Room := { frames := 0, cells := 0, slots := 0, locals := 0 }
set_option maxRecDepth 65536 in
set_option maxHeartbeats 40000000 in
theorem own_cl22 (l : Launch) (Z : State) (a0 : Array Value) (hw : ∀ d ∈ tables_1, d.before a0 Z = true) (qb_ : Addr) (e0_ : Int32) (e1_ : Int32) (cs : Int32) (fm : Value) (hS : Sta Z Z.heap "java/lang/String" "COMPACT_STRINGS" "Z" (.int cs)) (hcs : ¬ cs = 0) (hAD : Sta Z Z.heap "java/lang/StringUTF16" "$assertionsDisabled" "Z" (.int 1)) (hHI : Sta Z Z.heap "java/lang/StringUTF16" "HI_BYTE_SHIFT" "I" (.int 0)) (hLO : Sta Z Z.heap "java/lang/StringUTF16" "LO_BYTE_SHIFT" "I" (.int 8)) (hFM : Sta Z Z.heap "jdk/internal/util/Preconditions" "SIOOBE_FORMATTER" "Ljava/util/function/BiFunction;" fm) (hfc : fm.category = 1) (L : List (Addr × (Cell → Prop))) :
    own_Con l Z (⟨"java/lang/StringUTF16", "coderFromArrayLen", "([BI)B"⟩ : MethodName) jdk_52_method_15_code 2 (some .byte) rm_own_cl22 #[(.ref qb_), (.int (2))] ((qb_, own_ar Z .byte [(.int e0_), (.int e1_)]) :: L) (fun v M => v = some (.int (0)) ∧ M = (qb_, own_ar Z .byte [(.int e0_), (.int e1_)]) :: L) := by
  refine own_con (ls := #[.val (.ref qb_), .val (.int (2))]) (plainFor_of_name own_pn2) (fun m => own_ent m rfl) ?_
  intro p e s m below meth c T C X
  refine k_iloadN C X d_jdk_52_method_15_code_0 rfl rfl ?_
  refine k_aloadN C X d_jdk_52_method_15_code_1 rfl rfl rfl ?_
  refine k_arraylength C X d_jdk_52_method_15_code_2 rfl (ix := 0) rfl (z := (2)) rfl ?_
  refine k_isub C X d_jdk_52_method_15_code_3 rfl ?_
  refine k_bipush C X d_jdk_52_method_15_code_4 rfl (v := 31) rfl ?_
  refine k_iushr C X d_jdk_52_method_15_code_6 rfl ?_
  refine k_i2b C X d_jdk_52_method_15_code_7 rfl ?_
  exact k_ireturn C X d_jdk_52_method_15_code_8 (by simp) rfl ⟨rfl, rfl⟩ (by decide) (by decide)
def rm_own_si2_22 : Room := { frames := 2, cells := 1, slots := 2, locals := 35 }
set_option maxRecDepth 65536 in
set_option maxHeartbeats 40000000 in
theorem own_si2_22 (l : Launch) (Z : State) (a0 : Array Value) (hw : ∀ d ∈ tables_1, d.before a0 Z = true) (sa_ : Addr) (qc_ : Addr) (d0_ : Int32) (d1_ : Int32) (cs : Int32) (fm : Value) (hS : Sta Z Z.heap "java/lang/String" "COMPACT_STRINGS" "Z" (.int cs)) (hcs : ¬ cs = 0) (hAD : Sta Z Z.heap "java/lang/StringUTF16" "$assertionsDisabled" "Z" (.int 1)) (hHI : Sta Z Z.heap "java/lang/StringUTF16" "HI_BYTE_SHIFT" "I" (.int 0)) (hLO : Sta Z Z.heap "java/lang/StringUTF16" "LO_BYTE_SHIFT" "I" (.int 8)) (hFM : Sta Z Z.heap "jdk/internal/util/Preconditions" "SIOOBE_FORMATTER" "Ljava/util/function/BiFunction;" fm) (hfc : fm.category = 1) (c0 : own_ch d0_) (c1 : own_ch d1_) (g0 : ¬ (255) < d0_) (g1 : ¬ (255) < d1_) (L : List (Addr × (Cell → Prop))) :
    own_Con l Z (⟨"java/lang/String", "<init>", "([CIILjava/lang/Void;)V"⟩ : MethodName) jdk_42_method_149_code 6 none rm_own_si2_22 #[(.ref sa_), (.ref qc_), (.int (0)), (.int (2)), .null] ((sa_, own_ob Z "java/lang/String" [("value", "[B", .null), ("coder", "B", (.int (0)))]) :: (qc_, own_ar Z .char [(.int d0_), (.int d1_)]) :: L) (fun v M => ∃ f1, v = none ∧ M = (f1, own_ar Z .byte [(.int (nar .byte d0_.toInt8.toInt32)), (.int (nar .byte d1_.toInt8.toInt32))]) :: (qc_, own_ar Z .char [(.int d0_), (.int d1_)]) :: (sa_, own_ob Z "java/lang/String" [("value", "[B", (.ref f1)), ("coder", "B", (.int (0)))]) :: L) := by
  refine own_con (ls := #[.val (.ref sa_), .val (.ref qc_), .val (.int (0)), .val (.int (2)), .val .null, .unset]) (plainFor_of_name own_pn0) (fun m => own_ent m rfl) ?_
  intro p e s m below meth c T C X
  refine k_aloadN C X d_jdk_42_method_149_code_0 rfl rfl rfl ?_
  refine k_initO C X d_jdk_42_method_149_code_1 rfl (hw _ (List.mem_of_getElem? (i := 12) rfl)) (hw _ (List.mem_of_getElem? (i := 13) rfl)) (hw _ (List.mem_of_getElem? (i := 14) rfl)) rfl (W := 0) (Nat.le_of_eq rfl) (by decide) (by decide) (fun T X => ?_)
  refine k_iloadN C X d_jdk_42_method_149_code_4 rfl rfl ?_
  refine k_if_ne C X d_jdk_42_method_149_code_5 rfl (tpc := 27) rfl (fun _ => ?_) (fun hc => (absurd hc (by decide) : False).elim)
  refine k_getstatic C X d_jdk_42_method_149_code_27 rfl (hw _ (List.mem_of_getElem? (i := 60) rfl)) hS (fun T X => ?_)
  refine k_if_eq C X d_jdk_42_method_149_code_30 rfl (tpc := 58) rfl (fun hc => (hcs hc : False).elim) (fun _ => ?_)
  refine k_aloadN C X d_jdk_42_method_149_code_33 rfl rfl rfl ?_
  refine k_iloadN C X d_jdk_42_method_149_code_34 rfl rfl ?_
  refine k_iloadN C X d_jdk_42_method_149_code_35 rfl rfl ?_
  replace X := X.bring (i := 1) rfl (M := (qc_, own_ar Z .char [(.int d0_), (.int d1_)]) :: (sa_, own_ob Z "java/lang/String" [("value", "[B", .null), ("coder", "B", (.int (0)))]) :: L) rfl
  refine k_static C X d_jdk_42_method_149_code_36 rfl (hw _ (List.mem_of_getElem? (i := 66) rfl)) (hw _ (List.mem_of_getElem? (i := 67) rfl)) (hw _ (List.mem_of_getElem? (i := 68) rfl)) (hw _ (List.mem_of_getElem? (i := 69) rfl)) (by decide) (own_cmp1_22 l Z a0 hw qc_ d0_ d1_ cs fm hS hcs hAD hHI hLO hFM hfc c0 c1 g0 g1 ((sa_, own_ob Z "java/lang/String" [("value", "[B", .null), ("coder", "B", (.int (0)))]) :: L)) (W := 0) (argsL := [(.ref qc_), (.int (0)), (.int (2))]) (rest := []) rfl rfl rfl own_pd24 rfl (Nat.le_of_eq rfl) (by decide) (by decide) (by decide) (by decide) (fun v T M hQ X => ?_)
  obtain ⟨f1, rfl, rfl⟩ := hQ
  refine k_astore C X d_jdk_42_method_149_code_39 rfl rfl (l' := #[.val (.ref sa_), .val (.ref qc_), .val (.int (0)), .val (.int (2)), .val .null, .val (.ref f1)]) rfl ?_
  refine k_aloadN C X d_jdk_42_method_149_code_41 rfl rfl rfl ?_
  refine k_aload C X d_jdk_42_method_149_code_42 rfl rfl rfl ?_
  refine k_iloadN C X d_jdk_42_method_149_code_44 rfl rfl ?_
  replace X := X.bring (i := 1) rfl (M := (f1, own_ar Z .byte [(.int (nar .byte d0_.toInt8.toInt32)), (.int (nar .byte d1_.toInt8.toInt32))]) :: (qc_, own_ar Z .char [(.int d0_), (.int d1_)]) :: (sa_, own_ob Z "java/lang/String" [("value", "[B", .null), ("coder", "B", (.int (0)))]) :: L) rfl
  refine k_static C X d_jdk_42_method_149_code_45 rfl (hw _ (List.mem_of_getElem? (i := 73) rfl)) (hw _ (List.mem_of_getElem? (i := 74) rfl)) (hw _ (List.mem_of_getElem? (i := 68) rfl)) (hw _ (List.mem_of_getElem? (i := 75) rfl)) (by decide) (own_cl22 l Z a0 hw f1 (nar .byte d0_.toInt8.toInt32) (nar .byte d1_.toInt8.toInt32) cs fm hS hcs hAD hHI hLO hFM hfc ((qc_, own_ar Z .char [(.int d0_), (.int d1_)]) :: (sa_, own_ob Z "java/lang/String" [("value", "[B", .null), ("coder", "B", (.int (0)))]) :: L)) (W := 1) (argsL := [(.ref f1), (.int (2))]) (rest := [(.ref sa_)]) rfl rfl rfl own_pd25 rfl (Nat.le_of_eq rfl) (by decide) (by decide) (by decide) (by decide) (fun v T M hQ X => ?_)
  obtain ⟨rfl, rfl⟩ := hQ
  refine k_putfield C X d_jdk_42_method_149_code_48 rfl (host := "") (Or.inl (hw _ (List.mem_of_getElem? (i := 22) rfl))) (hw _ (List.mem_of_getElem? (i := 2) rfl)) (Or.inr ⟨(hw _ (List.mem_of_getElem? (i := 18) rfl)), rfl, rfl⟩) (own_lay_String hw) own_lay_String_nd (ix := 2) (j := 1) rfl rfl rfl (fs' := [("value", "[B", .null), ("coder", "B", (.int (0)))]) rfl (ty := .byte) (by decide) rfl rfl (L' := (f1, own_ar Z .byte [(.int (nar .byte d0_.toInt8.toInt32)), (.int (nar .byte d1_.toInt8.toInt32))]) :: (qc_, own_ar Z .char [(.int d0_), (.int d1_)]) :: (sa_, own_ob Z "java/lang/String" [("value", "[B", .null), ("coder", "B", (.int (0)))]) :: L) rfl (fun T X => ?_)
  refine k_aloadN C X d_jdk_42_method_149_code_51 rfl rfl rfl ?_
  refine k_aload C X d_jdk_42_method_149_code_52 rfl rfl rfl ?_
  refine k_putfield C X d_jdk_42_method_149_code_54 rfl (host := "") (Or.inl (hw _ (List.mem_of_getElem? (i := 21) rfl))) (hw _ (List.mem_of_getElem? (i := 2) rfl)) (Or.inr ⟨(hw _ (List.mem_of_getElem? (i := 17) rfl)), rfl, rfl⟩) (own_lay_String hw) own_lay_String_nd (ix := 2) (j := 0) rfl rfl rfl (fs' := [("value", "[B", (.ref f1)), ("coder", "B", (.int (0)))]) rfl (ty := (.array .byte)) (by decide) rfl rfl (L' := (f1, own_ar Z .byte [(.int (nar .byte d0_.toInt8.toInt32)), (.int (nar .byte d1_.toInt8.toInt32))]) :: (qc_, own_ar Z .char [(.int d0_), (.int d1_)]) :: (sa_, own_ob Z "java/lang/String" [("value", "[B", (.ref f1)), ("coder", "B", (.int (0)))]) :: L) rfl (fun T X => ?_)
  exact k_return C X d_jdk_42_method_149_code_57 ⟨f1, rfl, rfl⟩ (by decide) (by decide)
def rm_own_si1_22 : Room := { frames := 3, cells := 1, slots := 2, locals := 52 }
set_option maxRecDepth 65536 in
set_option maxHeartbeats 40000000 in
theorem own_si1_22 (l : Launch) (Z : State) (a0 : Array Value) (hw : ∀ d ∈ tables_1, d.before a0 Z = true) (sa_ : Addr) (qc_ : Addr) (d0_ : Int32) (d1_ : Int32) (cs : Int32) (fm : Value) (hS : Sta Z Z.heap "java/lang/String" "COMPACT_STRINGS" "Z" (.int cs)) (hcs : ¬ cs = 0) (hAD : Sta Z Z.heap "java/lang/StringUTF16" "$assertionsDisabled" "Z" (.int 1)) (hHI : Sta Z Z.heap "java/lang/StringUTF16" "HI_BYTE_SHIFT" "I" (.int 0)) (hLO : Sta Z Z.heap "java/lang/StringUTF16" "LO_BYTE_SHIFT" "I" (.int 8)) (hFM : Sta Z Z.heap "jdk/internal/util/Preconditions" "SIOOBE_FORMATTER" "Ljava/util/function/BiFunction;" fm) (hfc : fm.category = 1) (c0 : own_ch d0_) (c1 : own_ch d1_) (g0 : ¬ (255) < d0_) (g1 : ¬ (255) < d1_) (L : List (Addr × (Cell → Prop))) :
    own_Con l Z (⟨"java/lang/String", "<init>", "([C)V"⟩ : MethodName) jdk_42_method_3_code 2 none rm_own_si1_22 #[(.ref sa_), (.ref qc_)] ((sa_, own_ob Z "java/lang/String" [("value", "[B", .null), ("coder", "B", (.int (0)))]) :: (qc_, own_ar Z .char [(.int d0_), (.int d1_)]) :: L) (fun v M => ∃ f1, v = none ∧ M = (f1, own_ar Z .byte [(.int (nar .byte d0_.toInt8.toInt32)), (.int (nar .byte d1_.toInt8.toInt32))]) :: (qc_, own_ar Z .char [(.int d0_), (.int d1_)]) :: (sa_, own_ob Z "java/lang/String" [("value", "[B", (.ref f1)), ("coder", "B", (.int (0)))]) :: L) := by
  refine own_con (ls := #[.val (.ref sa_), .val (.ref qc_)]) (plainFor_of_name own_pn0) (fun m => own_ent m rfl) ?_
  intro p e s m below meth c T C X
  refine k_aloadN C X d_jdk_42_method_3_code_0 rfl rfl rfl ?_
  refine k_aloadN C X d_jdk_42_method_3_code_1 rfl rfl rfl ?_
  refine k_iconst C X d_jdk_42_method_3_code_2 rfl (v := 0) rfl ?_
  refine k_aloadN C X d_jdk_42_method_3_code_3 rfl rfl rfl ?_
  refine k_arraylength C X d_jdk_42_method_3_code_4 rfl (ix := 1) rfl (z := (2)) rfl ?_
  refine k_aconst_null C X d_jdk_42_method_3_code_5 rfl ?_
  replace X := X.bring (i := 1) rfl (M := (qc_, own_ar Z .char [(.int d0_), (.int d1_)]) :: (sa_, own_ob Z "java/lang/String" [("value", "[B", .null), ("coder", "B", (.int (0)))]) :: L) rfl
  replace X := X.bring (i := 1) rfl (M := (sa_, own_ob Z "java/lang/String" [("value", "[B", .null), ("coder", "B", (.int (0)))]) :: (qc_, own_ar Z .char [(.int d0_), (.int d1_)]) :: L) rfl
  refine k_init C X d_jdk_42_method_3_code_6 rfl rfl (hw _ (List.mem_of_getElem? (i := 8) rfl)) (hw _ (List.mem_of_getElem? (i := 9) rfl)) (hw _ (List.mem_of_getElem? (i := 3) rfl)) (hw _ (List.mem_of_getElem? (i := 11) rfl)) (by decide) (own_si2_22 l Z a0 hw sa_ qc_ d0_ d1_ cs fm hS hcs hAD hHI hLO hFM hfc c0 c1 g0 g1 (L)) (W := 0) (argsL := [(.ref qc_), (.int (0)), (.int (2)), .null]) (rest := []) rfl rfl rfl own_pd0 rfl (Nat.le_of_eq rfl) (by decide) (by decide) (by decide) (by decide) (fun v T M hQ X => ?_)
  obtain ⟨f1, rfl, rfl⟩ := hQ
  exact k_return C X d_jdk_42_method_3_code_9 ⟨f1, rfl, rfl⟩ (by decide) (by decide)
def rm_own_len20 : Room := { frames := 1, cells := 0, slots := 0, locals := 13 }
set_option maxRecDepth 65536 in
set_option maxHeartbeats 40000000 in
theorem own_len20 (l : Launch) (Z : State) (a0 : Array Value) (hw : ∀ d ∈ tables_1, d.before a0 Z = true) (sa_ : Addr) (qb_ : Addr) (e0_ : Int32) (e1_ : Int32) (cs : Int32) (fm : Value) (hS : Sta Z Z.heap "java/lang/String" "COMPACT_STRINGS" "Z" (.int cs)) (hcs : ¬ cs = 0) (hAD : Sta Z Z.heap "java/lang/StringUTF16" "$assertionsDisabled" "Z" (.int 1)) (hHI : Sta Z Z.heap "java/lang/StringUTF16" "HI_BYTE_SHIFT" "I" (.int 0)) (hLO : Sta Z Z.heap "java/lang/StringUTF16" "LO_BYTE_SHIFT" "I" (.int 8)) (hFM : Sta Z Z.heap "jdk/internal/util/Preconditions" "SIOOBE_FORMATTER" "Ljava/util/function/BiFunction;" fm) (hfc : fm.category = 1) (L : List (Addr × (Cell → Prop))) :
    own_Con l Z (⟨"java/lang/String", "length", "()I"⟩ : MethodName) jdk_42_method_54_code 1 (some .int) rm_own_len20 #[(.ref sa_)] ((sa_, own_ob Z "java/lang/String" [("value", "[B", (.ref qb_)), ("coder", "B", (.int (0)))]) :: (qb_, own_ar Z .byte [(.int e0_), (.int e1_)]) :: L) (fun v M => v = some (.int (2)) ∧ M = (sa_, own_ob Z "java/lang/String" [("value", "[B", (.ref qb_)), ("coder", "B", (.int (0)))]) :: (qb_, own_ar Z .byte [(.int e0_), (.int e1_)]) :: L) := by
  refine own_con (ls := #[.val (.ref sa_)]) (plainFor_of_name own_pn0) (fun m => own_ent m rfl) ?_
  intro p e s m below meth c T C X
  refine k_aloadN C X d_jdk_42_method_54_code_0 rfl rfl rfl ?_
  refine k_getfield C X d_jdk_42_method_54_code_1 rfl (host := "") (Or.inl (hw _ (List.mem_of_getElem? (i := 21) rfl))) (own_fL (ix := 0) (j := 0) rfl rfl) (fun T X => ?_)
  refine k_arraylength C X d_jdk_42_method_54_code_4 rfl (ix := 1) rfl (z := (2)) rfl ?_
  refine k_aloadN C X d_jdk_42_method_54_code_5 rfl rfl rfl ?_
  refine k_virtual C X d_jdk_42_method_54_code_6 rfl (hw _ (List.mem_of_getElem? (i := 55) rfl)) (hw _ (List.mem_of_getElem? (i := 56) rfl)) (hw _ (List.mem_of_getElem? (i := 3) rfl)) (hw _ (List.mem_of_getElem? (i := 59) rfl)) (hw _ (List.mem_of_getElem? (i := 58) rfl)) (hw _ (List.mem_of_getElem? (i := 57) rfl)) (by decide) (own_nf C.2.2.2.1 (hw _ (List.mem_of_getElem? (i := 58) rfl))) (own_eL (ix := 0) rfl) (own_coder0 l Z a0 hw sa_ qb_ cs fm hS hcs hAD hHI hLO hFM hfc ((qb_, own_ar Z .byte [(.int e0_), (.int e1_)]) :: L)) (W := 1) (argsL := []) (rest := [(.int (2))]) rfl rfl rfl own_pd2 rfl (Nat.le_of_eq rfl) (by decide) (by decide) (by decide) (by decide) (fun v T M hQ X => ?_)
  obtain ⟨rfl, rfl⟩ := hQ
  refine k_ishr C X d_jdk_42_method_54_code_9 rfl ?_
  exact k_ireturn C X d_jdk_42_method_54_code_10 (by simp) rfl ⟨rfl, rfl⟩ (by decide) (by decide)
def rm_own_cha200 : Room := { frames := 3, cells := 0, slots := 0, locals := 40 }
set_option maxRecDepth 65536 in
set_option maxHeartbeats 40000000 in
theorem own_cha200 (l : Launch) (Z : State) (a0 : Array Value) (hw : ∀ d ∈ tables_1, d.before a0 Z = true) (sa_ : Addr) (qb_ : Addr) (e0_ : Int32) (e1_ : Int32) (cs : Int32) (fm : Value) (hS : Sta Z Z.heap "java/lang/String" "COMPACT_STRINGS" "Z" (.int cs)) (hcs : ¬ cs = 0) (hAD : Sta Z Z.heap "java/lang/StringUTF16" "$assertionsDisabled" "Z" (.int 1)) (hHI : Sta Z Z.heap "java/lang/StringUTF16" "HI_BYTE_SHIFT" "I" (.int 0)) (hLO : Sta Z Z.heap "java/lang/StringUTF16" "LO_BYTE_SHIFT" "I" (.int 8)) (hFM : Sta Z Z.heap "jdk/internal/util/Preconditions" "SIOOBE_FORMATTER" "Ljava/util/function/BiFunction;" fm) (hfc : fm.category = 1) (L : List (Addr × (Cell → Prop))) :
    own_Con l Z (⟨"java/lang/String", "charAt", "(I)C"⟩ : MethodName) jdk_42_method_56_code 2 (some .char) rm_own_cha200 #[(.ref sa_), (.int (0))] ((sa_, own_ob Z "java/lang/String" [("value", "[B", (.ref qb_)), ("coder", "B", (.int (0)))]) :: (qb_, own_ar Z .byte [(.int e0_), (.int e1_)]) :: L) (fun v M => v = some (.int ((e0_ &&& (255)).toUInt32.toUInt16.toUInt32.toInt32)) ∧ M = (qb_, own_ar Z .byte [(.int e0_), (.int e1_)]) :: (sa_, own_ob Z "java/lang/String" [("value", "[B", (.ref qb_)), ("coder", "B", (.int (0)))]) :: L) := by
  refine own_con (ls := #[.val (.ref sa_), .val (.int (0))]) (plainFor_of_name own_pn0) (fun m => own_ent m rfl) ?_
  intro p e s m below meth c T C X
  refine k_aloadN C X d_jdk_42_method_56_code_0 rfl rfl rfl ?_
  refine k_virtual C X d_jdk_42_method_56_code_1 rfl (hw _ (List.mem_of_getElem? (i := 81) rfl)) (hw _ (List.mem_of_getElem? (i := 82) rfl)) (hw _ (List.mem_of_getElem? (i := 3) rfl)) (hw _ (List.mem_of_getElem? (i := 85) rfl)) (hw _ (List.mem_of_getElem? (i := 84) rfl)) (hw _ (List.mem_of_getElem? (i := 83) rfl)) (by decide) (own_nf C.2.2.2.1 (hw _ (List.mem_of_getElem? (i := 84) rfl))) (own_eL (ix := 0) rfl) (own_isl0 l Z a0 hw sa_ qb_ cs fm hS hcs hAD hHI hLO hFM hfc ((qb_, own_ar Z .byte [(.int e0_), (.int e1_)]) :: L)) (W := 0) (argsL := []) (rest := []) rfl rfl rfl own_pd19 rfl (Nat.le_of_eq rfl) (by decide) (by decide) (by decide) (by decide) (fun v T M hQ X => ?_)
  obtain ⟨rfl, rfl⟩ := hQ
  refine k_if_eq C X d_jdk_42_method_56_code_4 rfl (tpc := 16) rfl (fun hc => (absurd hc (by decide) : False).elim) (fun _ => ?_)
  refine k_aloadN C X d_jdk_42_method_56_code_7 rfl rfl rfl ?_
  refine k_getfield C X d_jdk_42_method_56_code_8 rfl (host := "") (Or.inl (hw _ (List.mem_of_getElem? (i := 21) rfl))) (own_fL (ix := 0) (j := 0) rfl rfl) (fun T X => ?_)
  refine k_iloadN C X d_jdk_42_method_56_code_11 rfl rfl ?_
  replace X := X.bring (i := 1) rfl (M := (qb_, own_ar Z .byte [(.int e0_), (.int e1_)]) :: (sa_, own_ob Z "java/lang/String" [("value", "[B", (.ref qb_)), ("coder", "B", (.int (0)))]) :: L) rfl
  refine k_static C X d_jdk_42_method_56_code_12 rfl (hw _ (List.mem_of_getElem? (i := 86) rfl)) (hw _ (List.mem_of_getElem? (i := 87) rfl)) (hw _ (List.mem_of_getElem? (i := 88) rfl)) (hw _ (List.mem_of_getElem? (i := 89) rfl)) (by decide) (own_lca20 l Z a0 hw qb_ e0_ e1_ cs fm hS hcs hAD hHI hLO hFM hfc ((sa_, own_ob Z "java/lang/String" [("value", "[B", (.ref qb_)), ("coder", "B", (.int (0)))]) :: L)) (W := 0) (argsL := [(.ref qb_), (.int (0))]) (rest := []) rfl rfl rfl own_pd18 rfl (Nat.le_of_eq rfl) (by decide) (by decide) (by decide) (by decide) (fun v T M hQ X => ?_)
  obtain ⟨rfl, rfl⟩ := hQ
  exact k_ireturn C X d_jdk_42_method_56_code_15 (by simp) (own_nch _) ⟨rfl, rfl⟩ (by decide) (by decide)
def rm_own_cha201 : Room := { frames := 3, cells := 0, slots := 0, locals := 40 }
set_option maxRecDepth 65536 in
set_option maxHeartbeats 40000000 in
theorem own_cha201 (l : Launch) (Z : State) (a0 : Array Value) (hw : ∀ d ∈ tables_1, d.before a0 Z = true) (sa_ : Addr) (qb_ : Addr) (e0_ : Int32) (e1_ : Int32) (cs : Int32) (fm : Value) (hS : Sta Z Z.heap "java/lang/String" "COMPACT_STRINGS" "Z" (.int cs)) (hcs : ¬ cs = 0) (hAD : Sta Z Z.heap "java/lang/StringUTF16" "$assertionsDisabled" "Z" (.int 1)) (hHI : Sta Z Z.heap "java/lang/StringUTF16" "HI_BYTE_SHIFT" "I" (.int 0)) (hLO : Sta Z Z.heap "java/lang/StringUTF16" "LO_BYTE_SHIFT" "I" (.int 8)) (hFM : Sta Z Z.heap "jdk/internal/util/Preconditions" "SIOOBE_FORMATTER" "Ljava/util/function/BiFunction;" fm) (hfc : fm.category = 1) (L : List (Addr × (Cell → Prop))) :
    own_Con l Z (⟨"java/lang/String", "charAt", "(I)C"⟩ : MethodName) jdk_42_method_56_code 2 (some .char) rm_own_cha201 #[(.ref sa_), (.int (1))] ((sa_, own_ob Z "java/lang/String" [("value", "[B", (.ref qb_)), ("coder", "B", (.int (0)))]) :: (qb_, own_ar Z .byte [(.int e0_), (.int e1_)]) :: L) (fun v M => v = some (.int ((e1_ &&& (255)).toUInt32.toUInt16.toUInt32.toInt32)) ∧ M = (qb_, own_ar Z .byte [(.int e0_), (.int e1_)]) :: (sa_, own_ob Z "java/lang/String" [("value", "[B", (.ref qb_)), ("coder", "B", (.int (0)))]) :: L) := by
  refine own_con (ls := #[.val (.ref sa_), .val (.int (1))]) (plainFor_of_name own_pn0) (fun m => own_ent m rfl) ?_
  intro p e s m below meth c T C X
  refine k_aloadN C X d_jdk_42_method_56_code_0 rfl rfl rfl ?_
  refine k_virtual C X d_jdk_42_method_56_code_1 rfl (hw _ (List.mem_of_getElem? (i := 81) rfl)) (hw _ (List.mem_of_getElem? (i := 82) rfl)) (hw _ (List.mem_of_getElem? (i := 3) rfl)) (hw _ (List.mem_of_getElem? (i := 85) rfl)) (hw _ (List.mem_of_getElem? (i := 84) rfl)) (hw _ (List.mem_of_getElem? (i := 83) rfl)) (by decide) (own_nf C.2.2.2.1 (hw _ (List.mem_of_getElem? (i := 84) rfl))) (own_eL (ix := 0) rfl) (own_isl0 l Z a0 hw sa_ qb_ cs fm hS hcs hAD hHI hLO hFM hfc ((qb_, own_ar Z .byte [(.int e0_), (.int e1_)]) :: L)) (W := 0) (argsL := []) (rest := []) rfl rfl rfl own_pd19 rfl (Nat.le_of_eq rfl) (by decide) (by decide) (by decide) (by decide) (fun v T M hQ X => ?_)
  obtain ⟨rfl, rfl⟩ := hQ
  refine k_if_eq C X d_jdk_42_method_56_code_4 rfl (tpc := 16) rfl (fun hc => (absurd hc (by decide) : False).elim) (fun _ => ?_)
  refine k_aloadN C X d_jdk_42_method_56_code_7 rfl rfl rfl ?_
  refine k_getfield C X d_jdk_42_method_56_code_8 rfl (host := "") (Or.inl (hw _ (List.mem_of_getElem? (i := 21) rfl))) (own_fL (ix := 0) (j := 0) rfl rfl) (fun T X => ?_)
  refine k_iloadN C X d_jdk_42_method_56_code_11 rfl rfl ?_
  replace X := X.bring (i := 1) rfl (M := (qb_, own_ar Z .byte [(.int e0_), (.int e1_)]) :: (sa_, own_ob Z "java/lang/String" [("value", "[B", (.ref qb_)), ("coder", "B", (.int (0)))]) :: L) rfl
  refine k_static C X d_jdk_42_method_56_code_12 rfl (hw _ (List.mem_of_getElem? (i := 86) rfl)) (hw _ (List.mem_of_getElem? (i := 87) rfl)) (hw _ (List.mem_of_getElem? (i := 88) rfl)) (hw _ (List.mem_of_getElem? (i := 89) rfl)) (by decide) (own_lca21 l Z a0 hw qb_ e0_ e1_ cs fm hS hcs hAD hHI hLO hFM hfc ((sa_, own_ob Z "java/lang/String" [("value", "[B", (.ref qb_)), ("coder", "B", (.int (0)))]) :: L)) (W := 0) (argsL := [(.ref qb_), (.int (1))]) (rest := []) rfl rfl rfl own_pd18 rfl (Nat.le_of_eq rfl) (by decide) (by decide) (by decide) (by decide) (fun v T M hQ X => ?_)
  obtain ⟨rfl, rfl⟩ := hQ
  exact k_ireturn C X d_jdk_42_method_56_code_15 (by simp) (own_nch _) ⟨rfl, rfl⟩ (by decide) (by decide)
def rm_own_cmp2_30 : Room := { frames := 0, cells := 0, slots := 0, locals := 0 }
set_option maxRecDepth 65536 in
set_option maxHeartbeats 40000000 in
theorem own_cmp2_30 (l : Launch) (Z : State) (a0 : Array Value) (hw : ∀ d ∈ tables_1, d.before a0 Z = true) (qc_ : Addr) (qb_ : Addr) (d0_ : Int32) (d1_ : Int32) (d2_ : Int32) (cs : Int32) (fm : Value) (hS : Sta Z Z.heap "java/lang/String" "COMPACT_STRINGS" "Z" (.int cs)) (hcs : ¬ cs = 0) (hAD : Sta Z Z.heap "java/lang/StringUTF16" "$assertionsDisabled" "Z" (.int 1)) (hHI : Sta Z Z.heap "java/lang/StringUTF16" "HI_BYTE_SHIFT" "I" (.int 0)) (hLO : Sta Z Z.heap "java/lang/StringUTF16" "LO_BYTE_SHIFT" "I" (.int 8)) (hFM : Sta Z Z.heap "jdk/internal/util/Preconditions" "SIOOBE_FORMATTER" "Ljava/util/function/BiFunction;" fm) (hfc : fm.category = 1) (c0 : own_ch d0_) (c1 : own_ch d1_) (c2 : own_ch d2_) (g0 : (255) < d0_) (L : List (Addr × (Cell → Prop))) :
    own_Con l Z (⟨"java/lang/StringUTF16", "compress", "([CI[BII)I"⟩ : MethodName) jdk_52_method_21_code 7 (some .int) rm_own_cmp2_30 #[(.ref qc_), (.int (0)), (.ref qb_), (.int (0)), (.int (3))] ((qc_, own_ar Z .char [(.int d0_), (.int d1_), (.int d2_)]) :: (qb_, own_ar Z .byte [(.int 0), (.int 0), (.int 0)]) :: L) (fun v M => v = some (.int (0)) ∧ M = (qc_, own_ar Z .char [(.int d0_), (.int d1_), (.int d2_)]) :: (qb_, own_ar Z .byte [(.int 0), (.int 0), (.int 0)]) :: L) := by
  refine own_con (ls := #[.val (.ref qc_), .val (.int (0)), .val (.ref qb_), .val (.int (0)), .val (.int (3)), .unset, .unset]) (plainFor_of_name own_pn2) (fun m => own_ent m rfl) ?_
  intro p e s m below meth c T C X
  refine k_iconst C X d_jdk_52_method_21_code_0 rfl (v := 0) rfl ?_
  refine k_istore C X d_jdk_52_method_21_code_1 rfl (l' := #[.val (.ref qc_), .val (.int (0)), .val (.ref qb_), .val (.int (0)), .val (.int (3)), .val (.int (0)), .unset]) rfl ?_
  refine k_iload C X d_jdk_52_method_21_code_3 rfl rfl ?_
  refine k_iload C X d_jdk_52_method_21_code_5 rfl rfl ?_
  refine k_icmp_ge C X d_jdk_52_method_21_code_7 rfl (tpc := 44) rfl (fun hc => (absurd hc (by decide) : False).elim) (fun _ => ?_)
  refine k_aloadN C X d_jdk_52_method_21_code_10 rfl rfl rfl ?_
  refine k_iloadN C X d_jdk_52_method_21_code_11 rfl rfl ?_
  refine k_caload C X d_jdk_52_method_21_code_12 rfl (ix := 0) (i := 0) rfl (by decide) (by decide) rfl ?_
  refine k_istore C X d_jdk_52_method_21_code_13 rfl (l' := #[.val (.ref qc_), .val (.int (0)), .val (.ref qb_), .val (.int (0)), .val (.int (3)), .val (.int (0)), .val (.int d0_)]) rfl ?_
  refine k_iload C X d_jdk_52_method_21_code_15 rfl rfl ?_
  refine k_sipush C X d_jdk_52_method_21_code_17 rfl (v := 255) rfl ?_
  refine k_icmp_le C X d_jdk_52_method_21_code_20 rfl (tpc := 26) rfl (fun hc => (hc g0 : False).elim) (fun _ => ?_)
  refine k_iload C X d_jdk_52_method_21_code_23 rfl rfl ?_
  exact k_ireturn C X d_jdk_52_method_21_code_25 (by simp) rfl ⟨rfl, rfl⟩ (by decide) (by decide)
def rm_own_put30 : Room := { frames := 0, cells := 0, slots := 0, locals := 0 }
set_option maxRecDepth 65536 in
set_option maxHeartbeats 40000000 in
theorem own_put30 (l : Launch) (Z : State) (a0 : Array Value) (hw : ∀ d ∈ tables_1, d.before a0 Z = true) (qb_ : Addr) (d_ : Int32) (e0_ : Int32) (e1_ : Int32) (e2_ : Int32) (e3_ : Int32) (e4_ : Int32) (e5_ : Int32) (cs : Int32) (fm : Value) (hS : Sta Z Z.heap "java/lang/String" "COMPACT_STRINGS" "Z" (.int cs)) (hcs : ¬ cs = 0) (hAD : Sta Z Z.heap "java/lang/StringUTF16" "$assertionsDisabled" "Z" (.int 1)) (hHI : Sta Z Z.heap "java/lang/StringUTF16" "HI_BYTE_SHIFT" "I" (.int 0)) (hLO : Sta Z Z.heap "java/lang/StringUTF16" "LO_BYTE_SHIFT" "I" (.int 8)) (hFM : Sta Z Z.heap "jdk/internal/util/Preconditions" "SIOOBE_FORMATTER" "Ljava/util/function/BiFunction;" fm) (hfc : fm.category = 1) (L : List (Addr × (Cell → Prop))) :
    own_Con l Z (⟨"java/lang/StringUTF16", "putChar", "([BII)V"⟩ : MethodName) jdk_52_method_4_code 3 none rm_own_put30 #[(.ref qb_), (.int (0)), (.int d_)] ((qb_, own_ar Z .byte [(.int e0_), (.int e1_), (.int e2_), (.int e3_), (.int e4_), (.int e5_)]) :: L) (fun v M => v = none ∧ M = (qb_, own_ar Z .byte [(.int (nar .byte ((d_ >>> ((0) &&& 31 : Int32) : Int32).toInt8.toInt32))), (.int (nar .byte ((d_ >>> ((8) &&& 31 : Int32) : Int32).toInt8.toInt32))), (.int e2_), (.int e3_), (.int e4_), (.int e5_)]) :: L) := by
  refine own_con (ls := #[.val (.ref qb_), .val (.int (0)), .val (.int d_)]) (plainFor_of_name own_pn2) (fun m => own_ent m rfl) ?_
  intro p e s m below meth c T C X
  refine k_getstatic C X d_jdk_52_method_4_code_0 rfl (hw _ (List.mem_of_getElem? (i := 111) rfl)) hAD (fun T X => ?_)
  refine k_if_ne C X d_jdk_52_method_4_code_3 rfl (tpc := 28) rfl (fun _ => ?_) (fun hc => (absurd hc (by decide) : False).elim)
  refine k_iloadN C X d_jdk_52_method_4_code_28 rfl rfl ?_
  refine k_iconst C X d_jdk_52_method_4_code_29 rfl (v := 1) rfl ?_
  refine k_ishl C X d_jdk_52_method_4_code_30 rfl ?_
  refine k_istoreN C X d_jdk_52_method_4_code_31 rfl (l' := #[.val (.ref qb_), .val (.int (0)), .val (.int d_)]) rfl ?_
  refine k_aloadN C X d_jdk_52_method_4_code_32 rfl rfl rfl ?_
  refine k_iloadN C X d_jdk_52_method_4_code_33 rfl rfl ?_
  refine k_iinc C X d_jdk_52_method_4_code_34 rfl (v := 1) rfl rfl (l' := #[.val (.ref qb_), .val (.int (1)), .val (.int d_)]) rfl ?_
  refine k_iloadN C X d_jdk_52_method_4_code_37 rfl rfl ?_
  refine k_getstatic C X d_jdk_52_method_4_code_38 rfl (hw _ (List.mem_of_getElem? (i := 112) rfl)) hHI (fun T X => ?_)
  refine k_ishr C X d_jdk_52_method_4_code_41 rfl ?_
  refine k_i2b C X d_jdk_52_method_4_code_42 rfl ?_
  refine k_bastore C X d_jdk_52_method_4_code_43 rfl (ix := 0) (i := 0) rfl (by decide) (by decide) (Nat.le_of_ble_eq_true rfl) (vs' := [(.int (nar .byte ((d_ >>> ((0) &&& 31 : Int32) : Int32).toInt8.toInt32))), (.int e1_), (.int e2_), (.int e3_), (.int e4_), (.int e5_)]) rfl (L' := (qb_, own_ar Z .byte [(.int (nar .byte ((d_ >>> ((0) &&& 31 : Int32) : Int32).toInt8.toInt32))), (.int e1_), (.int e2_), (.int e3_), (.int e4_), (.int e5_)]) :: L) rfl (fun T X => ?_)
  refine k_aloadN C X d_jdk_52_method_4_code_44 rfl rfl rfl ?_
  refine k_iloadN C X d_jdk_52_method_4_code_45 rfl rfl ?_
  refine k_iloadN C X d_jdk_52_method_4_code_46 rfl rfl ?_
  refine k_getstatic C X d_jdk_52_method_4_code_47 rfl (hw _ (List.mem_of_getElem? (i := 113) rfl)) hLO (fun T X => ?_)
  refine k_ishr C X d_jdk_52_method_4_code_50 rfl ?_
  refine k_i2b C X d_jdk_52_method_4_code_51 rfl ?_
  refine k_bastore C X d_jdk_52_method_4_code_52 rfl (ix := 0) (i := 1) rfl (by decide) (by decide) (Nat.le_of_ble_eq_true rfl) (vs' := [(.int (nar .byte ((d_ >>> ((0) &&& 31 : Int32) : Int32).toInt8.toInt32))), (.int (nar .byte ((d_ >>> ((8) &&& 31 : Int32) : Int32).toInt8.toInt32))), (.int e2_), (.int e3_), (.int e4_), (.int e5_)]) rfl (L' := (qb_, own_ar Z .byte [(.int (nar .byte ((d_ >>> ((0) &&& 31 : Int32) : Int32).toInt8.toInt32))), (.int (nar .byte ((d_ >>> ((8) &&& 31 : Int32) : Int32).toInt8.toInt32))), (.int e2_), (.int e3_), (.int e4_), (.int e5_)]) :: L) rfl (fun T X => ?_)
  exact k_return C X d_jdk_52_method_4_code_53 ⟨rfl, rfl⟩ (by decide) (by decide)
def rm_own_put31 : Room := { frames := 0, cells := 0, slots := 0, locals := 0 }
set_option maxRecDepth 65536 in
set_option maxHeartbeats 40000000 in
theorem own_put31 (l : Launch) (Z : State) (a0 : Array Value) (hw : ∀ d ∈ tables_1, d.before a0 Z = true) (qb_ : Addr) (d_ : Int32) (e0_ : Int32) (e1_ : Int32) (e2_ : Int32) (e3_ : Int32) (e4_ : Int32) (e5_ : Int32) (cs : Int32) (fm : Value) (hS : Sta Z Z.heap "java/lang/String" "COMPACT_STRINGS" "Z" (.int cs)) (hcs : ¬ cs = 0) (hAD : Sta Z Z.heap "java/lang/StringUTF16" "$assertionsDisabled" "Z" (.int 1)) (hHI : Sta Z Z.heap "java/lang/StringUTF16" "HI_BYTE_SHIFT" "I" (.int 0)) (hLO : Sta Z Z.heap "java/lang/StringUTF16" "LO_BYTE_SHIFT" "I" (.int 8)) (hFM : Sta Z Z.heap "jdk/internal/util/Preconditions" "SIOOBE_FORMATTER" "Ljava/util/function/BiFunction;" fm) (hfc : fm.category = 1) (L : List (Addr × (Cell → Prop))) :
    own_Con l Z (⟨"java/lang/StringUTF16", "putChar", "([BII)V"⟩ : MethodName) jdk_52_method_4_code 3 none rm_own_put31 #[(.ref qb_), (.int (1)), (.int d_)] ((qb_, own_ar Z .byte [(.int e0_), (.int e1_), (.int e2_), (.int e3_), (.int e4_), (.int e5_)]) :: L) (fun v M => v = none ∧ M = (qb_, own_ar Z .byte [(.int e0_), (.int e1_), (.int (nar .byte ((d_ >>> ((0) &&& 31 : Int32) : Int32).toInt8.toInt32))), (.int (nar .byte ((d_ >>> ((8) &&& 31 : Int32) : Int32).toInt8.toInt32))), (.int e4_), (.int e5_)]) :: L) := by
  refine own_con (ls := #[.val (.ref qb_), .val (.int (1)), .val (.int d_)]) (plainFor_of_name own_pn2) (fun m => own_ent m rfl) ?_
  intro p e s m below meth c T C X
  refine k_getstatic C X d_jdk_52_method_4_code_0 rfl (hw _ (List.mem_of_getElem? (i := 111) rfl)) hAD (fun T X => ?_)
  refine k_if_ne C X d_jdk_52_method_4_code_3 rfl (tpc := 28) rfl (fun _ => ?_) (fun hc => (absurd hc (by decide) : False).elim)
  refine k_iloadN C X d_jdk_52_method_4_code_28 rfl rfl ?_
  refine k_iconst C X d_jdk_52_method_4_code_29 rfl (v := 1) rfl ?_
  refine k_ishl C X d_jdk_52_method_4_code_30 rfl ?_
  refine k_istoreN C X d_jdk_52_method_4_code_31 rfl (l' := #[.val (.ref qb_), .val (.int (2)), .val (.int d_)]) rfl ?_
  refine k_aloadN C X d_jdk_52_method_4_code_32 rfl rfl rfl ?_
  refine k_iloadN C X d_jdk_52_method_4_code_33 rfl rfl ?_
  refine k_iinc C X d_jdk_52_method_4_code_34 rfl (v := 1) rfl rfl (l' := #[.val (.ref qb_), .val (.int (3)), .val (.int d_)]) rfl ?_
  refine k_iloadN C X d_jdk_52_method_4_code_37 rfl rfl ?_
  refine k_getstatic C X d_jdk_52_method_4_code_38 rfl (hw _ (List.mem_of_getElem? (i := 112) rfl)) hHI (fun T X => ?_)
  refine k_ishr C X d_jdk_52_method_4_code_41 rfl ?_
  refine k_i2b C X d_jdk_52_method_4_code_42 rfl ?_
  refine k_bastore C X d_jdk_52_method_4_code_43 rfl (ix := 0) (i := 2) rfl (by decide) (by decide) (Nat.le_of_ble_eq_true rfl) (vs' := [(.int e0_), (.int e1_), (.int (nar .byte ((d_ >>> ((0) &&& 31 : Int32) : Int32).toInt8.toInt32))), (.int e3_), (.int e4_), (.int e5_)]) rfl (L' := (qb_, own_ar Z .byte [(.int e0_), (.int e1_), (.int (nar .byte ((d_ >>> ((0) &&& 31 : Int32) : Int32).toInt8.toInt32))), (.int e3_), (.int e4_), (.int e5_)]) :: L) rfl (fun T X => ?_)
  refine k_aloadN C X d_jdk_52_method_4_code_44 rfl rfl rfl ?_
  refine k_iloadN C X d_jdk_52_method_4_code_45 rfl rfl ?_
  refine k_iloadN C X d_jdk_52_method_4_code_46 rfl rfl ?_
  refine k_getstatic C X d_jdk_52_method_4_code_47 rfl (hw _ (List.mem_of_getElem? (i := 113) rfl)) hLO (fun T X => ?_)
  refine k_ishr C X d_jdk_52_method_4_code_50 rfl ?_
  refine k_i2b C X d_jdk_52_method_4_code_51 rfl ?_
  refine k_bastore C X d_jdk_52_method_4_code_52 rfl (ix := 0) (i := 3) rfl (by decide) (by decide) (Nat.le_of_ble_eq_true rfl) (vs' := [(.int e0_), (.int e1_), (.int (nar .byte ((d_ >>> ((0) &&& 31 : Int32) : Int32).toInt8.toInt32))), (.int (nar .byte ((d_ >>> ((8) &&& 31 : Int32) : Int32).toInt8.toInt32))), (.int e4_), (.int e5_)]) rfl (L' := (qb_, own_ar Z .byte [(.int e0_), (.int e1_), (.int (nar .byte ((d_ >>> ((0) &&& 31 : Int32) : Int32).toInt8.toInt32))), (.int (nar .byte ((d_ >>> ((8) &&& 31 : Int32) : Int32).toInt8.toInt32))), (.int e4_), (.int e5_)]) :: L) rfl (fun T X => ?_)
  exact k_return C X d_jdk_52_method_4_code_53 ⟨rfl, rfl⟩ (by decide) (by decide)
def rm_own_put32 : Room := { frames := 0, cells := 0, slots := 0, locals := 0 }
set_option maxRecDepth 65536 in
set_option maxHeartbeats 40000000 in
theorem own_put32 (l : Launch) (Z : State) (a0 : Array Value) (hw : ∀ d ∈ tables_1, d.before a0 Z = true) (qb_ : Addr) (d_ : Int32) (e0_ : Int32) (e1_ : Int32) (e2_ : Int32) (e3_ : Int32) (e4_ : Int32) (e5_ : Int32) (cs : Int32) (fm : Value) (hS : Sta Z Z.heap "java/lang/String" "COMPACT_STRINGS" "Z" (.int cs)) (hcs : ¬ cs = 0) (hAD : Sta Z Z.heap "java/lang/StringUTF16" "$assertionsDisabled" "Z" (.int 1)) (hHI : Sta Z Z.heap "java/lang/StringUTF16" "HI_BYTE_SHIFT" "I" (.int 0)) (hLO : Sta Z Z.heap "java/lang/StringUTF16" "LO_BYTE_SHIFT" "I" (.int 8)) (hFM : Sta Z Z.heap "jdk/internal/util/Preconditions" "SIOOBE_FORMATTER" "Ljava/util/function/BiFunction;" fm) (hfc : fm.category = 1) (L : List (Addr × (Cell → Prop))) :
    own_Con l Z (⟨"java/lang/StringUTF16", "putChar", "([BII)V"⟩ : MethodName) jdk_52_method_4_code 3 none rm_own_put32 #[(.ref qb_), (.int (2)), (.int d_)] ((qb_, own_ar Z .byte [(.int e0_), (.int e1_), (.int e2_), (.int e3_), (.int e4_), (.int e5_)]) :: L) (fun v M => v = none ∧ M = (qb_, own_ar Z .byte [(.int e0_), (.int e1_), (.int e2_), (.int e3_), (.int (nar .byte ((d_ >>> ((0) &&& 31 : Int32) : Int32).toInt8.toInt32))), (.int (nar .byte ((d_ >>> ((8) &&& 31 : Int32) : Int32).toInt8.toInt32)))]) :: L) := by
  refine own_con (ls := #[.val (.ref qb_), .val (.int (2)), .val (.int d_)]) (plainFor_of_name own_pn2) (fun m => own_ent m rfl) ?_
  intro p e s m below meth c T C X
  refine k_getstatic C X d_jdk_52_method_4_code_0 rfl (hw _ (List.mem_of_getElem? (i := 111) rfl)) hAD (fun T X => ?_)
  refine k_if_ne C X d_jdk_52_method_4_code_3 rfl (tpc := 28) rfl (fun _ => ?_) (fun hc => (absurd hc (by decide) : False).elim)
  refine k_iloadN C X d_jdk_52_method_4_code_28 rfl rfl ?_
  refine k_iconst C X d_jdk_52_method_4_code_29 rfl (v := 1) rfl ?_
  refine k_ishl C X d_jdk_52_method_4_code_30 rfl ?_
  refine k_istoreN C X d_jdk_52_method_4_code_31 rfl (l' := #[.val (.ref qb_), .val (.int (4)), .val (.int d_)]) rfl ?_
  refine k_aloadN C X d_jdk_52_method_4_code_32 rfl rfl rfl ?_
  refine k_iloadN C X d_jdk_52_method_4_code_33 rfl rfl ?_
  refine k_iinc C X d_jdk_52_method_4_code_34 rfl (v := 1) rfl rfl (l' := #[.val (.ref qb_), .val (.int (5)), .val (.int d_)]) rfl ?_
  refine k_iloadN C X d_jdk_52_method_4_code_37 rfl rfl ?_
  refine k_getstatic C X d_jdk_52_method_4_code_38 rfl (hw _ (List.mem_of_getElem? (i := 112) rfl)) hHI (fun T X => ?_)
  refine k_ishr C X d_jdk_52_method_4_code_41 rfl ?_
  refine k_i2b C X d_jdk_52_method_4_code_42 rfl ?_
  refine k_bastore C X d_jdk_52_method_4_code_43 rfl (ix := 0) (i := 4) rfl (by decide) (by decide) (Nat.le_of_ble_eq_true rfl) (vs' := [(.int e0_), (.int e1_), (.int e2_), (.int e3_), (.int (nar .byte ((d_ >>> ((0) &&& 31 : Int32) : Int32).toInt8.toInt32))), (.int e5_)]) rfl (L' := (qb_, own_ar Z .byte [(.int e0_), (.int e1_), (.int e2_), (.int e3_), (.int (nar .byte ((d_ >>> ((0) &&& 31 : Int32) : Int32).toInt8.toInt32))), (.int e5_)]) :: L) rfl (fun T X => ?_)
  refine k_aloadN C X d_jdk_52_method_4_code_44 rfl rfl rfl ?_
  refine k_iloadN C X d_jdk_52_method_4_code_45 rfl rfl ?_
  refine k_iloadN C X d_jdk_52_method_4_code_46 rfl rfl ?_
  refine k_getstatic C X d_jdk_52_method_4_code_47 rfl (hw _ (List.mem_of_getElem? (i := 113) rfl)) hLO (fun T X => ?_)
  refine k_ishr C X d_jdk_52_method_4_code_50 rfl ?_
  refine k_i2b C X d_jdk_52_method_4_code_51 rfl ?_
  refine k_bastore C X d_jdk_52_method_4_code_52 rfl (ix := 0) (i := 5) rfl (by decide) (by decide) (Nat.le_of_ble_eq_true rfl) (vs' := [(.int e0_), (.int e1_), (.int e2_), (.int e3_), (.int (nar .byte ((d_ >>> ((0) &&& 31 : Int32) : Int32).toInt8.toInt32))), (.int (nar .byte ((d_ >>> ((8) &&& 31 : Int32) : Int32).toInt8.toInt32)))]) rfl (L' := (qb_, own_ar Z .byte [(.int e0_), (.int e1_), (.int e2_), (.int e3_), (.int (nar .byte ((d_ >>> ((0) &&& 31 : Int32) : Int32).toInt8.toInt32))), (.int (nar .byte ((d_ >>> ((8) &&& 31 : Int32) : Int32).toInt8.toInt32)))]) :: L) rfl (fun T X => ?_)
  exact k_return C X d_jdk_52_method_4_code_53 ⟨rfl, rfl⟩ (by decide) (by decide)
def rm_own_nbl3 : Room := { frames := 0, cells := 0, slots := 0, locals := 0 }
set_option maxRecDepth 65536 in
set_option maxHeartbeats 40000000 in
theorem own_nbl3 (l : Launch) (Z : State) (a0 : Array Value) (hw : ∀ d ∈ tables_1, d.before a0 Z = true)  (cs : Int32) (fm : Value) (hS : Sta Z Z.heap "java/lang/String" "COMPACT_STRINGS" "Z" (.int cs)) (hcs : ¬ cs = 0) (hAD : Sta Z Z.heap "java/lang/StringUTF16" "$assertionsDisabled" "Z" (.int 1)) (hHI : Sta Z Z.heap "java/lang/StringUTF16" "HI_BYTE_SHIFT" "I" (.int 0)) (hLO : Sta Z Z.heap "java/lang/StringUTF16" "LO_BYTE_SHIFT" "I" (.int 8)) (hFM : Sta Z Z.heap "jdk/internal/util/Preconditions" "SIOOBE_FORMATTER" "Ljava/util/function/BiFunction;" fm) (hfc : fm.category = 1) (L : List (Addr × (Cell → Prop))) :
    own_Con l Z (⟨"java/lang/StringUTF16", "newBytesLength", "(I)I"⟩ : MethodName) jdk_52_method_3_code 1 (some .int) rm_own_nbl3 #[(.int (3))] (L) (fun v M => v = some (.int (6)) ∧ M = L) := by
  refine own_con (ls := #[.val (.int (3))]) (plainFor_of_name own_pn2) (fun m => own_ent m rfl) ?_
  intro p e s m below meth c T C X
  refine k_iloadN C X d_jdk_52_method_3_code_0 rfl rfl ?_
  refine k_if_ge C X d_jdk_52_method_3_code_1 rfl (tpc := 12) rfl (fun _ => ?_) (fun hc => (absurd hc (by decide) : False).elim)
  refine k_iloadN C X d_jdk_52_method_3_code_12 rfl rfl ?_
  refine k_ldc C X d_jdk_52_method_3_code_13 rfl (hw _ (List.mem_of_getElem? (i := 107) rfl)) ?_
  refine k_icmp_lt C X d_jdk_52_method_3_code_15 rfl (tpc := 55) rfl (fun _ => ?_) (fun hc => (hc (by decide) : False).elim)
  refine k_iloadN C X d_jdk_52_method_3_code_55 rfl rfl ?_
  refine k_iconst C X d_jdk_52_method_3_code_56 rfl (v := 1) rfl ?_
  refine k_ishl C X d_jdk_52_method_3_code_57 rfl ?_
  exact k_ireturn C X d_jdk_52_method_3_code_58 (by simp) rfl ⟨rfl, rfl⟩ (by decide) (by decide)
def rm_own_nbf3 : Room := { frames := 1, cells := 1, slots := 6, locals := 12 }
set_option maxRecDepth 65536 in
set_option maxHeartbeats 40000000 in
theorem own_nbf3 (l : Launch) (Z : State) (a0 : Array Value) (hw : ∀ d ∈ tables_1, d.before a0 Z = true)  (cs : Int32) (fm : Value) (hS : Sta Z Z.heap "java/lang/String" "COMPACT_STRINGS" "Z" (.int cs)) (hcs : ¬ cs = 0) (hAD : Sta Z Z.heap "java/lang/StringUTF16" "$assertionsDisabled" "Z" (.int 1)) (hHI : Sta Z Z.heap "java/lang/StringUTF16" "HI_BYTE_SHIFT" "I" (.int 0)) (hLO : Sta Z Z.heap "java/lang/StringUTF16" "LO_BYTE_SHIFT" "I" (.int 8)) (hFM : Sta Z Z.heap "jdk/internal/util/Preconditions" "SIOOBE_FORMATTER" "Ljava/util/function/BiFunction;" fm) (hfc : fm.category = 1) (L : List (Addr × (Cell → Prop))) :
    own_Con l Z (⟨"java/lang/StringUTF16", "newBytesFor", "(I)[B"⟩ : MethodName) jdk_52_method_2_code 1 (some (.array .byte)) rm_own_nbf3 #[(.int (3))] (L) (fun v M => ∃ o4, v = some (.ref o4) ∧ M = (o4, own_ar Z .byte [(.int 0), (.int 0), (.int 0), (.int 0), (.int 0), (.int 0)]) :: L) := by
  refine own_con (ls := #[.val (.int (3))]) (plainFor_of_name own_pn2) (fun m => own_ent m rfl) ?_
  intro p e s m below meth c T C X
  refine k_iloadN C X d_jdk_52_method_2_code_0 rfl rfl ?_
  refine k_static C X d_jdk_52_method_2_code_1 rfl (hw _ (List.mem_of_getElem? (i := 104) rfl)) (hw _ (List.mem_of_getElem? (i := 105) rfl)) (hw _ (List.mem_of_getElem? (i := 68) rfl)) (hw _ (List.mem_of_getElem? (i := 106) rfl)) (by decide) (own_nbl3 l Z a0 hw cs fm hS hcs hAD hHI hLO hFM hfc (L)) (W := 0) (argsL := [(.int (3))]) (rest := []) rfl rfl rfl own_pd21 rfl (Nat.le_of_eq rfl) (by decide) (by decide) (by decide) (by decide) (fun v T M hQ X => ?_)
  obtain ⟨rfl, hM_⟩ := hQ
  replace hM_ := hM_.symm
  subst hM_
  refine k_newarray C X d_jdk_52_method_2_code_4 rfl (ty := .byte) rfl (hw _ (List.mem_of_getElem? (i := 16) rfl)) (by decide) (cap := 6) (by decide) (by decide) (by decide) (by decide) (vs := [(.int 0), (.int 0), (.int 0), (.int 0), (.int 0), (.int 0)]) rfl (fun T o4 X => ?_)
  exact k_areturn C X d_jdk_52_method_2_code_6 rfl rfl rfl ⟨o4, rfl, rfl⟩ (by decide) (by decide)
def rm_own_tob3 : Room := { frames := 2, cells := 1, slots := 6, locals := 24 }
set_option maxRecDepth 65536 in
set_option maxHeartbeats 40000000 in
theorem own_tob3 (l : Launch) (Z : State) (a0 : Array Value) (hw : ∀ d ∈ tables_1, d.before a0 Z = true) (qc_ : Addr) (d0_ : Int32) (d1_ : Int32) (d2_ : Int32) (cs : Int32) (fm : Value) (hS : Sta Z Z.heap "java/lang/String" "COMPACT_STRINGS" "Z" (.int cs)) (hcs : ¬ cs = 0) (hAD : Sta Z Z.heap "java/lang/StringUTF16" "$assertionsDisabled" "Z" (.int 1)) (hHI : Sta Z Z.heap "java/lang/StringUTF16" "HI_BYTE_SHIFT" "I" (.int 0)) (hLO : Sta Z Z.heap "java/lang/StringUTF16" "LO_BYTE_SHIFT" "I" (.int 8)) (hFM : Sta Z Z.heap "jdk/internal/util/Preconditions" "SIOOBE_FORMATTER" "Ljava/util/function/BiFunction;" fm) (hfc : fm.category = 1) (L : List (Addr × (Cell → Prop))) :
    own_Con l Z (⟨"java/lang/StringUTF16", "toBytes", "([CII)[B"⟩ : MethodName) jdk_52_method_14_code 5 (some (.array .byte)) rm_own_tob3 #[(.ref qc_), (.int (0)), (.int (3))] ((qc_, own_ar Z .char [(.int d0_), (.int d1_), (.int d2_)]) :: L) (fun v M => ∃ f1, v = some (.ref f1) ∧ M = (f1, own_ar Z .byte [(.int (nar .byte ((d0_ >>> ((0) &&& 31 : Int32) : Int32).toInt8.toInt32))), (.int (nar .byte ((d0_ >>> ((8) &&& 31 : Int32) : Int32).toInt8.toInt32))), (.int (nar .byte ((d1_ >>> ((0) &&& 31 : Int32) : Int32).toInt8.toInt32))), (.int (nar .byte ((d1_ >>> ((8) &&& 31 : Int32) : Int32).toInt8.toInt32))), (.int (nar .byte ((d2_ >>> ((0) &&& 31 : Int32) : Int32).toInt8.toInt32))), (.int (nar .byte ((d2_ >>> ((8) &&& 31 : Int32) : Int32).toInt8.toInt32)))]) :: (qc_, own_ar Z .char [(.int d0_), (.int d1_), (.int d2_)]) :: L) := by
  refine own_con (ls := #[.val (.ref qc_), .val (.int (0)), .val (.int (3)), .unset, .unset]) (plainFor_of_name own_pn2) (fun m => own_ent m rfl) ?_
  intro p e s m below meth c T C X
  refine k_iloadN C X d_jdk_52_method_14_code_0 rfl rfl ?_
  refine k_static C X d_jdk_52_method_14_code_1 rfl (hw _ (List.mem_of_getElem? (i := 101) rfl)) (hw _ (List.mem_of_getElem? (i := 102) rfl)) (hw _ (List.mem_of_getElem? (i := 68) rfl)) (hw _ (List.mem_of_getElem? (i := 103) rfl)) (by decide) (own_nbf3 l Z a0 hw cs fm hS hcs hAD hHI hLO hFM hfc ((qc_, own_ar Z .char [(.int d0_), (.int d1_), (.int d2_)]) :: L)) (W := 0) (argsL := [(.int (3))]) (rest := []) rfl rfl rfl own_pd22 rfl (Nat.le_of_eq rfl) (by decide) (by decide) (by decide) (by decide) (fun v T M hQ X => ?_)
  obtain ⟨f1, rfl, rfl⟩ := hQ
  refine k_astoreN C X d_jdk_52_method_14_code_4 rfl rfl (l' := #[.val (.ref qc_), .val (.int (0)), .val (.int (3)), .val (.ref f1), .unset]) rfl ?_
  refine k_iconst C X d_jdk_52_method_14_code_5 rfl (v := 0) rfl ?_
  refine k_istore C X d_jdk_52_method_14_code_6 rfl (l' := #[.val (.ref qc_), .val (.int (0)), .val (.int (3)), .val (.ref f1), .val (.int (0))]) rfl ?_
  refine k_iload C X d_jdk_52_method_14_code_8 rfl rfl ?_
  refine k_iloadN C X d_jdk_52_method_14_code_10 rfl rfl ?_
  refine k_icmp_ge C X d_jdk_52_method_14_code_11 rfl (tpc := 32) rfl (fun hc => (absurd hc (by decide) : False).elim) (fun _ => ?_)
  refine k_aloadN C X d_jdk_52_method_14_code_14 rfl rfl rfl ?_
  refine k_iload C X d_jdk_52_method_14_code_15 rfl rfl ?_
  refine k_aloadN C X d_jdk_52_method_14_code_17 rfl rfl rfl ?_
  refine k_iloadN C X d_jdk_52_method_14_code_18 rfl rfl ?_
  refine k_caload C X d_jdk_52_method_14_code_19 rfl (ix := 1) (i := 0) rfl (by decide) (by decide) rfl ?_
  refine k_static C X d_jdk_52_method_14_code_20 rfl (hw _ (List.mem_of_getElem? (i := 108) rfl)) (hw _ (List.mem_of_getElem? (i := 109) rfl)) (hw _ (List.mem_of_getElem? (i := 68) rfl)) (hw _ (List.mem_of_getElem? (i := 110) rfl)) (by decide) (own_put30 l Z a0 hw f1 d0_ 0 0 0 0 0 0 cs fm hS hcs hAD hHI hLO hFM hfc ((qc_, own_ar Z .char [(.int d0_), (.int d1_), (.int d2_)]) :: L)) (W := 0) (argsL := [(.ref f1), (.int (0)), (.int d0_)]) (rest := []) rfl rfl rfl own_pd1 rfl (Nat.le_of_eq rfl) (by decide) (by decide) (by decide) (by decide) (fun v T M hQ X => ?_)
  obtain ⟨rfl, rfl⟩ := hQ
  refine k_iinc C X d_jdk_52_method_14_code_23 rfl (v := 1) rfl rfl (l' := #[.val (.ref qc_), .val (.int (1)), .val (.int (3)), .val (.ref f1), .val (.int (0))]) rfl ?_
  refine k_iinc C X d_jdk_52_method_14_code_26 rfl (v := 1) rfl rfl (l' := #[.val (.ref qc_), .val (.int (1)), .val (.int (3)), .val (.ref f1), .val (.int (1))]) rfl ?_
  refine k_goto C X d_jdk_52_method_14_code_29 (tpc := 8) rfl ?_
  refine k_iload C X d_jdk_52_method_14_code_8 rfl rfl ?_
  refine k_iloadN C X d_jdk_52_method_14_code_10 rfl rfl ?_
  refine k_icmp_ge C X d_jdk_52_method_14_code_11 rfl (tpc := 32) rfl (fun hc => (absurd hc (by decide) : False).elim) (fun _ => ?_)
  refine k_aloadN C X d_jdk_52_method_14_code_14 rfl rfl rfl ?_
  refine k_iload C X d_jdk_52_method_14_code_15 rfl rfl ?_
  refine k_aloadN C X d_jdk_52_method_14_code_17 rfl rfl rfl ?_
  refine k_iloadN C X d_jdk_52_method_14_code_18 rfl rfl ?_
  refine k_caload C X d_jdk_52_method_14_code_19 rfl (ix := 1) (i := 1) rfl (by decide) (by decide) rfl ?_
  refine k_static C X d_jdk_52_method_14_code_20 rfl (hw _ (List.mem_of_getElem? (i := 108) rfl)) (hw _ (List.mem_of_getElem? (i := 109) rfl)) (hw _ (List.mem_of_getElem? (i := 68) rfl)) (hw _ (List.mem_of_getElem? (i := 110) rfl)) (by decide) (own_put31 l Z a0 hw f1 d1_ (nar .byte ((d0_ >>> ((0) &&& 31 : Int32) : Int32).toInt8.toInt32)) (nar .byte ((d0_ >>> ((8) &&& 31 : Int32) : Int32).toInt8.toInt32)) 0 0 0 0 cs fm hS hcs hAD hHI hLO hFM hfc ((qc_, own_ar Z .char [(.int d0_), (.int d1_), (.int d2_)]) :: L)) (W := 0) (argsL := [(.ref f1), (.int (1)), (.int d1_)]) (rest := []) rfl rfl rfl own_pd1 rfl (Nat.le_of_eq rfl) (by decide) (by decide) (by decide) (by decide) (fun v T M hQ X => ?_)
  obtain ⟨rfl, rfl⟩ := hQ
  refine k_iinc C X d_jdk_52_method_14_code_23 rfl (v := 1) rfl rfl (l' := #[.val (.ref qc_), .val (.int (2)), .val (.int (3)), .val (.ref f1), .val (.int (1))]) rfl ?_
  refine k_iinc C X d_jdk_52_method_14_code_26 rfl (v := 1) rfl rfl (l' := #[.val (.ref qc_), .val (.int (2)), .val (.int (3)), .val (.ref f1), .val (.int (2))]) rfl ?_
  refine k_goto C X d_jdk_52_method_14_code_29 (tpc := 8) rfl ?_
  refine k_iload C X d_jdk_52_method_14_code_8 rfl rfl ?_
  refine k_iloadN C X d_jdk_52_method_14_code_10 rfl rfl ?_
  refine k_icmp_ge C X d_jdk_52_method_14_code_11 rfl (tpc := 32) rfl (fun hc => (absurd hc (by decide) : False).elim) (fun _ => ?_)
  refine k_aloadN C X d_jdk_52_method_14_code_14 rfl rfl rfl ?_
  refine k_iload C X d_jdk_52_method_14_code_15 rfl rfl ?_
  refine k_aloadN C X d_jdk_52_method_14_code_17 rfl rfl rfl ?_
  refine k_iloadN C X d_jdk_52_method_14_code_18 rfl rfl ?_
  refine k_caload C X d_jdk_52_method_14_code_19 rfl (ix := 1) (i := 2) rfl (by decide) (by decide) rfl ?_
  refine k_static C X d_jdk_52_method_14_code_20 rfl (hw _ (List.mem_of_getElem? (i := 108) rfl)) (hw _ (List.mem_of_getElem? (i := 109) rfl)) (hw _ (List.mem_of_getElem? (i := 68) rfl)) (hw _ (List.mem_of_getElem? (i := 110) rfl)) (by decide) (own_put32 l Z a0 hw f1 d2_ (nar .byte ((d0_ >>> ((0) &&& 31 : Int32) : Int32).toInt8.toInt32)) (nar .byte ((d0_ >>> ((8) &&& 31 : Int32) : Int32).toInt8.toInt32)) (nar .byte ((d1_ >>> ((0) &&& 31 : Int32) : Int32).toInt8.toInt32)) (nar .byte ((d1_ >>> ((8) &&& 31 : Int32) : Int32).toInt8.toInt32)) 0 0 cs fm hS hcs hAD hHI hLO hFM hfc ((qc_, own_ar Z .char [(.int d0_), (.int d1_), (.int d2_)]) :: L)) (W := 0) (argsL := [(.ref f1), (.int (2)), (.int d2_)]) (rest := []) rfl rfl rfl own_pd1 rfl (Nat.le_of_eq rfl) (by decide) (by decide) (by decide) (by decide) (fun v T M hQ X => ?_)
  obtain ⟨rfl, rfl⟩ := hQ
  refine k_iinc C X d_jdk_52_method_14_code_23 rfl (v := 1) rfl rfl (l' := #[.val (.ref qc_), .val (.int (3)), .val (.int (3)), .val (.ref f1), .val (.int (2))]) rfl ?_
  refine k_iinc C X d_jdk_52_method_14_code_26 rfl (v := 1) rfl rfl (l' := #[.val (.ref qc_), .val (.int (3)), .val (.int (3)), .val (.ref f1), .val (.int (3))]) rfl ?_
  refine k_goto C X d_jdk_52_method_14_code_29 (tpc := 8) rfl ?_
  refine k_iload C X d_jdk_52_method_14_code_8 rfl rfl ?_
  refine k_iloadN C X d_jdk_52_method_14_code_10 rfl rfl ?_
  refine k_icmp_ge C X d_jdk_52_method_14_code_11 rfl (tpc := 32) rfl (fun _ => ?_) (fun hc => (absurd hc (by decide) : False).elim)
  refine k_aloadN C X d_jdk_52_method_14_code_32 rfl rfl rfl ?_
  exact k_areturn C X d_jdk_52_method_14_code_33 rfl rfl rfl ⟨f1, rfl, rfl⟩ (by decide) (by decide)
def rm_own_get30 : Room := { frames := 0, cells := 0, slots := 0, locals := 0 }
set_option maxRecDepth 65536 in
set_option maxHeartbeats 40000000 in
theorem own_get30 (l : Launch) (Z : State) (a0 : Array Value) (hw : ∀ d ∈ tables_1, d.before a0 Z = true) (qb_ : Addr) (e0_ : Int32) (e1_ : Int32) (e2_ : Int32) (e3_ : Int32) (e4_ : Int32) (e5_ : Int32) (cs : Int32) (fm : Value) (hS : Sta Z Z.heap "java/lang/String" "COMPACT_STRINGS" "Z" (.int cs)) (hcs : ¬ cs = 0) (hAD : Sta Z Z.heap "java/lang/StringUTF16" "$assertionsDisabled" "Z" (.int 1)) (hHI : Sta Z Z.heap "java/lang/StringUTF16" "HI_BYTE_SHIFT" "I" (.int 0)) (hLO : Sta Z Z.heap "java/lang/StringUTF16" "LO_BYTE_SHIFT" "I" (.int 8)) (hFM : Sta Z Z.heap "jdk/internal/util/Preconditions" "SIOOBE_FORMATTER" "Ljava/util/function/BiFunction;" fm) (hfc : fm.category = 1) (L : List (Addr × (Cell → Prop))) :
    own_Con l Z (⟨"java/lang/StringUTF16", "getChar", "([BI)C"⟩ : MethodName) jdk_52_method_5_code 2 (some .char) rm_own_get30 #[(.ref qb_), (.int (0))] ((qb_, own_ar Z .byte [(.int e0_), (.int e1_), (.int e2_), (.int e3_), (.int e4_), (.int e5_)]) :: L) (fun v M => v = some (.int ((((e0_ &&& (255)) <<< ((0) &&& 31 : Int32) : Int32) ||| ((e1_ &&& (255)) <<< ((8) &&& 31 : Int32) : Int32)).toUInt32.toUInt16.toUInt32.toInt32)) ∧ M = (qb_, own_ar Z .byte [(.int e0_), (.int e1_), (.int e2_), (.int e3_), (.int e4_), (.int e5_)]) :: L) := by
  refine own_con (ls := #[.val (.ref qb_), .val (.int (0))]) (plainFor_of_name own_pn2) (fun m => own_ent m rfl) ?_
  intro p e s m below meth c T C X
  refine k_getstatic C X d_jdk_52_method_5_code_0 rfl (hw _ (List.mem_of_getElem? (i := 111) rfl)) hAD (fun T X => ?_)
  refine k_if_ne C X d_jdk_52_method_5_code_3 rfl (tpc := 28) rfl (fun _ => ?_) (fun hc => (absurd hc (by decide) : False).elim)
  refine k_iloadN C X d_jdk_52_method_5_code_28 rfl rfl ?_
  refine k_iconst C X d_jdk_52_method_5_code_29 rfl (v := 1) rfl ?_
  refine k_ishl C X d_jdk_52_method_5_code_30 rfl ?_
  refine k_istoreN C X d_jdk_52_method_5_code_31 rfl (l' := #[.val (.ref qb_), .val (.int (0))]) rfl ?_
  refine k_aloadN C X d_jdk_52_method_5_code_32 rfl rfl rfl ?_
  refine k_iloadN C X d_jdk_52_method_5_code_33 rfl rfl ?_
  refine k_iinc C X d_jdk_52_method_5_code_34 rfl (v := 1) rfl rfl (l' := #[.val (.ref qb_), .val (.int (1))]) rfl ?_
  refine k_baload C X d_jdk_52_method_5_code_37 rfl (ix := 0) (i := 0) rfl (by decide) (by decide) rfl ?_
  refine k_sipush C X d_jdk_52_method_5_code_38 rfl (v := 255) rfl ?_
  refine k_iand C X d_jdk_52_method_5_code_41 rfl ?_
  refine k_getstatic C X d_jdk_52_method_5_code_42 rfl (hw _ (List.mem_of_getElem? (i := 112) rfl)) hHI (fun T X => ?_)
  refine k_ishl C X d_jdk_52_method_5_code_45 rfl ?_
  refine k_aloadN C X d_jdk_52_method_5_code_46 rfl rfl rfl ?_
  refine k_iloadN C X d_jdk_52_method_5_code_47 rfl rfl ?_
  refine k_baload C X d_jdk_52_method_5_code_48 rfl (ix := 0) (i := 1) rfl (by decide) (by decide) rfl ?_
  refine k_sipush C X d_jdk_52_method_5_code_49 rfl (v := 255) rfl ?_
  refine k_iand C X d_jdk_52_method_5_code_52 rfl ?_
  refine k_getstatic C X d_jdk_52_method_5_code_53 rfl (hw _ (List.mem_of_getElem? (i := 113) rfl)) hLO (fun T X => ?_)
  refine k_ishl C X d_jdk_52_method_5_code_56 rfl ?_
  refine k_ior C X d_jdk_52_method_5_code_57 rfl ?_
  refine k_i2c C X d_jdk_52_method_5_code_58 rfl ?_
  exact k_ireturn C X d_jdk_52_method_5_code_59 (by simp) (own_nch _) ⟨rfl, rfl⟩ (by decide) (by decide)
def rm_own_cmp1_30 : Room := { frames := 3, cells := 2, slots := 9, locals := 40 }
set_option maxRecDepth 65536 in
set_option maxHeartbeats 40000000 in
theorem own_cmp1_30 (l : Launch) (Z : State) (a0 : Array Value) (hw : ∀ d ∈ tables_1, d.before a0 Z = true) (qc_ : Addr) (d0_ : Int32) (d1_ : Int32) (d2_ : Int32) (cs : Int32) (fm : Value) (hS : Sta Z Z.heap "java/lang/String" "COMPACT_STRINGS" "Z" (.int cs)) (hcs : ¬ cs = 0) (hAD : Sta Z Z.heap "java/lang/StringUTF16" "$assertionsDisabled" "Z" (.int 1)) (hHI : Sta Z Z.heap "java/lang/StringUTF16" "HI_BYTE_SHIFT" "I" (.int 0)) (hLO : Sta Z Z.heap "java/lang/StringUTF16" "LO_BYTE_SHIFT" "I" (.int 8)) (hFM : Sta Z Z.heap "jdk/internal/util/Preconditions" "SIOOBE_FORMATTER" "Ljava/util/function/BiFunction;" fm) (hfc : fm.category = 1) (c0 : own_ch d0_) (c1 : own_ch d1_) (c2 : own_ch d2_) (g0 : (255) < d0_) (L : List (Addr × (Cell → Prop))) :
    own_Con l Z (⟨"java/lang/StringUTF16", "compress", "([CII)[B"⟩ : MethodName) jdk_52_method_16_code 6 (some (.array .byte)) rm_own_cmp1_30 #[(.ref qc_), (.int (0)), (.int (3))] ((qc_, own_ar Z .char [(.int d0_), (.int d1_), (.int d2_)]) :: L) (fun v M => ∃ f1 o1, v = some (.ref f1) ∧ M = (f1, own_ar Z .byte [(.int (nar .byte ((d0_ >>> ((0) &&& 31 : Int32) : Int32).toInt8.toInt32))), (.int (nar .byte ((d0_ >>> ((8) &&& 31 : Int32) : Int32).toInt8.toInt32))), (.int (nar .byte ((d1_ >>> ((0) &&& 31 : Int32) : Int32).toInt8.toInt32))), (.int (nar .byte ((d1_ >>> ((8) &&& 31 : Int32) : Int32).toInt8.toInt32))), (.int (nar .byte ((d2_ >>> ((0) &&& 31 : Int32) : Int32).toInt8.toInt32))), (.int (nar .byte ((d2_ >>> ((8) &&& 31 : Int32) : Int32).toInt8.toInt32)))]) :: (qc_, own_ar Z .char [(.int d0_), (.int d1_), (.int d2_)]) :: (o1, own_ar Z .byte [(.int 0), (.int 0), (.int 0)]) :: L) := by
  refine own_con (ls := #[.val (.ref qc_), .val (.int (0)), .val (.int (3)), .unset, .unset, .unset]) (plainFor_of_name own_pn2) (fun m => own_ent m rfl) ?_
  intro p e s m below meth c T C X
  refine k_iloadN C X d_jdk_52_method_16_code_0 rfl rfl ?_
  refine k_newarray C X d_jdk_52_method_16_code_1 rfl (ty := .byte) rfl (hw _ (List.mem_of_getElem? (i := 16) rfl)) (by decide) (cap := 3) (by decide) (by decide) (by decide) (by decide) (vs := [(.int 0), (.int 0), (.int 0)]) rfl (fun T o1 X => ?_)
  refine k_astoreN C X d_jdk_52_method_16_code_3 rfl rfl (l' := #[.val (.ref qc_), .val (.int (0)), .val (.int (3)), .val (.ref o1), .unset, .unset]) rfl ?_
  refine k_aloadN C X d_jdk_52_method_16_code_4 rfl rfl rfl ?_
  refine k_iloadN C X d_jdk_52_method_16_code_5 rfl rfl ?_
  refine k_aloadN C X d_jdk_52_method_16_code_6 rfl rfl rfl ?_
  refine k_iconst C X d_jdk_52_method_16_code_7 rfl (v := 0) rfl ?_
  refine k_iloadN C X d_jdk_52_method_16_code_8 rfl rfl ?_
  replace X := X.bring (i := 1) rfl (M := (qc_, own_ar Z .char [(.int d0_), (.int d1_), (.int d2_)]) :: (o1, own_ar Z .byte [(.int 0), (.int 0), (.int 0)]) :: L) rfl
  refine k_static C X d_jdk_52_method_16_code_9 rfl (hw _ (List.mem_of_getElem? (i := 70) rfl)) (hw _ (List.mem_of_getElem? (i := 71) rfl)) (hw _ (List.mem_of_getElem? (i := 68) rfl)) (hw _ (List.mem_of_getElem? (i := 72) rfl)) (by decide) (own_cmp2_30 l Z a0 hw qc_ o1 d0_ d1_ d2_ cs fm hS hcs hAD hHI hLO hFM hfc c0 c1 c2 g0 (L)) (W := 0) (argsL := [(.ref qc_), (.int (0)), (.ref o1), (.int (0)), (.int (3))]) (rest := []) rfl rfl rfl own_pd23 rfl (Nat.le_of_eq rfl) (by decide) (by decide) (by decide) (by decide) (fun v T M hQ X => ?_)
  obtain ⟨rfl, rfl⟩ := hQ
  refine k_istore C X d_jdk_52_method_16_code_12 rfl (l' := #[.val (.ref qc_), .val (.int (0)), .val (.int (3)), .val (.ref o1), .val (.int (0)), .unset]) rfl ?_
  refine k_iload C X d_jdk_52_method_16_code_14 rfl rfl ?_
  refine k_iloadN C X d_jdk_52_method_16_code_16 rfl rfl ?_
  refine k_icmp_eq C X d_jdk_52_method_16_code_17 rfl (tpc := 57) rfl (fun hc => (absurd hc (by decide) : False).elim) (fun _ => ?_)
  refine k_aloadN C X d_jdk_52_method_16_code_20 rfl rfl rfl ?_
  refine k_iloadN C X d_jdk_52_method_16_code_21 rfl rfl ?_
  refine k_iloadN C X d_jdk_52_method_16_code_22 rfl rfl ?_
  refine k_static C X d_jdk_52_method_16_code_23 rfl (hw _ (List.mem_of_getElem? (i := 98) rfl)) (hw _ (List.mem_of_getElem? (i := 99) rfl)) (hw _ (List.mem_of_getElem? (i := 68) rfl)) (hw _ (List.mem_of_getElem? (i := 100) rfl)) (by decide) (own_tob3 l Z a0 hw qc_ d0_ d1_ d2_ cs fm hS hcs hAD hHI hLO hFM hfc ((o1, own_ar Z .byte [(.int 0), (.int 0), (.int 0)]) :: L)) (W := 0) (argsL := [(.ref qc_), (.int (0)), (.int (3))]) (rest := []) rfl rfl rfl own_pd24 rfl (Nat.le_of_eq rfl) (by decide) (by decide) (by decide) (by decide) (fun v T M hQ X => ?_)
  obtain ⟨f1, rfl, rfl⟩ := hQ
  refine k_astore C X d_jdk_52_method_16_code_26 rfl rfl (l' := #[.val (.ref qc_), .val (.int (0)), .val (.int (3)), .val (.ref o1), .val (.int (0)), .val (.ref f1)]) rfl ?_
  refine k_aload C X d_jdk_52_method_16_code_28 rfl rfl rfl ?_
  refine k_iload C X d_jdk_52_method_16_code_30 rfl rfl ?_
  refine k_static C X d_jdk_52_method_16_code_32 rfl (hw _ (List.mem_of_getElem? (i := 114) rfl)) (hw _ (List.mem_of_getElem? (i := 115) rfl)) (hw _ (List.mem_of_getElem? (i := 68) rfl)) (hw _ (List.mem_of_getElem? (i := 116) rfl)) (by decide) (own_get30 l Z a0 hw f1 (nar .byte ((d0_ >>> ((0) &&& 31 : Int32) : Int32).toInt8.toInt32)) (nar .byte ((d0_ >>> ((8) &&& 31 : Int32) : Int32).toInt8.toInt32)) (nar .byte ((d1_ >>> ((0) &&& 31 : Int32) : Int32).toInt8.toInt32)) (nar .byte ((d1_ >>> ((8) &&& 31 : Int32) : Int32).toInt8.toInt32)) (nar .byte ((d2_ >>> ((0) &&& 31 : Int32) : Int32).toInt8.toInt32)) (nar .byte ((d2_ >>> ((8) &&& 31 : Int32) : Int32).toInt8.toInt32)) cs fm hS hcs hAD hHI hLO hFM hfc ((qc_, own_ar Z .char [(.int d0_), (.int d1_), (.int d2_)]) :: (o1, own_ar Z .byte [(.int 0), (.int 0), (.int 0)]) :: L)) (W := 0) (argsL := [(.ref f1), (.int (0))]) (rest := []) rfl rfl rfl own_pd18 rfl (Nat.le_of_eq rfl) (by decide) (by decide) (by decide) (by decide) (fun v T M hQ X => ?_)
  obtain ⟨rfl, rfl⟩ := hQ
  refine k_sipush C X d_jdk_52_method_16_code_35 rfl (v := 255) rfl ?_
  refine k_icmp_gt C X d_jdk_52_method_16_code_38 rfl (tpc := 54) rfl (fun _ => ?_) (fun hc => (hc (own_gt c0 g0) : False).elim)
  refine k_aload C X d_jdk_52_method_16_code_54 rfl rfl rfl ?_
  exact k_areturn C X d_jdk_52_method_16_code_56 rfl rfl rfl ⟨f1, o1, rfl, rfl⟩ (by decide) (by decide)
def rm_own_cl36 : Room := { frames := 0, cells := 0, slots := 0, locals := 0 }
set_option maxRecDepth 65536 in
set_option maxHeartbeats 40000000 in
theorem own_cl36 (l : Launch) (Z : State) (a0 : Array Value) (hw : ∀ d ∈ tables_1, d.before a0 Z = true) (qb_ : Addr) (e0_ : Int32) (e1_ : Int32) (e2_ : Int32) (e3_ : Int32) (e4_ : Int32) (e5_ : Int32) (cs : Int32) (fm : Value) (hS : Sta Z Z.heap "java/lang/String" "COMPACT_STRINGS" "Z" (.int cs)) (hcs : ¬ cs = 0) (hAD : Sta Z Z.heap "java/lang/StringUTF16" "$assertionsDisabled" "Z" (.int 1)) (hHI : Sta Z Z.heap "java/lang/StringUTF16" "HI_BYTE_SHIFT" "I" (.int 0)) (hLO : Sta Z Z.heap "java/lang/StringUTF16" "LO_BYTE_SHIFT" "I" (.int 8)) (hFM : Sta Z Z.heap "jdk/internal/util/Preconditions" "SIOOBE_FORMATTER" "Ljava/util/function/BiFunction;" fm) (hfc : fm.category = 1) (L : List (Addr × (Cell → Prop))) :
    own_Con l Z (⟨"java/lang/StringUTF16", "coderFromArrayLen", "([BI)B"⟩ : MethodName) jdk_52_method_15_code 2 (some .byte) rm_own_cl36 #[(.ref qb_), (.int (3))] ((qb_, own_ar Z .byte [(.int e0_), (.int e1_), (.int e2_), (.int e3_), (.int e4_), (.int e5_)]) :: L) (fun v M => v = some (.int (1)) ∧ M = (qb_, own_ar Z .byte [(.int e0_), (.int e1_), (.int e2_), (.int e3_), (.int e4_), (.int e5_)]) :: L) := by
  refine own_con (ls := #[.val (.ref qb_), .val (.int (3))]) (plainFor_of_name own_pn2) (fun m => own_ent m rfl) ?_
  intro p e s m below meth c T C X
  refine k_iloadN C X d_jdk_52_method_15_code_0 rfl rfl ?_
  refine k_aloadN C X d_jdk_52_method_15_code_1 rfl rfl rfl ?_
  refine k_arraylength C X d_jdk_52_method_15_code_2 rfl (ix := 0) rfl (z := (6)) rfl ?_
  refine k_isub C X d_jdk_52_method_15_code_3 rfl ?_
  refine k_bipush C X d_jdk_52_method_15_code_4 rfl (v := 31) rfl ?_
  refine k_iushr C X d_jdk_52_method_15_code_6 rfl ?_
  refine k_i2b C X d_jdk_52_method_15_code_7 rfl ?_
  exact k_ireturn C X d_jdk_52_method_15_code_8 (by simp) rfl ⟨rfl, rfl⟩ (by decide) (by decide)
def rm_own_si2_30 : Room := { frames := 4, cells := 2, slots := 9, locals := 57 }
set_option maxRecDepth 65536 in
set_option maxHeartbeats 40000000 in
theorem own_si2_30 (l : Launch) (Z : State) (a0 : Array Value) (hw : ∀ d ∈ tables_1, d.before a0 Z = true) (sa_ : Addr) (qc_ : Addr) (d0_ : Int32) (d1_ : Int32) (d2_ : Int32) (cs : Int32) (fm : Value) (hS : Sta Z Z.heap "java/lang/String" "COMPACT_STRINGS" "Z" (.int cs)) (hcs : ¬ cs = 0) (hAD : Sta Z Z.heap "java/lang/StringUTF16" "$assertionsDisabled" "Z" (.int 1)) (hHI : Sta Z Z.heap "java/lang/StringUTF16" "HI_BYTE_SHIFT" "I" (.int 0)) (hLO : Sta Z Z.heap "java/lang/StringUTF16" "LO_BYTE_SHIFT" "I" (.int 8)) (hFM : Sta Z Z.heap "jdk/internal/util/Preconditions" "SIOOBE_FORMATTER" "Ljava/util/function/BiFunction;" fm) (hfc : fm.category = 1) (c0 : own_ch d0_) (c1 : own_ch d1_) (c2 : own_ch d2_) (g0 : (255) < d0_) (L : List (Addr × (Cell → Prop))) :
    own_Con l Z (⟨"java/lang/String", "<init>", "([CIILjava/lang/Void;)V"⟩ : MethodName) jdk_42_method_149_code 6 none rm_own_si2_30 #[(.ref sa_), (.ref qc_), (.int (0)), (.int (3)), .null] ((sa_, own_ob Z "java/lang/String" [("value", "[B", .null), ("coder", "B", (.int (0)))]) :: (qc_, own_ar Z .char [(.int d0_), (.int d1_), (.int d2_)]) :: L) (fun v M => ∃ f1 f2, v = none ∧ M = (f1, own_ar Z .byte [(.int (nar .byte ((d0_ >>> ((0) &&& 31 : Int32) : Int32).toInt8.toInt32))), (.int (nar .byte ((d0_ >>> ((8) &&& 31 : Int32) : Int32).toInt8.toInt32))), (.int (nar .byte ((d1_ >>> ((0) &&& 31 : Int32) : Int32).toInt8.toInt32))), (.int (nar .byte ((d1_ >>> ((8) &&& 31 : Int32) : Int32).toInt8.toInt32))), (.int (nar .byte ((d2_ >>> ((0) &&& 31 : Int32) : Int32).toInt8.toInt32))), (.int (nar .byte ((d2_ >>> ((8) &&& 31 : Int32) : Int32).toInt8.toInt32)))]) :: (qc_, own_ar Z .char [(.int d0_), (.int d1_), (.int d2_)]) :: (f2, own_ar Z .byte [(.int 0), (.int 0), (.int 0)]) :: (sa_, own_ob Z "java/lang/String" [("value", "[B", (.ref f1)), ("coder", "B", (.int (1)))]) :: L) := by
  refine own_con (ls := #[.val (.ref sa_), .val (.ref qc_), .val (.int (0)), .val (.int (3)), .val .null, .unset]) (plainFor_of_name own_pn0) (fun m => own_ent m rfl) ?_
  intro p e s m below meth c T C X
  refine k_aloadN C X d_jdk_42_method_149_code_0 rfl rfl rfl ?_
  refine k_initO C X d_jdk_42_method_149_code_1 rfl (hw _ (List.mem_of_getElem? (i := 12) rfl)) (hw _ (List.mem_of_getElem? (i := 13) rfl)) (hw _ (List.mem_of_getElem? (i := 14) rfl)) rfl (W := 0) (Nat.le_of_eq rfl) (by decide) (by decide) (fun T X => ?_)
  refine k_iloadN C X d_jdk_42_method_149_code_4 rfl rfl ?_
  refine k_if_ne C X d_jdk_42_method_149_code_5 rfl (tpc := 27) rfl (fun _ => ?_) (fun hc => (absurd hc (by decide) : False).elim)
  refine k_getstatic C X d_jdk_42_method_149_code_27 rfl (hw _ (List.mem_of_getElem? (i := 60) rfl)) hS (fun T X => ?_)
  refine k_if_eq C X d_jdk_42_method_149_code_30 rfl (tpc := 58) rfl (fun hc => (hcs hc : False).elim) (fun _ => ?_)
  refine k_aloadN C X d_jdk_42_method_149_code_33 rfl rfl rfl ?_
  refine k_iloadN C X d_jdk_42_method_149_code_34 rfl rfl ?_
  refine k_iloadN C X d_jdk_42_method_149_code_35 rfl rfl ?_
  replace X := X.bring (i := 1) rfl (M := (qc_, own_ar Z .char [(.int d0_), (.int d1_), (.int d2_)]) :: (sa_, own_ob Z "java/lang/String" [("value", "[B", .null), ("coder", "B", (.int (0)))]) :: L) rfl
  refine k_static C X d_jdk_42_method_149_code_36 rfl (hw _ (List.mem_of_getElem? (i := 66) rfl)) (hw _ (List.mem_of_getElem? (i := 67) rfl)) (hw _ (List.mem_of_getElem? (i := 68) rfl)) (hw _ (List.mem_of_getElem? (i := 69) rfl)) (by decide) (own_cmp1_30 l Z a0 hw qc_ d0_ d1_ d2_ cs fm hS hcs hAD hHI hLO hFM hfc c0 c1 c2 g0 ((sa_, own_ob Z "java/lang/String" [("value", "[B", .null), ("coder", "B", (.int (0)))]) :: L)) (W := 0) (argsL := [(.ref qc_), (.int (0)), (.int (3))]) (rest := []) rfl rfl rfl own_pd24 rfl (Nat.le_of_eq rfl) (by decide) (by decide) (by decide) (by decide) (fun v T M hQ X => ?_)
  obtain ⟨f1, f2, rfl, rfl⟩ := hQ
  refine k_astore C X d_jdk_42_method_149_code_39 rfl rfl (l' := #[.val (.ref sa_), .val (.ref qc_), .val (.int (0)), .val (.int (3)), .val .null, .val (.ref f1)]) rfl ?_
  refine k_aloadN C X d_jdk_42_method_149_code_41 rfl rfl rfl ?_
  refine k_aload C X d_jdk_42_method_149_code_42 rfl rfl rfl ?_
  refine k_iloadN C X d_jdk_42_method_149_code_44 rfl rfl ?_
  refine k_static C X d_jdk_42_method_149_code_45 rfl (hw _ (List.mem_of_getElem? (i := 73) rfl)) (hw _ (List.mem_of_getElem? (i := 74) rfl)) (hw _ (List.mem_of_getElem? (i := 68) rfl)) (hw _ (List.mem_of_getElem? (i := 75) rfl)) (by decide) (own_cl36 l Z a0 hw f1 (nar .byte ((d0_ >>> ((0) &&& 31 : Int32) : Int32).toInt8.toInt32)) (nar .byte ((d0_ >>> ((8) &&& 31 : Int32) : Int32).toInt8.toInt32)) (nar .byte ((d1_ >>> ((0) &&& 31 : Int32) : Int32).toInt8.toInt32)) (nar .byte ((d1_ >>> ((8) &&& 31 : Int32) : Int32).toInt8.toInt32)) (nar .byte ((d2_ >>> ((0) &&& 31 : Int32) : Int32).toInt8.toInt32)) (nar .byte ((d2_ >>> ((8) &&& 31 : Int32) : Int32).toInt8.toInt32)) cs fm hS hcs hAD hHI hLO hFM hfc ((qc_, own_ar Z .char [(.int d0_), (.int d1_), (.int d2_)]) :: (f2, own_ar Z .byte [(.int 0), (.int 0), (.int 0)]) :: (sa_, own_ob Z "java/lang/String" [("value", "[B", .null), ("coder", "B", (.int (0)))]) :: L)) (W := 1) (argsL := [(.ref f1), (.int (3))]) (rest := [(.ref sa_)]) rfl rfl rfl own_pd25 rfl (Nat.le_of_eq rfl) (by decide) (by decide) (by decide) (by decide) (fun v T M hQ X => ?_)
  obtain ⟨rfl, rfl⟩ := hQ
  refine k_putfield C X d_jdk_42_method_149_code_48 rfl (host := "") (Or.inl (hw _ (List.mem_of_getElem? (i := 22) rfl))) (hw _ (List.mem_of_getElem? (i := 2) rfl)) (Or.inr ⟨(hw _ (List.mem_of_getElem? (i := 18) rfl)), rfl, rfl⟩) (own_lay_String hw) own_lay_String_nd (ix := 3) (j := 1) rfl rfl rfl (fs' := [("value", "[B", .null), ("coder", "B", (.int (1)))]) rfl (ty := .byte) (by decide) rfl rfl (L' := (f1, own_ar Z .byte [(.int (nar .byte ((d0_ >>> ((0) &&& 31 : Int32) : Int32).toInt8.toInt32))), (.int (nar .byte ((d0_ >>> ((8) &&& 31 : Int32) : Int32).toInt8.toInt32))), (.int (nar .byte ((d1_ >>> ((0) &&& 31 : Int32) : Int32).toInt8.toInt32))), (.int (nar .byte ((d1_ >>> ((8) &&& 31 : Int32) : Int32).toInt8.toInt32))), (.int (nar .byte ((d2_ >>> ((0) &&& 31 : Int32) : Int32).toInt8.toInt32))), (.int (nar .byte ((d2_ >>> ((8) &&& 31 : Int32) : Int32).toInt8.toInt32)))]) :: (qc_, own_ar Z .char [(.int d0_), (.int d1_), (.int d2_)]) :: (f2, own_ar Z .byte [(.int 0), (.int 0), (.int 0)]) :: (sa_, own_ob Z "java/lang/String" [("value", "[B", .null), ("coder", "B", (.int (1)))]) :: L) rfl (fun T X => ?_)
  refine k_aloadN C X d_jdk_42_method_149_code_51 rfl rfl rfl ?_
  refine k_aload C X d_jdk_42_method_149_code_52 rfl rfl rfl ?_
  refine k_putfield C X d_jdk_42_method_149_code_54 rfl (host := "") (Or.inl (hw _ (List.mem_of_getElem? (i := 21) rfl))) (hw _ (List.mem_of_getElem? (i := 2) rfl)) (Or.inr ⟨(hw _ (List.mem_of_getElem? (i := 17) rfl)), rfl, rfl⟩) (own_lay_String hw) own_lay_String_nd (ix := 3) (j := 0) rfl rfl rfl (fs' := [("value", "[B", (.ref f1)), ("coder", "B", (.int (1)))]) rfl (ty := (.array .byte)) (by decide) rfl rfl (L' := (f1, own_ar Z .byte [(.int (nar .byte ((d0_ >>> ((0) &&& 31 : Int32) : Int32).toInt8.toInt32))), (.int (nar .byte ((d0_ >>> ((8) &&& 31 : Int32) : Int32).toInt8.toInt32))), (.int (nar .byte ((d1_ >>> ((0) &&& 31 : Int32) : Int32).toInt8.toInt32))), (.int (nar .byte ((d1_ >>> ((8) &&& 31 : Int32) : Int32).toInt8.toInt32))), (.int (nar .byte ((d2_ >>> ((0) &&& 31 : Int32) : Int32).toInt8.toInt32))), (.int (nar .byte ((d2_ >>> ((8) &&& 31 : Int32) : Int32).toInt8.toInt32)))]) :: (qc_, own_ar Z .char [(.int d0_), (.int d1_), (.int d2_)]) :: (f2, own_ar Z .byte [(.int 0), (.int 0), (.int 0)]) :: (sa_, own_ob Z "java/lang/String" [("value", "[B", (.ref f1)), ("coder", "B", (.int (1)))]) :: L) rfl (fun T X => ?_)
  exact k_return C X d_jdk_42_method_149_code_57 ⟨f1, f2, rfl, rfl⟩ (by decide) (by decide)
def rm_own_si1_30 : Room := { frames := 5, cells := 2, slots := 9, locals := 74 }
set_option maxRecDepth 65536 in
set_option maxHeartbeats 40000000 in
theorem own_si1_30 (l : Launch) (Z : State) (a0 : Array Value) (hw : ∀ d ∈ tables_1, d.before a0 Z = true) (sa_ : Addr) (qc_ : Addr) (d0_ : Int32) (d1_ : Int32) (d2_ : Int32) (cs : Int32) (fm : Value) (hS : Sta Z Z.heap "java/lang/String" "COMPACT_STRINGS" "Z" (.int cs)) (hcs : ¬ cs = 0) (hAD : Sta Z Z.heap "java/lang/StringUTF16" "$assertionsDisabled" "Z" (.int 1)) (hHI : Sta Z Z.heap "java/lang/StringUTF16" "HI_BYTE_SHIFT" "I" (.int 0)) (hLO : Sta Z Z.heap "java/lang/StringUTF16" "LO_BYTE_SHIFT" "I" (.int 8)) (hFM : Sta Z Z.heap "jdk/internal/util/Preconditions" "SIOOBE_FORMATTER" "Ljava/util/function/BiFunction;" fm) (hfc : fm.category = 1) (c0 : own_ch d0_) (c1 : own_ch d1_) (c2 : own_ch d2_) (g0 : (255) < d0_) (L : List (Addr × (Cell → Prop))) :
    own_Con l Z (⟨"java/lang/String", "<init>", "([C)V"⟩ : MethodName) jdk_42_method_3_code 2 none rm_own_si1_30 #[(.ref sa_), (.ref qc_)] ((sa_, own_ob Z "java/lang/String" [("value", "[B", .null), ("coder", "B", (.int (0)))]) :: (qc_, own_ar Z .char [(.int d0_), (.int d1_), (.int d2_)]) :: L) (fun v M => ∃ f1 f2, v = none ∧ M = (f1, own_ar Z .byte [(.int (nar .byte ((d0_ >>> ((0) &&& 31 : Int32) : Int32).toInt8.toInt32))), (.int (nar .byte ((d0_ >>> ((8) &&& 31 : Int32) : Int32).toInt8.toInt32))), (.int (nar .byte ((d1_ >>> ((0) &&& 31 : Int32) : Int32).toInt8.toInt32))), (.int (nar .byte ((d1_ >>> ((8) &&& 31 : Int32) : Int32).toInt8.toInt32))), (.int (nar .byte ((d2_ >>> ((0) &&& 31 : Int32) : Int32).toInt8.toInt32))), (.int (nar .byte ((d2_ >>> ((8) &&& 31 : Int32) : Int32).toInt8.toInt32)))]) :: (qc_, own_ar Z .char [(.int d0_), (.int d1_), (.int d2_)]) :: (f2, own_ar Z .byte [(.int 0), (.int 0), (.int 0)]) :: (sa_, own_ob Z "java/lang/String" [("value", "[B", (.ref f1)), ("coder", "B", (.int (1)))]) :: L) := by
  refine own_con (ls := #[.val (.ref sa_), .val (.ref qc_)]) (plainFor_of_name own_pn0) (fun m => own_ent m rfl) ?_
  intro p e s m below meth c T C X
  refine k_aloadN C X d_jdk_42_method_3_code_0 rfl rfl rfl ?_
  refine k_aloadN C X d_jdk_42_method_3_code_1 rfl rfl rfl ?_
  refine k_iconst C X d_jdk_42_method_3_code_2 rfl (v := 0) rfl ?_
  refine k_aloadN C X d_jdk_42_method_3_code_3 rfl rfl rfl ?_
  refine k_arraylength C X d_jdk_42_method_3_code_4 rfl (ix := 1) rfl (z := (3)) rfl ?_
  refine k_aconst_null C X d_jdk_42_method_3_code_5 rfl ?_
  replace X := X.bring (i := 1) rfl (M := (qc_, own_ar Z .char [(.int d0_), (.int d1_), (.int d2_)]) :: (sa_, own_ob Z "java/lang/String" [("value", "[B", .null), ("coder", "B", (.int (0)))]) :: L) rfl
  replace X := X.bring (i := 1) rfl (M := (sa_, own_ob Z "java/lang/String" [("value", "[B", .null), ("coder", "B", (.int (0)))]) :: (qc_, own_ar Z .char [(.int d0_), (.int d1_), (.int d2_)]) :: L) rfl
  refine k_init C X d_jdk_42_method_3_code_6 rfl rfl (hw _ (List.mem_of_getElem? (i := 8) rfl)) (hw _ (List.mem_of_getElem? (i := 9) rfl)) (hw _ (List.mem_of_getElem? (i := 3) rfl)) (hw _ (List.mem_of_getElem? (i := 11) rfl)) (by decide) (own_si2_30 l Z a0 hw sa_ qc_ d0_ d1_ d2_ cs fm hS hcs hAD hHI hLO hFM hfc c0 c1 c2 g0 (L)) (W := 0) (argsL := [(.ref qc_), (.int (0)), (.int (3)), .null]) (rest := []) rfl rfl rfl own_pd0 rfl (Nat.le_of_eq rfl) (by decide) (by decide) (by decide) (by decide) (fun v T M hQ X => ?_)
  obtain ⟨f1, f2, rfl, rfl⟩ := hQ
  exact k_return C X d_jdk_42_method_3_code_9 ⟨f1, f2, rfl, rfl⟩ (by decide) (by decide)
def rm_own_len31 : Room := { frames := 1, cells := 0, slots := 0, locals := 13 }
set_option maxRecDepth 65536 in
set_option maxHeartbeats 40000000 in
theorem own_len31 (l : Launch) (Z : State) (a0 : Array Value) (hw : ∀ d ∈ tables_1, d.before a0 Z = true) (sa_ : Addr) (qb_ : Addr) (e0_ : Int32) (e1_ : Int32) (e2_ : Int32) (e3_ : Int32) (e4_ : Int32) (e5_ : Int32) (cs : Int32) (fm : Value) (hS : Sta Z Z.heap "java/lang/String" "COMPACT_STRINGS" "Z" (.int cs)) (hcs : ¬ cs = 0) (hAD : Sta Z Z.heap "java/lang/StringUTF16" "$assertionsDisabled" "Z" (.int 1)) (hHI : Sta Z Z.heap "java/lang/StringUTF16" "HI_BYTE_SHIFT" "I" (.int 0)) (hLO : Sta Z Z.heap "java/lang/StringUTF16" "LO_BYTE_SHIFT" "I" (.int 8)) (hFM : Sta Z Z.heap "jdk/internal/util/Preconditions" "SIOOBE_FORMATTER" "Ljava/util/function/BiFunction;" fm) (hfc : fm.category = 1) (L : List (Addr × (Cell → Prop))) :
    own_Con l Z (⟨"java/lang/String", "length", "()I"⟩ : MethodName) jdk_42_method_54_code 1 (some .int) rm_own_len31 #[(.ref sa_)] ((sa_, own_ob Z "java/lang/String" [("value", "[B", (.ref qb_)), ("coder", "B", (.int (1)))]) :: (qb_, own_ar Z .byte [(.int e0_), (.int e1_), (.int e2_), (.int e3_), (.int e4_), (.int e5_)]) :: L) (fun v M => v = some (.int (3)) ∧ M = (sa_, own_ob Z "java/lang/String" [("value", "[B", (.ref qb_)), ("coder", "B", (.int (1)))]) :: (qb_, own_ar Z .byte [(.int e0_), (.int e1_), (.int e2_), (.int e3_), (.int e4_), (.int e5_)]) :: L) := by
  refine own_con (ls := #[.val (.ref sa_)]) (plainFor_of_name own_pn0) (fun m => own_ent m rfl) ?_
  intro p e s m below meth c T C X
  refine k_aloadN C X d_jdk_42_method_54_code_0 rfl rfl rfl ?_
  refine k_getfield C X d_jdk_42_method_54_code_1 rfl (host := "") (Or.inl (hw _ (List.mem_of_getElem? (i := 21) rfl))) (own_fL (ix := 0) (j := 0) rfl rfl) (fun T X => ?_)
  refine k_arraylength C X d_jdk_42_method_54_code_4 rfl (ix := 1) rfl (z := (6)) rfl ?_
  refine k_aloadN C X d_jdk_42_method_54_code_5 rfl rfl rfl ?_
  refine k_virtual C X d_jdk_42_method_54_code_6 rfl (hw _ (List.mem_of_getElem? (i := 55) rfl)) (hw _ (List.mem_of_getElem? (i := 56) rfl)) (hw _ (List.mem_of_getElem? (i := 3) rfl)) (hw _ (List.mem_of_getElem? (i := 59) rfl)) (hw _ (List.mem_of_getElem? (i := 58) rfl)) (hw _ (List.mem_of_getElem? (i := 57) rfl)) (by decide) (own_nf C.2.2.2.1 (hw _ (List.mem_of_getElem? (i := 58) rfl))) (own_eL (ix := 0) rfl) (own_coder1 l Z a0 hw sa_ qb_ cs fm hS hcs hAD hHI hLO hFM hfc ((qb_, own_ar Z .byte [(.int e0_), (.int e1_), (.int e2_), (.int e3_), (.int e4_), (.int e5_)]) :: L)) (W := 1) (argsL := []) (rest := [(.int (6))]) rfl rfl rfl own_pd2 rfl (Nat.le_of_eq rfl) (by decide) (by decide) (by decide) (by decide) (fun v T M hQ X => ?_)
  obtain ⟨rfl, rfl⟩ := hQ
  refine k_ishr C X d_jdk_42_method_54_code_9 rfl ?_
  exact k_ireturn C X d_jdk_42_method_54_code_10 (by simp) rfl ⟨rfl, rfl⟩ (by decide) (by decide)
def rm_own_pci03 : Room := { frames := 0, cells := 0, slots := 0, locals := 0 }
set_option maxRecDepth 65536 in
set_option maxHeartbeats 40000000 in
theorem own_pci03 (l : Launch) (Z : State) (a0 : Array Value) (hw : ∀ d ∈ tables_1, d.before a0 Z = true) (fm_ : Value) (cs : Int32) (fm : Value) (hS : Sta Z Z.heap "java/lang/String" "COMPACT_STRINGS" "Z" (.int cs)) (hcs : ¬ cs = 0) (hAD : Sta Z Z.heap "java/lang/StringUTF16" "$assertionsDisabled" "Z" (.int 1)) (hHI : Sta Z Z.heap "java/lang/StringUTF16" "HI_BYTE_SHIFT" "I" (.int 0)) (hLO : Sta Z Z.heap "java/lang/StringUTF16" "LO_BYTE_SHIFT" "I" (.int 8)) (hFM : Sta Z Z.heap "jdk/internal/util/Preconditions" "SIOOBE_FORMATTER" "Ljava/util/function/BiFunction;" fm) (hfc : fm.category = 1) (hfm_ : fm_.category = 1) (L : List (Addr × (Cell → Prop))) :
    own_Con l Z (⟨"jdk/internal/util/Preconditions", "checkIndex", "(IILjava/util/function/BiFunction;)I"⟩ : MethodName) jdk_41_method_11_code 3 (some .int) rm_own_pci03 #[(.int (0)), (.int (3)), fm_] (L) (fun v M => v = some (.int (0)) ∧ M = L) := by
  refine own_con (ls := #[.val (.int (0)), .val (.int (3)), .val fm_]) (plainFor_of_name own_pn5) (fun m => own_ent m (by rw [own_locs1 (v := (.int (0))) rfl, own_locs1 (v := (.int (3))) rfl, own_locs1 hfm_]; rfl)) ?_
  intro p e s m below meth c T C X
  refine k_iloadN C X d_jdk_41_method_11_code_0 rfl rfl ?_
  refine k_if_lt C X d_jdk_41_method_11_code_1 rfl (tpc := 9) rfl (fun hc => (absurd hc (by decide) : False).elim) (fun _ => ?_)
  refine k_iloadN C X d_jdk_41_method_11_code_4 rfl rfl ?_
  refine k_iloadN C X d_jdk_41_method_11_code_5 rfl rfl ?_
  refine k_icmp_lt C X d_jdk_41_method_11_code_6 rfl (tpc := 16) rfl (fun _ => ?_) (fun hc => (absurd hc (by decide) : False).elim)
  refine k_iloadN C X d_jdk_41_method_11_code_16 rfl rfl ?_
  exact k_ireturn C X d_jdk_41_method_11_code_17 (by simp) rfl ⟨rfl, rfl⟩ (by decide) (by decide)
def rm_own_chk03 : Room := { frames := 1, cells := 0, slots := 0, locals := 14 }
set_option maxRecDepth 65536 in
set_option maxHeartbeats 40000000 in
theorem own_chk03 (l : Launch) (Z : State) (a0 : Array Value) (hw : ∀ d ∈ tables_1, d.before a0 Z = true)  (cs : Int32) (fm : Value) (hS : Sta Z Z.heap "java/lang/String" "COMPACT_STRINGS" "Z" (.int cs)) (hcs : ¬ cs = 0) (hAD : Sta Z Z.heap "java/lang/StringUTF16" "$assertionsDisabled" "Z" (.int 1)) (hHI : Sta Z Z.heap "java/lang/StringUTF16" "HI_BYTE_SHIFT" "I" (.int 0)) (hLO : Sta Z Z.heap "java/lang/StringUTF16" "LO_BYTE_SHIFT" "I" (.int 8)) (hFM : Sta Z Z.heap "jdk/internal/util/Preconditions" "SIOOBE_FORMATTER" "Ljava/util/function/BiFunction;" fm) (hfc : fm.category = 1) (L : List (Addr × (Cell → Prop))) :
    own_Con l Z (⟨"java/lang/String", "checkIndex", "(II)V"⟩ : MethodName) jdk_42_method_155_code 2 none rm_own_chk03 #[(.int (0)), (.int (3))] (L) (fun v M => v = none ∧ M = L) := by
  refine own_con (ls := #[.val (.int (0)), .val (.int (3))]) (plainFor_of_name own_pn0) (fun m => own_ent m rfl) ?_
  intro p e s m below meth c T C X
  refine k_iloadN C X d_jdk_42_method_155_code_0 rfl rfl ?_
  refine k_iloadN C X d_jdk_42_method_155_code_1 rfl rfl ?_
  refine k_getstatic C X d_jdk_42_method_155_code_2 rfl (hw _ (List.mem_of_getElem? (i := 93) rfl)) hFM (fun T X => ?_)
  refine k_static C X d_jdk_42_method_155_code_5 rfl (hw _ (List.mem_of_getElem? (i := 95) rfl)) (hw _ (List.mem_of_getElem? (i := 96) rfl)) (hw _ (List.mem_of_getElem? (i := 94) rfl)) (hw _ (List.mem_of_getElem? (i := 97) rfl)) (by decide) (own_pci03 l Z a0 hw fm cs fm hS hcs hAD hHI hLO hFM hfc hfc (L)) (W := 0) (argsL := [(.int (0)), (.int (3)), fm]) (rest := []) rfl rfl rfl own_pd14 rfl (Nat.le_of_eq rfl) (by decide) (by decide) (by decide) (by decide) (fun v T M hQ X => ?_)
  obtain ⟨rfl, hM_⟩ := hQ
  replace hM_ := hM_.symm
  subst hM_
  refine k_pop C X d_jdk_42_method_155_code_8 rfl rfl ?_
  exact k_return C X d_jdk_42_method_155_code_9 ⟨rfl, rfl⟩ (by decide) (by decide)
def rm_own_lca30 : Room := { frames := 2, cells := 0, slots := 0, locals := 27 }
set_option maxRecDepth 65536 in
set_option maxHeartbeats 40000000 in
theorem own_lca30 (l : Launch) (Z : State) (a0 : Array Value) (hw : ∀ d ∈ tables_1, d.before a0 Z = true) (qb_ : Addr) (e0_ : Int32) (e1_ : Int32) (e2_ : Int32) (cs : Int32) (fm : Value) (hS : Sta Z Z.heap "java/lang/String" "COMPACT_STRINGS" "Z" (.int cs)) (hcs : ¬ cs = 0) (hAD : Sta Z Z.heap "java/lang/StringUTF16" "$assertionsDisabled" "Z" (.int 1)) (hHI : Sta Z Z.heap "java/lang/StringUTF16" "HI_BYTE_SHIFT" "I" (.int 0)) (hLO : Sta Z Z.heap "java/lang/StringUTF16" "LO_BYTE_SHIFT" "I" (.int 8)) (hFM : Sta Z Z.heap "jdk/internal/util/Preconditions" "SIOOBE_FORMATTER" "Ljava/util/function/BiFunction;" fm) (hfc : fm.category = 1) (L : List (Addr × (Cell → Prop))) :
    own_Con l Z (⟨"java/lang/StringLatin1", "charAt", "([BI)C"⟩ : MethodName) jdk_43_method_2_code 2 (some .char) rm_own_lca30 #[(.ref qb_), (.int (0))] ((qb_, own_ar Z .byte [(.int e0_), (.int e1_), (.int e2_)]) :: L) (fun v M => v = some (.int ((e0_ &&& (255)).toUInt32.toUInt16.toUInt32.toInt32)) ∧ M = (qb_, own_ar Z .byte [(.int e0_), (.int e1_), (.int e2_)]) :: L) := by
  refine own_con (ls := #[.val (.ref qb_), .val (.int (0))]) (plainFor_of_name own_pn1) (fun m => own_ent m rfl) ?_
  intro p e s m below meth c T C X
  refine k_iloadN C X d_jdk_43_method_2_code_0 rfl rfl ?_
  refine k_aloadN C X d_jdk_43_method_2_code_1 rfl rfl rfl ?_
  refine k_arraylength C X d_jdk_43_method_2_code_2 rfl (ix := 0) rfl (z := (3)) rfl ?_
  refine k_static C X d_jdk_43_method_2_code_3 rfl (hw _ (List.mem_of_getElem? (i := 90) rfl)) (hw _ (List.mem_of_getElem? (i := 91) rfl)) (hw _ (List.mem_of_getElem? (i := 3) rfl)) (hw _ (List.mem_of_getElem? (i := 92) rfl)) (by decide) (own_chk03 l Z a0 hw cs fm hS hcs hAD hHI hLO hFM hfc ((qb_, own_ar Z .byte [(.int e0_), (.int e1_), (.int e2_)]) :: L)) (W := 0) (argsL := [(.int (0)), (.int (3))]) (rest := []) rfl rfl rfl own_pd15 rfl (Nat.le_of_eq rfl) (by decide) (by decide) (by decide) (by decide) (fun v T M hQ X => ?_)
  obtain ⟨rfl, rfl⟩ := hQ
  refine k_aloadN C X d_jdk_43_method_2_code_6 rfl rfl rfl ?_
  refine k_iloadN C X d_jdk_43_method_2_code_7 rfl rfl ?_
  refine k_baload C X d_jdk_43_method_2_code_8 rfl (ix := 0) (i := 0) rfl (by decide) (by decide) rfl ?_
  refine k_sipush C X d_jdk_43_method_2_code_9 rfl (v := 255) rfl ?_
  refine k_iand C X d_jdk_43_method_2_code_12 rfl ?_
  refine k_i2c C X d_jdk_43_method_2_code_13 rfl ?_
  exact k_ireturn C X d_jdk_43_method_2_code_14 (by simp) (own_nch _) ⟨rfl, rfl⟩ (by decide) (by decide)
def rm_own_ulen3 : Room := { frames := 0, cells := 0, slots := 0, locals := 0 }
set_option maxRecDepth 65536 in
set_option maxHeartbeats 40000000 in
theorem own_ulen3 (l : Launch) (Z : State) (a0 : Array Value) (hw : ∀ d ∈ tables_1, d.before a0 Z = true) (qb_ : Addr) (e0_ : Int32) (e1_ : Int32) (e2_ : Int32) (e3_ : Int32) (e4_ : Int32) (e5_ : Int32) (cs : Int32) (fm : Value) (hS : Sta Z Z.heap "java/lang/String" "COMPACT_STRINGS" "Z" (.int cs)) (hcs : ¬ cs = 0) (hAD : Sta Z Z.heap "java/lang/StringUTF16" "$assertionsDisabled" "Z" (.int 1)) (hHI : Sta Z Z.heap "java/lang/StringUTF16" "HI_BYTE_SHIFT" "I" (.int 0)) (hLO : Sta Z Z.heap "java/lang/StringUTF16" "LO_BYTE_SHIFT" "I" (.int 8)) (hFM : Sta Z Z.heap "jdk/internal/util/Preconditions" "SIOOBE_FORMATTER" "Ljava/util/function/BiFunction;" fm) (hfc : fm.category = 1) (L : List (Addr × (Cell → Prop))) :
    own_Con l Z (⟨"java/lang/StringUTF16", "length", "([B)I"⟩ : MethodName) jdk_52_method_6_code 1 (some .int) rm_own_ulen3 #[(.ref qb_)] ((qb_, own_ar Z .byte [(.int e0_), (.int e1_), (.int e2_), (.int e3_), (.int e4_), (.int e5_)]) :: L) (fun v M => v = some (.int (3)) ∧ M = (qb_, own_ar Z .byte [(.int e0_), (.int e1_), (.int e2_), (.int e3_), (.int e4_), (.int e5_)]) :: L) := by
  refine own_con (ls := #[.val (.ref qb_)]) (plainFor_of_name own_pn2) (fun m => own_ent m rfl) ?_
  intro p e s m below meth c T C X
  refine k_aloadN C X d_jdk_52_method_6_code_0 rfl rfl rfl ?_
  refine k_arraylength C X d_jdk_52_method_6_code_1 rfl (ix := 0) rfl (z := (6)) rfl ?_
  refine k_iconst C X d_jdk_52_method_6_code_2 rfl (v := 1) rfl ?_
  refine k_ishr C X d_jdk_52_method_6_code_3 rfl ?_
  exact k_ireturn C X d_jdk_52_method_6_code_4 (by simp) rfl ⟨rfl, rfl⟩ (by decide) (by decide)
def rm_own_uchk30 : Room := { frames := 2, cells := 0, slots := 0, locals := 27 }
set_option maxRecDepth 65536 in
set_option maxHeartbeats 40000000 in
theorem own_uchk30 (l : Launch) (Z : State) (a0 : Array Value) (hw : ∀ d ∈ tables_1, d.before a0 Z = true) (qb_ : Addr) (e0_ : Int32) (e1_ : Int32) (e2_ : Int32) (e3_ : Int32) (e4_ : Int32) (e5_ : Int32) (cs : Int32) (fm : Value) (hS : Sta Z Z.heap "java/lang/String" "COMPACT_STRINGS" "Z" (.int cs)) (hcs : ¬ cs = 0) (hAD : Sta Z Z.heap "java/lang/StringUTF16" "$assertionsDisabled" "Z" (.int 1)) (hHI : Sta Z Z.heap "java/lang/StringUTF16" "HI_BYTE_SHIFT" "I" (.int 0)) (hLO : Sta Z Z.heap "java/lang/StringUTF16" "LO_BYTE_SHIFT" "I" (.int 8)) (hFM : Sta Z Z.heap "jdk/internal/util/Preconditions" "SIOOBE_FORMATTER" "Ljava/util/function/BiFunction;" fm) (hfc : fm.category = 1) (L : List (Addr × (Cell → Prop))) :
    own_Con l Z (⟨"java/lang/StringUTF16", "checkIndex", "(I[B)V"⟩ : MethodName) jdk_52_method_91_code 2 none rm_own_uchk30 #[(.int (0)), (.ref qb_)] ((qb_, own_ar Z .byte [(.int e0_), (.int e1_), (.int e2_), (.int e3_), (.int e4_), (.int e5_)]) :: L) (fun v M => v = none ∧ M = (qb_, own_ar Z .byte [(.int e0_), (.int e1_), (.int e2_), (.int e3_), (.int e4_), (.int e5_)]) :: L) := by
  refine own_con (ls := #[.val (.int (0)), .val (.ref qb_)]) (plainFor_of_name own_pn2) (fun m => own_ent m rfl) ?_
  intro p e s m below meth c T C X
  refine k_iloadN C X d_jdk_52_method_91_code_0 rfl rfl ?_
  refine k_aloadN C X d_jdk_52_method_91_code_1 rfl rfl rfl ?_
  refine k_static C X d_jdk_52_method_91_code_2 rfl (hw _ (List.mem_of_getElem? (i := 123) rfl)) (hw _ (List.mem_of_getElem? (i := 124) rfl)) (hw _ (List.mem_of_getElem? (i := 68) rfl)) (hw _ (List.mem_of_getElem? (i := 125) rfl)) (by decide) (own_ulen3 l Z a0 hw qb_ e0_ e1_ e2_ e3_ e4_ e5_ cs fm hS hcs hAD hHI hLO hFM hfc (L)) (W := 1) (argsL := [(.ref qb_)]) (rest := [(.int (0))]) rfl rfl rfl own_pd16 rfl (Nat.le_of_eq rfl) (by decide) (by decide) (by decide) (by decide) (fun v T M hQ X => ?_)
  obtain ⟨rfl, rfl⟩ := hQ
  refine k_static C X d_jdk_52_method_91_code_5 rfl (hw _ (List.mem_of_getElem? (i := 126) rfl)) (hw _ (List.mem_of_getElem? (i := 91) rfl)) (hw _ (List.mem_of_getElem? (i := 3) rfl)) (hw _ (List.mem_of_getElem? (i := 92) rfl)) (by decide) (own_chk03 l Z a0 hw cs fm hS hcs hAD hHI hLO hFM hfc ((qb_, own_ar Z .byte [(.int e0_), (.int e1_), (.int e2_), (.int e3_), (.int e4_), (.int e5_)]) :: L)) (W := 0) (argsL := [(.int (0)), (.int (3))]) (rest := []) rfl rfl rfl own_pd15 rfl (Nat.le_of_eq rfl) (by decide) (by decide) (by decide) (by decide) (fun v T M hQ X => ?_)
  obtain ⟨rfl, rfl⟩ := hQ
  exact k_return C X d_jdk_52_method_91_code_8 ⟨rfl, rfl⟩ (by decide) (by decide)
def rm_own_uca30 : Room := { frames := 3, cells := 0, slots := 0, locals := 40 }
set_option maxRecDepth 65536 in
set_option maxHeartbeats 40000000 in
theorem own_uca30 (l : Launch) (Z : State) (a0 : Array Value) (hw : ∀ d ∈ tables_1, d.before a0 Z = true) (qb_ : Addr) (e0_ : Int32) (e1_ : Int32) (e2_ : Int32) (e3_ : Int32) (e4_ : Int32) (e5_ : Int32) (cs : Int32) (fm : Value) (hS : Sta Z Z.heap "java/lang/String" "COMPACT_STRINGS" "Z" (.int cs)) (hcs : ¬ cs = 0) (hAD : Sta Z Z.heap "java/lang/StringUTF16" "$assertionsDisabled" "Z" (.int 1)) (hHI : Sta Z Z.heap "java/lang/StringUTF16" "HI_BYTE_SHIFT" "I" (.int 0)) (hLO : Sta Z Z.heap "java/lang/StringUTF16" "LO_BYTE_SHIFT" "I" (.int 8)) (hFM : Sta Z Z.heap "jdk/internal/util/Preconditions" "SIOOBE_FORMATTER" "Ljava/util/function/BiFunction;" fm) (hfc : fm.category = 1) (L : List (Addr × (Cell → Prop))) :
    own_Con l Z (⟨"java/lang/StringUTF16", "charAt", "([BI)C"⟩ : MethodName) jdk_52_method_83_code 2 (some .char) rm_own_uca30 #[(.ref qb_), (.int (0))] ((qb_, own_ar Z .byte [(.int e0_), (.int e1_), (.int e2_), (.int e3_), (.int e4_), (.int e5_)]) :: L) (fun v M => v = some (.int ((((e0_ &&& (255)) <<< ((0) &&& 31 : Int32) : Int32) ||| ((e1_ &&& (255)) <<< ((8) &&& 31 : Int32) : Int32)).toUInt32.toUInt16.toUInt32.toInt32)) ∧ M = (qb_, own_ar Z .byte [(.int e0_), (.int e1_), (.int e2_), (.int e3_), (.int e4_), (.int e5_)]) :: L) := by
  refine own_con (ls := #[.val (.ref qb_), .val (.int (0))]) (plainFor_of_name own_pn2) (fun m => own_ent m rfl) ?_
  intro p e s m below meth c T C X
  refine k_iloadN C X d_jdk_52_method_83_code_0 rfl rfl ?_
  refine k_aloadN C X d_jdk_52_method_83_code_1 rfl rfl rfl ?_
  refine k_static C X d_jdk_52_method_83_code_2 rfl (hw _ (List.mem_of_getElem? (i := 120) rfl)) (hw _ (List.mem_of_getElem? (i := 121) rfl)) (hw _ (List.mem_of_getElem? (i := 68) rfl)) (hw _ (List.mem_of_getElem? (i := 122) rfl)) (by decide) (own_uchk30 l Z a0 hw qb_ e0_ e1_ e2_ e3_ e4_ e5_ cs fm hS hcs hAD hHI hLO hFM hfc (L)) (W := 0) (argsL := [(.int (0)), (.ref qb_)]) (rest := []) rfl rfl rfl own_pd17 rfl (Nat.le_of_eq rfl) (by decide) (by decide) (by decide) (by decide) (fun v T M hQ X => ?_)
  obtain ⟨rfl, rfl⟩ := hQ
  refine k_aloadN C X d_jdk_52_method_83_code_5 rfl rfl rfl ?_
  refine k_iloadN C X d_jdk_52_method_83_code_6 rfl rfl ?_
  refine k_static C X d_jdk_52_method_83_code_7 rfl (hw _ (List.mem_of_getElem? (i := 114) rfl)) (hw _ (List.mem_of_getElem? (i := 115) rfl)) (hw _ (List.mem_of_getElem? (i := 68) rfl)) (hw _ (List.mem_of_getElem? (i := 116) rfl)) (by decide) (own_get30 l Z a0 hw qb_ e0_ e1_ e2_ e3_ e4_ e5_ cs fm hS hcs hAD hHI hLO hFM hfc (L)) (W := 0) (argsL := [(.ref qb_), (.int (0))]) (rest := []) rfl rfl rfl own_pd18 rfl (Nat.le_of_eq rfl) (by decide) (by decide) (by decide) (by decide) (fun v T M hQ X => ?_)
  obtain ⟨rfl, rfl⟩ := hQ
  exact k_ireturn C X d_jdk_52_method_83_code_10 (by simp) (own_nch _) ⟨rfl, rfl⟩ (by decide) (by decide)
def rm_own_cha310 : Room := { frames := 4, cells := 0, slots := 0, locals := 53 }
set_option maxRecDepth 65536 in
set_option maxHeartbeats 40000000 in
theorem own_cha310 (l : Launch) (Z : State) (a0 : Array Value) (hw : ∀ d ∈ tables_1, d.before a0 Z = true) (sa_ : Addr) (qb_ : Addr) (e0_ : Int32) (e1_ : Int32) (e2_ : Int32) (e3_ : Int32) (e4_ : Int32) (e5_ : Int32) (cs : Int32) (fm : Value) (hS : Sta Z Z.heap "java/lang/String" "COMPACT_STRINGS" "Z" (.int cs)) (hcs : ¬ cs = 0) (hAD : Sta Z Z.heap "java/lang/StringUTF16" "$assertionsDisabled" "Z" (.int 1)) (hHI : Sta Z Z.heap "java/lang/StringUTF16" "HI_BYTE_SHIFT" "I" (.int 0)) (hLO : Sta Z Z.heap "java/lang/StringUTF16" "LO_BYTE_SHIFT" "I" (.int 8)) (hFM : Sta Z Z.heap "jdk/internal/util/Preconditions" "SIOOBE_FORMATTER" "Ljava/util/function/BiFunction;" fm) (hfc : fm.category = 1) (L : List (Addr × (Cell → Prop))) :
    own_Con l Z (⟨"java/lang/String", "charAt", "(I)C"⟩ : MethodName) jdk_42_method_56_code 2 (some .char) rm_own_cha310 #[(.ref sa_), (.int (0))] ((sa_, own_ob Z "java/lang/String" [("value", "[B", (.ref qb_)), ("coder", "B", (.int (1)))]) :: (qb_, own_ar Z .byte [(.int e0_), (.int e1_), (.int e2_), (.int e3_), (.int e4_), (.int e5_)]) :: L) (fun v M => v = some (.int ((((e0_ &&& (255)) <<< ((0) &&& 31 : Int32) : Int32) ||| ((e1_ &&& (255)) <<< ((8) &&& 31 : Int32) : Int32)).toUInt32.toUInt16.toUInt32.toInt32)) ∧ M = (qb_, own_ar Z .byte [(.int e0_), (.int e1_), (.int e2_), (.int e3_), (.int e4_), (.int e5_)]) :: (sa_, own_ob Z "java/lang/String" [("value", "[B", (.ref qb_)), ("coder", "B", (.int (1)))]) :: L) := by
  refine own_con (ls := #[.val (.ref sa_), .val (.int (0))]) (plainFor_of_name own_pn0) (fun m => own_ent m rfl) ?_
  intro p e s m below meth c T C X
  refine k_aloadN C X d_jdk_42_method_56_code_0 rfl rfl rfl ?_
  refine k_virtual C X d_jdk_42_method_56_code_1 rfl (hw _ (List.mem_of_getElem? (i := 81) rfl)) (hw _ (List.mem_of_getElem? (i := 82) rfl)) (hw _ (List.mem_of_getElem? (i := 3) rfl)) (hw _ (List.mem_of_getElem? (i := 85) rfl)) (hw _ (List.mem_of_getElem? (i := 84) rfl)) (hw _ (List.mem_of_getElem? (i := 83) rfl)) (by decide) (own_nf C.2.2.2.1 (hw _ (List.mem_of_getElem? (i := 84) rfl))) (own_eL (ix := 0) rfl) (own_isl1 l Z a0 hw sa_ qb_ cs fm hS hcs hAD hHI hLO hFM hfc ((qb_, own_ar Z .byte [(.int e0_), (.int e1_), (.int e2_), (.int e3_), (.int e4_), (.int e5_)]) :: L)) (W := 0) (argsL := []) (rest := []) rfl rfl rfl own_pd19 rfl (Nat.le_of_eq rfl) (by decide) (by decide) (by decide) (by decide) (fun v T M hQ X => ?_)
  obtain ⟨rfl, rfl⟩ := hQ
  refine k_if_eq C X d_jdk_42_method_56_code_4 rfl (tpc := 16) rfl (fun _ => ?_) (fun hc => (absurd hc (by decide) : False).elim)
  refine k_aloadN C X d_jdk_42_method_56_code_16 rfl rfl rfl ?_
  refine k_getfield C X d_jdk_42_method_56_code_17 rfl (host := "") (Or.inl (hw _ (List.mem_of_getElem? (i := 21) rfl))) (own_fL (ix := 0) (j := 0) rfl rfl) (fun T X => ?_)
  refine k_iloadN C X d_jdk_42_method_56_code_20 rfl rfl ?_
  replace X := X.bring (i := 1) rfl (M := (qb_, own_ar Z .byte [(.int e0_), (.int e1_), (.int e2_), (.int e3_), (.int e4_), (.int e5_)]) :: (sa_, own_ob Z "java/lang/String" [("value", "[B", (.ref qb_)), ("coder", "B", (.int (1)))]) :: L) rfl
  refine k_static C X d_jdk_42_method_56_code_21 rfl (hw _ (List.mem_of_getElem? (i := 117) rfl)) (hw _ (List.mem_of_getElem? (i := 118) rfl)) (hw _ (List.mem_of_getElem? (i := 68) rfl)) (hw _ (List.mem_of_getElem? (i := 119) rfl)) (by decide) (own_uca30 l Z a0 hw qb_ e0_ e1_ e2_ e3_ e4_ e5_ cs fm hS hcs hAD hHI hLO hFM hfc ((sa_, own_ob Z "java/lang/String" [("value", "[B", (.ref qb_)), ("coder", "B", (.int (1)))]) :: L)) (W := 0) (argsL := [(.ref qb_), (.int (0))]) (rest := []) rfl rfl rfl own_pd18 rfl (Nat.le_of_eq rfl) (by decide) (by decide) (by decide) (by decide) (fun v T M hQ X => ?_)
  obtain ⟨rfl, rfl⟩ := hQ
  exact k_ireturn C X d_jdk_42_method_56_code_24 (by simp) (own_nch _) ⟨rfl, rfl⟩ (by decide) (by decide)
def rm_own_pci13 : Room := { frames := 0, cells := 0, slots := 0, locals := 0 }
set_option maxRecDepth 65536 in
set_option maxHeartbeats 40000000 in
theorem own_pci13 (l : Launch) (Z : State) (a0 : Array Value) (hw : ∀ d ∈ tables_1, d.before a0 Z = true) (fm_ : Value) (cs : Int32) (fm : Value) (hS : Sta Z Z.heap "java/lang/String" "COMPACT_STRINGS" "Z" (.int cs)) (hcs : ¬ cs = 0) (hAD : Sta Z Z.heap "java/lang/StringUTF16" "$assertionsDisabled" "Z" (.int 1)) (hHI : Sta Z Z.heap "java/lang/StringUTF16" "HI_BYTE_SHIFT" "I" (.int 0)) (hLO : Sta Z Z.heap "java/lang/StringUTF16" "LO_BYTE_SHIFT" "I" (.int 8)) (hFM : Sta Z Z.heap "jdk/internal/util/Preconditions" "SIOOBE_FORMATTER" "Ljava/util/function/BiFunction;" fm) (hfc : fm.category = 1) (hfm_ : fm_.category = 1) (L : List (Addr × (Cell → Prop))) :
    own_Con l Z (⟨"jdk/internal/util/Preconditions", "checkIndex", "(IILjava/util/function/BiFunction;)I"⟩ : MethodName) jdk_41_method_11_code 3 (some .int) rm_own_pci13 #[(.int (1)), (.int (3)), fm_] (L) (fun v M => v = some (.int (1)) ∧ M = L) := by
  refine own_con (ls := #[.val (.int (1)), .val (.int (3)), .val fm_]) (plainFor_of_name own_pn5) (fun m => own_ent m (by rw [own_locs1 (v := (.int (1))) rfl, own_locs1 (v := (.int (3))) rfl, own_locs1 hfm_]; rfl)) ?_
  intro p e s m below meth c T C X
  refine k_iloadN C X d_jdk_41_method_11_code_0 rfl rfl ?_
  refine k_if_lt C X d_jdk_41_method_11_code_1 rfl (tpc := 9) rfl (fun hc => (absurd hc (by decide) : False).elim) (fun _ => ?_)
  refine k_iloadN C X d_jdk_41_method_11_code_4 rfl rfl ?_
  refine k_iloadN C X d_jdk_41_method_11_code_5 rfl rfl ?_
  refine k_icmp_lt C X d_jdk_41_method_11_code_6 rfl (tpc := 16) rfl (fun _ => ?_) (fun hc => (absurd hc (by decide) : False).elim)
  refine k_iloadN C X d_jdk_41_method_11_code_16 rfl rfl ?_
  exact k_ireturn C X d_jdk_41_method_11_code_17 (by simp) rfl ⟨rfl, rfl⟩ (by decide) (by decide)
def rm_own_chk13 : Room := { frames := 1, cells := 0, slots := 0, locals := 14 }
set_option maxRecDepth 65536 in
set_option maxHeartbeats 40000000 in
theorem own_chk13 (l : Launch) (Z : State) (a0 : Array Value) (hw : ∀ d ∈ tables_1, d.before a0 Z = true)  (cs : Int32) (fm : Value) (hS : Sta Z Z.heap "java/lang/String" "COMPACT_STRINGS" "Z" (.int cs)) (hcs : ¬ cs = 0) (hAD : Sta Z Z.heap "java/lang/StringUTF16" "$assertionsDisabled" "Z" (.int 1)) (hHI : Sta Z Z.heap "java/lang/StringUTF16" "HI_BYTE_SHIFT" "I" (.int 0)) (hLO : Sta Z Z.heap "java/lang/StringUTF16" "LO_BYTE_SHIFT" "I" (.int 8)) (hFM : Sta Z Z.heap "jdk/internal/util/Preconditions" "SIOOBE_FORMATTER" "Ljava/util/function/BiFunction;" fm) (hfc : fm.category = 1) (L : List (Addr × (Cell → Prop))) :
    own_Con l Z (⟨"java/lang/String", "checkIndex", "(II)V"⟩ : MethodName) jdk_42_method_155_code 2 none rm_own_chk13 #[(.int (1)), (.int (3))] (L) (fun v M => v = none ∧ M = L) := by
  refine own_con (ls := #[.val (.int (1)), .val (.int (3))]) (plainFor_of_name own_pn0) (fun m => own_ent m rfl) ?_
  intro p e s m below meth c T C X
  refine k_iloadN C X d_jdk_42_method_155_code_0 rfl rfl ?_
  refine k_iloadN C X d_jdk_42_method_155_code_1 rfl rfl ?_
  refine k_getstatic C X d_jdk_42_method_155_code_2 rfl (hw _ (List.mem_of_getElem? (i := 93) rfl)) hFM (fun T X => ?_)
  refine k_static C X d_jdk_42_method_155_code_5 rfl (hw _ (List.mem_of_getElem? (i := 95) rfl)) (hw _ (List.mem_of_getElem? (i := 96) rfl)) (hw _ (List.mem_of_getElem? (i := 94) rfl)) (hw _ (List.mem_of_getElem? (i := 97) rfl)) (by decide) (own_pci13 l Z a0 hw fm cs fm hS hcs hAD hHI hLO hFM hfc hfc (L)) (W := 0) (argsL := [(.int (1)), (.int (3)), fm]) (rest := []) rfl rfl rfl own_pd14 rfl (Nat.le_of_eq rfl) (by decide) (by decide) (by decide) (by decide) (fun v T M hQ X => ?_)
  obtain ⟨rfl, hM_⟩ := hQ
  replace hM_ := hM_.symm
  subst hM_
  refine k_pop C X d_jdk_42_method_155_code_8 rfl rfl ?_
  exact k_return C X d_jdk_42_method_155_code_9 ⟨rfl, rfl⟩ (by decide) (by decide)
def rm_own_lca31 : Room := { frames := 2, cells := 0, slots := 0, locals := 27 }
set_option maxRecDepth 65536 in
set_option maxHeartbeats 40000000 in
theorem own_lca31 (l : Launch) (Z : State) (a0 : Array Value) (hw : ∀ d ∈ tables_1, d.before a0 Z = true) (qb_ : Addr) (e0_ : Int32) (e1_ : Int32) (e2_ : Int32) (cs : Int32) (fm : Value) (hS : Sta Z Z.heap "java/lang/String" "COMPACT_STRINGS" "Z" (.int cs)) (hcs : ¬ cs = 0) (hAD : Sta Z Z.heap "java/lang/StringUTF16" "$assertionsDisabled" "Z" (.int 1)) (hHI : Sta Z Z.heap "java/lang/StringUTF16" "HI_BYTE_SHIFT" "I" (.int 0)) (hLO : Sta Z Z.heap "java/lang/StringUTF16" "LO_BYTE_SHIFT" "I" (.int 8)) (hFM : Sta Z Z.heap "jdk/internal/util/Preconditions" "SIOOBE_FORMATTER" "Ljava/util/function/BiFunction;" fm) (hfc : fm.category = 1) (L : List (Addr × (Cell → Prop))) :
    own_Con l Z (⟨"java/lang/StringLatin1", "charAt", "([BI)C"⟩ : MethodName) jdk_43_method_2_code 2 (some .char) rm_own_lca31 #[(.ref qb_), (.int (1))] ((qb_, own_ar Z .byte [(.int e0_), (.int e1_), (.int e2_)]) :: L) (fun v M => v = some (.int ((e1_ &&& (255)).toUInt32.toUInt16.toUInt32.toInt32)) ∧ M = (qb_, own_ar Z .byte [(.int e0_), (.int e1_), (.int e2_)]) :: L) := by
  refine own_con (ls := #[.val (.ref qb_), .val (.int (1))]) (plainFor_of_name own_pn1) (fun m => own_ent m rfl) ?_
  intro p e s m below meth c T C X
  refine k_iloadN C X d_jdk_43_method_2_code_0 rfl rfl ?_
  refine k_aloadN C X d_jdk_43_method_2_code_1 rfl rfl rfl ?_
  refine k_arraylength C X d_jdk_43_method_2_code_2 rfl (ix := 0) rfl (z := (3)) rfl ?_
  refine k_static C X d_jdk_43_method_2_code_3 rfl (hw _ (List.mem_of_getElem? (i := 90) rfl)) (hw _ (List.mem_of_getElem? (i := 91) rfl)) (hw _ (List.mem_of_getElem? (i := 3) rfl)) (hw _ (List.mem_of_getElem? (i := 92) rfl)) (by decide) (own_chk13 l Z a0 hw cs fm hS hcs hAD hHI hLO hFM hfc ((qb_, own_ar Z .byte [(.int e0_), (.int e1_), (.int e2_)]) :: L)) (W := 0) (argsL := [(.int (1)), (.int (3))]) (rest := []) rfl rfl rfl own_pd15 rfl (Nat.le_of_eq rfl) (by decide) (by decide) (by decide) (by decide) (fun v T M hQ X => ?_)
  obtain ⟨rfl, rfl⟩ := hQ
  refine k_aloadN C X d_jdk_43_method_2_code_6 rfl rfl rfl ?_
  refine k_iloadN C X d_jdk_43_method_2_code_7 rfl rfl ?_
  refine k_baload C X d_jdk_43_method_2_code_8 rfl (ix := 0) (i := 1) rfl (by decide) (by decide) rfl ?_
  refine k_sipush C X d_jdk_43_method_2_code_9 rfl (v := 255) rfl ?_
  refine k_iand C X d_jdk_43_method_2_code_12 rfl ?_
  refine k_i2c C X d_jdk_43_method_2_code_13 rfl ?_
  exact k_ireturn C X d_jdk_43_method_2_code_14 (by simp) (own_nch _) ⟨rfl, rfl⟩ (by decide) (by decide)
def rm_own_uchk31 : Room := { frames := 2, cells := 0, slots := 0, locals := 27 }
set_option maxRecDepth 65536 in
set_option maxHeartbeats 40000000 in
theorem own_uchk31 (l : Launch) (Z : State) (a0 : Array Value) (hw : ∀ d ∈ tables_1, d.before a0 Z = true) (qb_ : Addr) (e0_ : Int32) (e1_ : Int32) (e2_ : Int32) (e3_ : Int32) (e4_ : Int32) (e5_ : Int32) (cs : Int32) (fm : Value) (hS : Sta Z Z.heap "java/lang/String" "COMPACT_STRINGS" "Z" (.int cs)) (hcs : ¬ cs = 0) (hAD : Sta Z Z.heap "java/lang/StringUTF16" "$assertionsDisabled" "Z" (.int 1)) (hHI : Sta Z Z.heap "java/lang/StringUTF16" "HI_BYTE_SHIFT" "I" (.int 0)) (hLO : Sta Z Z.heap "java/lang/StringUTF16" "LO_BYTE_SHIFT" "I" (.int 8)) (hFM : Sta Z Z.heap "jdk/internal/util/Preconditions" "SIOOBE_FORMATTER" "Ljava/util/function/BiFunction;" fm) (hfc : fm.category = 1) (L : List (Addr × (Cell → Prop))) :
    own_Con l Z (⟨"java/lang/StringUTF16", "checkIndex", "(I[B)V"⟩ : MethodName) jdk_52_method_91_code 2 none rm_own_uchk31 #[(.int (1)), (.ref qb_)] ((qb_, own_ar Z .byte [(.int e0_), (.int e1_), (.int e2_), (.int e3_), (.int e4_), (.int e5_)]) :: L) (fun v M => v = none ∧ M = (qb_, own_ar Z .byte [(.int e0_), (.int e1_), (.int e2_), (.int e3_), (.int e4_), (.int e5_)]) :: L) := by
  refine own_con (ls := #[.val (.int (1)), .val (.ref qb_)]) (plainFor_of_name own_pn2) (fun m => own_ent m rfl) ?_
  intro p e s m below meth c T C X
  refine k_iloadN C X d_jdk_52_method_91_code_0 rfl rfl ?_
  refine k_aloadN C X d_jdk_52_method_91_code_1 rfl rfl rfl ?_
  refine k_static C X d_jdk_52_method_91_code_2 rfl (hw _ (List.mem_of_getElem? (i := 123) rfl)) (hw _ (List.mem_of_getElem? (i := 124) rfl)) (hw _ (List.mem_of_getElem? (i := 68) rfl)) (hw _ (List.mem_of_getElem? (i := 125) rfl)) (by decide) (own_ulen3 l Z a0 hw qb_ e0_ e1_ e2_ e3_ e4_ e5_ cs fm hS hcs hAD hHI hLO hFM hfc (L)) (W := 1) (argsL := [(.ref qb_)]) (rest := [(.int (1))]) rfl rfl rfl own_pd16 rfl (Nat.le_of_eq rfl) (by decide) (by decide) (by decide) (by decide) (fun v T M hQ X => ?_)
  obtain ⟨rfl, rfl⟩ := hQ
  refine k_static C X d_jdk_52_method_91_code_5 rfl (hw _ (List.mem_of_getElem? (i := 126) rfl)) (hw _ (List.mem_of_getElem? (i := 91) rfl)) (hw _ (List.mem_of_getElem? (i := 3) rfl)) (hw _ (List.mem_of_getElem? (i := 92) rfl)) (by decide) (own_chk13 l Z a0 hw cs fm hS hcs hAD hHI hLO hFM hfc ((qb_, own_ar Z .byte [(.int e0_), (.int e1_), (.int e2_), (.int e3_), (.int e4_), (.int e5_)]) :: L)) (W := 0) (argsL := [(.int (1)), (.int (3))]) (rest := []) rfl rfl rfl own_pd15 rfl (Nat.le_of_eq rfl) (by decide) (by decide) (by decide) (by decide) (fun v T M hQ X => ?_)
  obtain ⟨rfl, rfl⟩ := hQ
  exact k_return C X d_jdk_52_method_91_code_8 ⟨rfl, rfl⟩ (by decide) (by decide)
def rm_own_get31 : Room := { frames := 0, cells := 0, slots := 0, locals := 0 }
set_option maxRecDepth 65536 in
set_option maxHeartbeats 40000000 in
theorem own_get31 (l : Launch) (Z : State) (a0 : Array Value) (hw : ∀ d ∈ tables_1, d.before a0 Z = true) (qb_ : Addr) (e0_ : Int32) (e1_ : Int32) (e2_ : Int32) (e3_ : Int32) (e4_ : Int32) (e5_ : Int32) (cs : Int32) (fm : Value) (hS : Sta Z Z.heap "java/lang/String" "COMPACT_STRINGS" "Z" (.int cs)) (hcs : ¬ cs = 0) (hAD : Sta Z Z.heap "java/lang/StringUTF16" "$assertionsDisabled" "Z" (.int 1)) (hHI : Sta Z Z.heap "java/lang/StringUTF16" "HI_BYTE_SHIFT" "I" (.int 0)) (hLO : Sta Z Z.heap "java/lang/StringUTF16" "LO_BYTE_SHIFT" "I" (.int 8)) (hFM : Sta Z Z.heap "jdk/internal/util/Preconditions" "SIOOBE_FORMATTER" "Ljava/util/function/BiFunction;" fm) (hfc : fm.category = 1) (L : List (Addr × (Cell → Prop))) :
    own_Con l Z (⟨"java/lang/StringUTF16", "getChar", "([BI)C"⟩ : MethodName) jdk_52_method_5_code 2 (some .char) rm_own_get31 #[(.ref qb_), (.int (1))] ((qb_, own_ar Z .byte [(.int e0_), (.int e1_), (.int e2_), (.int e3_), (.int e4_), (.int e5_)]) :: L) (fun v M => v = some (.int ((((e2_ &&& (255)) <<< ((0) &&& 31 : Int32) : Int32) ||| ((e3_ &&& (255)) <<< ((8) &&& 31 : Int32) : Int32)).toUInt32.toUInt16.toUInt32.toInt32)) ∧ M = (qb_, own_ar Z .byte [(.int e0_), (.int e1_), (.int e2_), (.int e3_), (.int e4_), (.int e5_)]) :: L) := by
  refine own_con (ls := #[.val (.ref qb_), .val (.int (1))]) (plainFor_of_name own_pn2) (fun m => own_ent m rfl) ?_
  intro p e s m below meth c T C X
  refine k_getstatic C X d_jdk_52_method_5_code_0 rfl (hw _ (List.mem_of_getElem? (i := 111) rfl)) hAD (fun T X => ?_)
  refine k_if_ne C X d_jdk_52_method_5_code_3 rfl (tpc := 28) rfl (fun _ => ?_) (fun hc => (absurd hc (by decide) : False).elim)
  refine k_iloadN C X d_jdk_52_method_5_code_28 rfl rfl ?_
  refine k_iconst C X d_jdk_52_method_5_code_29 rfl (v := 1) rfl ?_
  refine k_ishl C X d_jdk_52_method_5_code_30 rfl ?_
  refine k_istoreN C X d_jdk_52_method_5_code_31 rfl (l' := #[.val (.ref qb_), .val (.int (2))]) rfl ?_
  refine k_aloadN C X d_jdk_52_method_5_code_32 rfl rfl rfl ?_
  refine k_iloadN C X d_jdk_52_method_5_code_33 rfl rfl ?_
  refine k_iinc C X d_jdk_52_method_5_code_34 rfl (v := 1) rfl rfl (l' := #[.val (.ref qb_), .val (.int (3))]) rfl ?_
  refine k_baload C X d_jdk_52_method_5_code_37 rfl (ix := 0) (i := 2) rfl (by decide) (by decide) rfl ?_
  refine k_sipush C X d_jdk_52_method_5_code_38 rfl (v := 255) rfl ?_
  refine k_iand C X d_jdk_52_method_5_code_41 rfl ?_
  refine k_getstatic C X d_jdk_52_method_5_code_42 rfl (hw _ (List.mem_of_getElem? (i := 112) rfl)) hHI (fun T X => ?_)
  refine k_ishl C X d_jdk_52_method_5_code_45 rfl ?_
  refine k_aloadN C X d_jdk_52_method_5_code_46 rfl rfl rfl ?_
  refine k_iloadN C X d_jdk_52_method_5_code_47 rfl rfl ?_
  refine k_baload C X d_jdk_52_method_5_code_48 rfl (ix := 0) (i := 3) rfl (by decide) (by decide) rfl ?_
  refine k_sipush C X d_jdk_52_method_5_code_49 rfl (v := 255) rfl ?_
  refine k_iand C X d_jdk_52_method_5_code_52 rfl ?_
  refine k_getstatic C X d_jdk_52_method_5_code_53 rfl (hw _ (List.mem_of_getElem? (i := 113) rfl)) hLO (fun T X => ?_)
  refine k_ishl C X d_jdk_52_method_5_code_56 rfl ?_
  refine k_ior C X d_jdk_52_method_5_code_57 rfl ?_
  refine k_i2c C X d_jdk_52_method_5_code_58 rfl ?_
  exact k_ireturn C X d_jdk_52_method_5_code_59 (by simp) (own_nch _) ⟨rfl, rfl⟩ (by decide) (by decide)
def rm_own_uca31 : Room := { frames := 3, cells := 0, slots := 0, locals := 40 }
set_option maxRecDepth 65536 in
set_option maxHeartbeats 40000000 in
theorem own_uca31 (l : Launch) (Z : State) (a0 : Array Value) (hw : ∀ d ∈ tables_1, d.before a0 Z = true) (qb_ : Addr) (e0_ : Int32) (e1_ : Int32) (e2_ : Int32) (e3_ : Int32) (e4_ : Int32) (e5_ : Int32) (cs : Int32) (fm : Value) (hS : Sta Z Z.heap "java/lang/String" "COMPACT_STRINGS" "Z" (.int cs)) (hcs : ¬ cs = 0) (hAD : Sta Z Z.heap "java/lang/StringUTF16" "$assertionsDisabled" "Z" (.int 1)) (hHI : Sta Z Z.heap "java/lang/StringUTF16" "HI_BYTE_SHIFT" "I" (.int 0)) (hLO : Sta Z Z.heap "java/lang/StringUTF16" "LO_BYTE_SHIFT" "I" (.int 8)) (hFM : Sta Z Z.heap "jdk/internal/util/Preconditions" "SIOOBE_FORMATTER" "Ljava/util/function/BiFunction;" fm) (hfc : fm.category = 1) (L : List (Addr × (Cell → Prop))) :
    own_Con l Z (⟨"java/lang/StringUTF16", "charAt", "([BI)C"⟩ : MethodName) jdk_52_method_83_code 2 (some .char) rm_own_uca31 #[(.ref qb_), (.int (1))] ((qb_, own_ar Z .byte [(.int e0_), (.int e1_), (.int e2_), (.int e3_), (.int e4_), (.int e5_)]) :: L) (fun v M => v = some (.int ((((e2_ &&& (255)) <<< ((0) &&& 31 : Int32) : Int32) ||| ((e3_ &&& (255)) <<< ((8) &&& 31 : Int32) : Int32)).toUInt32.toUInt16.toUInt32.toInt32)) ∧ M = (qb_, own_ar Z .byte [(.int e0_), (.int e1_), (.int e2_), (.int e3_), (.int e4_), (.int e5_)]) :: L) := by
  refine own_con (ls := #[.val (.ref qb_), .val (.int (1))]) (plainFor_of_name own_pn2) (fun m => own_ent m rfl) ?_
  intro p e s m below meth c T C X
  refine k_iloadN C X d_jdk_52_method_83_code_0 rfl rfl ?_
  refine k_aloadN C X d_jdk_52_method_83_code_1 rfl rfl rfl ?_
  refine k_static C X d_jdk_52_method_83_code_2 rfl (hw _ (List.mem_of_getElem? (i := 120) rfl)) (hw _ (List.mem_of_getElem? (i := 121) rfl)) (hw _ (List.mem_of_getElem? (i := 68) rfl)) (hw _ (List.mem_of_getElem? (i := 122) rfl)) (by decide) (own_uchk31 l Z a0 hw qb_ e0_ e1_ e2_ e3_ e4_ e5_ cs fm hS hcs hAD hHI hLO hFM hfc (L)) (W := 0) (argsL := [(.int (1)), (.ref qb_)]) (rest := []) rfl rfl rfl own_pd17 rfl (Nat.le_of_eq rfl) (by decide) (by decide) (by decide) (by decide) (fun v T M hQ X => ?_)
  obtain ⟨rfl, rfl⟩ := hQ
  refine k_aloadN C X d_jdk_52_method_83_code_5 rfl rfl rfl ?_
  refine k_iloadN C X d_jdk_52_method_83_code_6 rfl rfl ?_
  refine k_static C X d_jdk_52_method_83_code_7 rfl (hw _ (List.mem_of_getElem? (i := 114) rfl)) (hw _ (List.mem_of_getElem? (i := 115) rfl)) (hw _ (List.mem_of_getElem? (i := 68) rfl)) (hw _ (List.mem_of_getElem? (i := 116) rfl)) (by decide) (own_get31 l Z a0 hw qb_ e0_ e1_ e2_ e3_ e4_ e5_ cs fm hS hcs hAD hHI hLO hFM hfc (L)) (W := 0) (argsL := [(.ref qb_), (.int (1))]) (rest := []) rfl rfl rfl own_pd18 rfl (Nat.le_of_eq rfl) (by decide) (by decide) (by decide) (by decide) (fun v T M hQ X => ?_)
  obtain ⟨rfl, rfl⟩ := hQ
  exact k_ireturn C X d_jdk_52_method_83_code_10 (by simp) (own_nch _) ⟨rfl, rfl⟩ (by decide) (by decide)
def rm_own_cha311 : Room := { frames := 4, cells := 0, slots := 0, locals := 53 }
set_option maxRecDepth 65536 in
set_option maxHeartbeats 40000000 in
theorem own_cha311 (l : Launch) (Z : State) (a0 : Array Value) (hw : ∀ d ∈ tables_1, d.before a0 Z = true) (sa_ : Addr) (qb_ : Addr) (e0_ : Int32) (e1_ : Int32) (e2_ : Int32) (e3_ : Int32) (e4_ : Int32) (e5_ : Int32) (cs : Int32) (fm : Value) (hS : Sta Z Z.heap "java/lang/String" "COMPACT_STRINGS" "Z" (.int cs)) (hcs : ¬ cs = 0) (hAD : Sta Z Z.heap "java/lang/StringUTF16" "$assertionsDisabled" "Z" (.int 1)) (hHI : Sta Z Z.heap "java/lang/StringUTF16" "HI_BYTE_SHIFT" "I" (.int 0)) (hLO : Sta Z Z.heap "java/lang/StringUTF16" "LO_BYTE_SHIFT" "I" (.int 8)) (hFM : Sta Z Z.heap "jdk/internal/util/Preconditions" "SIOOBE_FORMATTER" "Ljava/util/function/BiFunction;" fm) (hfc : fm.category = 1) (L : List (Addr × (Cell → Prop))) :
    own_Con l Z (⟨"java/lang/String", "charAt", "(I)C"⟩ : MethodName) jdk_42_method_56_code 2 (some .char) rm_own_cha311 #[(.ref sa_), (.int (1))] ((sa_, own_ob Z "java/lang/String" [("value", "[B", (.ref qb_)), ("coder", "B", (.int (1)))]) :: (qb_, own_ar Z .byte [(.int e0_), (.int e1_), (.int e2_), (.int e3_), (.int e4_), (.int e5_)]) :: L) (fun v M => v = some (.int ((((e2_ &&& (255)) <<< ((0) &&& 31 : Int32) : Int32) ||| ((e3_ &&& (255)) <<< ((8) &&& 31 : Int32) : Int32)).toUInt32.toUInt16.toUInt32.toInt32)) ∧ M = (qb_, own_ar Z .byte [(.int e0_), (.int e1_), (.int e2_), (.int e3_), (.int e4_), (.int e5_)]) :: (sa_, own_ob Z "java/lang/String" [("value", "[B", (.ref qb_)), ("coder", "B", (.int (1)))]) :: L) := by
  refine own_con (ls := #[.val (.ref sa_), .val (.int (1))]) (plainFor_of_name own_pn0) (fun m => own_ent m rfl) ?_
  intro p e s m below meth c T C X
  refine k_aloadN C X d_jdk_42_method_56_code_0 rfl rfl rfl ?_
  refine k_virtual C X d_jdk_42_method_56_code_1 rfl (hw _ (List.mem_of_getElem? (i := 81) rfl)) (hw _ (List.mem_of_getElem? (i := 82) rfl)) (hw _ (List.mem_of_getElem? (i := 3) rfl)) (hw _ (List.mem_of_getElem? (i := 85) rfl)) (hw _ (List.mem_of_getElem? (i := 84) rfl)) (hw _ (List.mem_of_getElem? (i := 83) rfl)) (by decide) (own_nf C.2.2.2.1 (hw _ (List.mem_of_getElem? (i := 84) rfl))) (own_eL (ix := 0) rfl) (own_isl1 l Z a0 hw sa_ qb_ cs fm hS hcs hAD hHI hLO hFM hfc ((qb_, own_ar Z .byte [(.int e0_), (.int e1_), (.int e2_), (.int e3_), (.int e4_), (.int e5_)]) :: L)) (W := 0) (argsL := []) (rest := []) rfl rfl rfl own_pd19 rfl (Nat.le_of_eq rfl) (by decide) (by decide) (by decide) (by decide) (fun v T M hQ X => ?_)
  obtain ⟨rfl, rfl⟩ := hQ
  refine k_if_eq C X d_jdk_42_method_56_code_4 rfl (tpc := 16) rfl (fun _ => ?_) (fun hc => (absurd hc (by decide) : False).elim)
  refine k_aloadN C X d_jdk_42_method_56_code_16 rfl rfl rfl ?_
  refine k_getfield C X d_jdk_42_method_56_code_17 rfl (host := "") (Or.inl (hw _ (List.mem_of_getElem? (i := 21) rfl))) (own_fL (ix := 0) (j := 0) rfl rfl) (fun T X => ?_)
  refine k_iloadN C X d_jdk_42_method_56_code_20 rfl rfl ?_
  replace X := X.bring (i := 1) rfl (M := (qb_, own_ar Z .byte [(.int e0_), (.int e1_), (.int e2_), (.int e3_), (.int e4_), (.int e5_)]) :: (sa_, own_ob Z "java/lang/String" [("value", "[B", (.ref qb_)), ("coder", "B", (.int (1)))]) :: L) rfl
  refine k_static C X d_jdk_42_method_56_code_21 rfl (hw _ (List.mem_of_getElem? (i := 117) rfl)) (hw _ (List.mem_of_getElem? (i := 118) rfl)) (hw _ (List.mem_of_getElem? (i := 68) rfl)) (hw _ (List.mem_of_getElem? (i := 119) rfl)) (by decide) (own_uca31 l Z a0 hw qb_ e0_ e1_ e2_ e3_ e4_ e5_ cs fm hS hcs hAD hHI hLO hFM hfc ((sa_, own_ob Z "java/lang/String" [("value", "[B", (.ref qb_)), ("coder", "B", (.int (1)))]) :: L)) (W := 0) (argsL := [(.ref qb_), (.int (1))]) (rest := []) rfl rfl rfl own_pd18 rfl (Nat.le_of_eq rfl) (by decide) (by decide) (by decide) (by decide) (fun v T M hQ X => ?_)
  obtain ⟨rfl, rfl⟩ := hQ
  exact k_ireturn C X d_jdk_42_method_56_code_24 (by simp) (own_nch _) ⟨rfl, rfl⟩ (by decide) (by decide)
def rm_own_pci23 : Room := { frames := 0, cells := 0, slots := 0, locals := 0 }
set_option maxRecDepth 65536 in
set_option maxHeartbeats 40000000 in
theorem own_pci23 (l : Launch) (Z : State) (a0 : Array Value) (hw : ∀ d ∈ tables_1, d.before a0 Z = true) (fm_ : Value) (cs : Int32) (fm : Value) (hS : Sta Z Z.heap "java/lang/String" "COMPACT_STRINGS" "Z" (.int cs)) (hcs : ¬ cs = 0) (hAD : Sta Z Z.heap "java/lang/StringUTF16" "$assertionsDisabled" "Z" (.int 1)) (hHI : Sta Z Z.heap "java/lang/StringUTF16" "HI_BYTE_SHIFT" "I" (.int 0)) (hLO : Sta Z Z.heap "java/lang/StringUTF16" "LO_BYTE_SHIFT" "I" (.int 8)) (hFM : Sta Z Z.heap "jdk/internal/util/Preconditions" "SIOOBE_FORMATTER" "Ljava/util/function/BiFunction;" fm) (hfc : fm.category = 1) (hfm_ : fm_.category = 1) (L : List (Addr × (Cell → Prop))) :
    own_Con l Z (⟨"jdk/internal/util/Preconditions", "checkIndex", "(IILjava/util/function/BiFunction;)I"⟩ : MethodName) jdk_41_method_11_code 3 (some .int) rm_own_pci23 #[(.int (2)), (.int (3)), fm_] (L) (fun v M => v = some (.int (2)) ∧ M = L) := by
  refine own_con (ls := #[.val (.int (2)), .val (.int (3)), .val fm_]) (plainFor_of_name own_pn5) (fun m => own_ent m (by rw [own_locs1 (v := (.int (2))) rfl, own_locs1 (v := (.int (3))) rfl, own_locs1 hfm_]; rfl)) ?_
  intro p e s m below meth c T C X
  refine k_iloadN C X d_jdk_41_method_11_code_0 rfl rfl ?_
  refine k_if_lt C X d_jdk_41_method_11_code_1 rfl (tpc := 9) rfl (fun hc => (absurd hc (by decide) : False).elim) (fun _ => ?_)
  refine k_iloadN C X d_jdk_41_method_11_code_4 rfl rfl ?_
  refine k_iloadN C X d_jdk_41_method_11_code_5 rfl rfl ?_
  refine k_icmp_lt C X d_jdk_41_method_11_code_6 rfl (tpc := 16) rfl (fun _ => ?_) (fun hc => (absurd hc (by decide) : False).elim)
  refine k_iloadN C X d_jdk_41_method_11_code_16 rfl rfl ?_
  exact k_ireturn C X d_jdk_41_method_11_code_17 (by simp) rfl ⟨rfl, rfl⟩ (by decide) (by decide)
def rm_own_chk23 : Room := { frames := 1, cells := 0, slots := 0, locals := 14 }
set_option maxRecDepth 65536 in
set_option maxHeartbeats 40000000 in
theorem own_chk23 (l : Launch) (Z : State) (a0 : Array Value) (hw : ∀ d ∈ tables_1, d.before a0 Z = true)  (cs : Int32) (fm : Value) (hS : Sta Z Z.heap "java/lang/String" "COMPACT_STRINGS" "Z" (.int cs)) (hcs : ¬ cs = 0) (hAD : Sta Z Z.heap "java/lang/StringUTF16" "$assertionsDisabled" "Z" (.int 1)) (hHI : Sta Z Z.heap "java/lang/StringUTF16" "HI_BYTE_SHIFT" "I" (.int 0)) (hLO : Sta Z Z.heap "java/lang/StringUTF16" "LO_BYTE_SHIFT" "I" (.int 8)) (hFM : Sta Z Z.heap "jdk/internal/util/Preconditions" "SIOOBE_FORMATTER" "Ljava/util/function/BiFunction;" fm) (hfc : fm.category = 1) (L : List (Addr × (Cell → Prop))) :
    own_Con l Z (⟨"java/lang/String", "checkIndex", "(II)V"⟩ : MethodName) jdk_42_method_155_code 2 none rm_own_chk23 #[(.int (2)), (.int (3))] (L) (fun v M => v = none ∧ M = L) := by
  refine own_con (ls := #[.val (.int (2)), .val (.int (3))]) (plainFor_of_name own_pn0) (fun m => own_ent m rfl) ?_
  intro p e s m below meth c T C X
  refine k_iloadN C X d_jdk_42_method_155_code_0 rfl rfl ?_
  refine k_iloadN C X d_jdk_42_method_155_code_1 rfl rfl ?_
  refine k_getstatic C X d_jdk_42_method_155_code_2 rfl (hw _ (List.mem_of_getElem? (i := 93) rfl)) hFM (fun T X => ?_)
  refine k_static C X d_jdk_42_method_155_code_5 rfl (hw _ (List.mem_of_getElem? (i := 95) rfl)) (hw _ (List.mem_of_getElem? (i := 96) rfl)) (hw _ (List.mem_of_getElem? (i := 94) rfl)) (hw _ (List.mem_of_getElem? (i := 97) rfl)) (by decide) (own_pci23 l Z a0 hw fm cs fm hS hcs hAD hHI hLO hFM hfc hfc (L)) (W := 0) (argsL := [(.int (2)), (.int (3)), fm]) (rest := []) rfl rfl rfl own_pd14 rfl (Nat.le_of_eq rfl) (by decide) (by decide) (by decide) (by decide) (fun v T M hQ X => ?_)
  obtain ⟨rfl, hM_⟩ := hQ
  replace hM_ := hM_.symm
  subst hM_
  refine k_pop C X d_jdk_42_method_155_code_8 rfl rfl ?_
  exact k_return C X d_jdk_42_method_155_code_9 ⟨rfl, rfl⟩ (by decide) (by decide)
def rm_own_lca32 : Room := { frames := 2, cells := 0, slots := 0, locals := 27 }
set_option maxRecDepth 65536 in
set_option maxHeartbeats 40000000 in
theorem own_lca32 (l : Launch) (Z : State) (a0 : Array Value) (hw : ∀ d ∈ tables_1, d.before a0 Z = true) (qb_ : Addr) (e0_ : Int32) (e1_ : Int32) (e2_ : Int32) (cs : Int32) (fm : Value) (hS : Sta Z Z.heap "java/lang/String" "COMPACT_STRINGS" "Z" (.int cs)) (hcs : ¬ cs = 0) (hAD : Sta Z Z.heap "java/lang/StringUTF16" "$assertionsDisabled" "Z" (.int 1)) (hHI : Sta Z Z.heap "java/lang/StringUTF16" "HI_BYTE_SHIFT" "I" (.int 0)) (hLO : Sta Z Z.heap "java/lang/StringUTF16" "LO_BYTE_SHIFT" "I" (.int 8)) (hFM : Sta Z Z.heap "jdk/internal/util/Preconditions" "SIOOBE_FORMATTER" "Ljava/util/function/BiFunction;" fm) (hfc : fm.category = 1) (L : List (Addr × (Cell → Prop))) :
    own_Con l Z (⟨"java/lang/StringLatin1", "charAt", "([BI)C"⟩ : MethodName) jdk_43_method_2_code 2 (some .char) rm_own_lca32 #[(.ref qb_), (.int (2))] ((qb_, own_ar Z .byte [(.int e0_), (.int e1_), (.int e2_)]) :: L) (fun v M => v = some (.int ((e2_ &&& (255)).toUInt32.toUInt16.toUInt32.toInt32)) ∧ M = (qb_, own_ar Z .byte [(.int e0_), (.int e1_), (.int e2_)]) :: L) := by
  refine own_con (ls := #[.val (.ref qb_), .val (.int (2))]) (plainFor_of_name own_pn1) (fun m => own_ent m rfl) ?_
  intro p e s m below meth c T C X
  refine k_iloadN C X d_jdk_43_method_2_code_0 rfl rfl ?_
  refine k_aloadN C X d_jdk_43_method_2_code_1 rfl rfl rfl ?_
  refine k_arraylength C X d_jdk_43_method_2_code_2 rfl (ix := 0) rfl (z := (3)) rfl ?_
  refine k_static C X d_jdk_43_method_2_code_3 rfl (hw _ (List.mem_of_getElem? (i := 90) rfl)) (hw _ (List.mem_of_getElem? (i := 91) rfl)) (hw _ (List.mem_of_getElem? (i := 3) rfl)) (hw _ (List.mem_of_getElem? (i := 92) rfl)) (by decide) (own_chk23 l Z a0 hw cs fm hS hcs hAD hHI hLO hFM hfc ((qb_, own_ar Z .byte [(.int e0_), (.int e1_), (.int e2_)]) :: L)) (W := 0) (argsL := [(.int (2)), (.int (3))]) (rest := []) rfl rfl rfl own_pd15 rfl (Nat.le_of_eq rfl) (by decide) (by decide) (by decide) (by decide) (fun v T M hQ X => ?_)
  obtain ⟨rfl, rfl⟩ := hQ
  refine k_aloadN C X d_jdk_43_method_2_code_6 rfl rfl rfl ?_
  refine k_iloadN C X d_jdk_43_method_2_code_7 rfl rfl ?_
  refine k_baload C X d_jdk_43_method_2_code_8 rfl (ix := 0) (i := 2) rfl (by decide) (by decide) rfl ?_
  refine k_sipush C X d_jdk_43_method_2_code_9 rfl (v := 255) rfl ?_
  refine k_iand C X d_jdk_43_method_2_code_12 rfl ?_
  refine k_i2c C X d_jdk_43_method_2_code_13 rfl ?_
  exact k_ireturn C X d_jdk_43_method_2_code_14 (by simp) (own_nch _) ⟨rfl, rfl⟩ (by decide) (by decide)
def rm_own_uchk32 : Room := { frames := 2, cells := 0, slots := 0, locals := 27 }
set_option maxRecDepth 65536 in
set_option maxHeartbeats 40000000 in
theorem own_uchk32 (l : Launch) (Z : State) (a0 : Array Value) (hw : ∀ d ∈ tables_1, d.before a0 Z = true) (qb_ : Addr) (e0_ : Int32) (e1_ : Int32) (e2_ : Int32) (e3_ : Int32) (e4_ : Int32) (e5_ : Int32) (cs : Int32) (fm : Value) (hS : Sta Z Z.heap "java/lang/String" "COMPACT_STRINGS" "Z" (.int cs)) (hcs : ¬ cs = 0) (hAD : Sta Z Z.heap "java/lang/StringUTF16" "$assertionsDisabled" "Z" (.int 1)) (hHI : Sta Z Z.heap "java/lang/StringUTF16" "HI_BYTE_SHIFT" "I" (.int 0)) (hLO : Sta Z Z.heap "java/lang/StringUTF16" "LO_BYTE_SHIFT" "I" (.int 8)) (hFM : Sta Z Z.heap "jdk/internal/util/Preconditions" "SIOOBE_FORMATTER" "Ljava/util/function/BiFunction;" fm) (hfc : fm.category = 1) (L : List (Addr × (Cell → Prop))) :
    own_Con l Z (⟨"java/lang/StringUTF16", "checkIndex", "(I[B)V"⟩ : MethodName) jdk_52_method_91_code 2 none rm_own_uchk32 #[(.int (2)), (.ref qb_)] ((qb_, own_ar Z .byte [(.int e0_), (.int e1_), (.int e2_), (.int e3_), (.int e4_), (.int e5_)]) :: L) (fun v M => v = none ∧ M = (qb_, own_ar Z .byte [(.int e0_), (.int e1_), (.int e2_), (.int e3_), (.int e4_), (.int e5_)]) :: L) := by
  refine own_con (ls := #[.val (.int (2)), .val (.ref qb_)]) (plainFor_of_name own_pn2) (fun m => own_ent m rfl) ?_
  intro p e s m below meth c T C X
  refine k_iloadN C X d_jdk_52_method_91_code_0 rfl rfl ?_
  refine k_aloadN C X d_jdk_52_method_91_code_1 rfl rfl rfl ?_
  refine k_static C X d_jdk_52_method_91_code_2 rfl (hw _ (List.mem_of_getElem? (i := 123) rfl)) (hw _ (List.mem_of_getElem? (i := 124) rfl)) (hw _ (List.mem_of_getElem? (i := 68) rfl)) (hw _ (List.mem_of_getElem? (i := 125) rfl)) (by decide) (own_ulen3 l Z a0 hw qb_ e0_ e1_ e2_ e3_ e4_ e5_ cs fm hS hcs hAD hHI hLO hFM hfc (L)) (W := 1) (argsL := [(.ref qb_)]) (rest := [(.int (2))]) rfl rfl rfl own_pd16 rfl (Nat.le_of_eq rfl) (by decide) (by decide) (by decide) (by decide) (fun v T M hQ X => ?_)
  obtain ⟨rfl, rfl⟩ := hQ
  refine k_static C X d_jdk_52_method_91_code_5 rfl (hw _ (List.mem_of_getElem? (i := 126) rfl)) (hw _ (List.mem_of_getElem? (i := 91) rfl)) (hw _ (List.mem_of_getElem? (i := 3) rfl)) (hw _ (List.mem_of_getElem? (i := 92) rfl)) (by decide) (own_chk23 l Z a0 hw cs fm hS hcs hAD hHI hLO hFM hfc ((qb_, own_ar Z .byte [(.int e0_), (.int e1_), (.int e2_), (.int e3_), (.int e4_), (.int e5_)]) :: L)) (W := 0) (argsL := [(.int (2)), (.int (3))]) (rest := []) rfl rfl rfl own_pd15 rfl (Nat.le_of_eq rfl) (by decide) (by decide) (by decide) (by decide) (fun v T M hQ X => ?_)
  obtain ⟨rfl, rfl⟩ := hQ
  exact k_return C X d_jdk_52_method_91_code_8 ⟨rfl, rfl⟩ (by decide) (by decide)
def rm_own_get32 : Room := { frames := 0, cells := 0, slots := 0, locals := 0 }
set_option maxRecDepth 65536 in
set_option maxHeartbeats 40000000 in
theorem own_get32 (l : Launch) (Z : State) (a0 : Array Value) (hw : ∀ d ∈ tables_1, d.before a0 Z = true) (qb_ : Addr) (e0_ : Int32) (e1_ : Int32) (e2_ : Int32) (e3_ : Int32) (e4_ : Int32) (e5_ : Int32) (cs : Int32) (fm : Value) (hS : Sta Z Z.heap "java/lang/String" "COMPACT_STRINGS" "Z" (.int cs)) (hcs : ¬ cs = 0) (hAD : Sta Z Z.heap "java/lang/StringUTF16" "$assertionsDisabled" "Z" (.int 1)) (hHI : Sta Z Z.heap "java/lang/StringUTF16" "HI_BYTE_SHIFT" "I" (.int 0)) (hLO : Sta Z Z.heap "java/lang/StringUTF16" "LO_BYTE_SHIFT" "I" (.int 8)) (hFM : Sta Z Z.heap "jdk/internal/util/Preconditions" "SIOOBE_FORMATTER" "Ljava/util/function/BiFunction;" fm) (hfc : fm.category = 1) (L : List (Addr × (Cell → Prop))) :
    own_Con l Z (⟨"java/lang/StringUTF16", "getChar", "([BI)C"⟩ : MethodName) jdk_52_method_5_code 2 (some .char) rm_own_get32 #[(.ref qb_), (.int (2))] ((qb_, own_ar Z .byte [(.int e0_), (.int e1_), (.int e2_), (.int e3_), (.int e4_), (.int e5_)]) :: L) (fun v M => v = some (.int ((((e4_ &&& (255)) <<< ((0) &&& 31 : Int32) : Int32) ||| ((e5_ &&& (255)) <<< ((8) &&& 31 : Int32) : Int32)).toUInt32.toUInt16.toUInt32.toInt32)) ∧ M = (qb_, own_ar Z .byte [(.int e0_), (.int e1_), (.int e2_), (.int e3_), (.int e4_), (.int e5_)]) :: L) := by
  refine own_con (ls := #[.val (.ref qb_), .val (.int (2))]) (plainFor_of_name own_pn2) (fun m => own_ent m rfl) ?_
  intro p e s m below meth c T C X
  refine k_getstatic C X d_jdk_52_method_5_code_0 rfl (hw _ (List.mem_of_getElem? (i := 111) rfl)) hAD (fun T X => ?_)
  refine k_if_ne C X d_jdk_52_method_5_code_3 rfl (tpc := 28) rfl (fun _ => ?_) (fun hc => (absurd hc (by decide) : False).elim)
  refine k_iloadN C X d_jdk_52_method_5_code_28 rfl rfl ?_
  refine k_iconst C X d_jdk_52_method_5_code_29 rfl (v := 1) rfl ?_
  refine k_ishl C X d_jdk_52_method_5_code_30 rfl ?_
  refine k_istoreN C X d_jdk_52_method_5_code_31 rfl (l' := #[.val (.ref qb_), .val (.int (4))]) rfl ?_
  refine k_aloadN C X d_jdk_52_method_5_code_32 rfl rfl rfl ?_
  refine k_iloadN C X d_jdk_52_method_5_code_33 rfl rfl ?_
  refine k_iinc C X d_jdk_52_method_5_code_34 rfl (v := 1) rfl rfl (l' := #[.val (.ref qb_), .val (.int (5))]) rfl ?_
  refine k_baload C X d_jdk_52_method_5_code_37 rfl (ix := 0) (i := 4) rfl (by decide) (by decide) rfl ?_
  refine k_sipush C X d_jdk_52_method_5_code_38 rfl (v := 255) rfl ?_
  refine k_iand C X d_jdk_52_method_5_code_41 rfl ?_
  refine k_getstatic C X d_jdk_52_method_5_code_42 rfl (hw _ (List.mem_of_getElem? (i := 112) rfl)) hHI (fun T X => ?_)
  refine k_ishl C X d_jdk_52_method_5_code_45 rfl ?_
  refine k_aloadN C X d_jdk_52_method_5_code_46 rfl rfl rfl ?_
  refine k_iloadN C X d_jdk_52_method_5_code_47 rfl rfl ?_
  refine k_baload C X d_jdk_52_method_5_code_48 rfl (ix := 0) (i := 5) rfl (by decide) (by decide) rfl ?_
  refine k_sipush C X d_jdk_52_method_5_code_49 rfl (v := 255) rfl ?_
  refine k_iand C X d_jdk_52_method_5_code_52 rfl ?_
  refine k_getstatic C X d_jdk_52_method_5_code_53 rfl (hw _ (List.mem_of_getElem? (i := 113) rfl)) hLO (fun T X => ?_)
  refine k_ishl C X d_jdk_52_method_5_code_56 rfl ?_
  refine k_ior C X d_jdk_52_method_5_code_57 rfl ?_
  refine k_i2c C X d_jdk_52_method_5_code_58 rfl ?_
  exact k_ireturn C X d_jdk_52_method_5_code_59 (by simp) (own_nch _) ⟨rfl, rfl⟩ (by decide) (by decide)
def rm_own_uca32 : Room := { frames := 3, cells := 0, slots := 0, locals := 40 }
set_option maxRecDepth 65536 in
set_option maxHeartbeats 40000000 in
theorem own_uca32 (l : Launch) (Z : State) (a0 : Array Value) (hw : ∀ d ∈ tables_1, d.before a0 Z = true) (qb_ : Addr) (e0_ : Int32) (e1_ : Int32) (e2_ : Int32) (e3_ : Int32) (e4_ : Int32) (e5_ : Int32) (cs : Int32) (fm : Value) (hS : Sta Z Z.heap "java/lang/String" "COMPACT_STRINGS" "Z" (.int cs)) (hcs : ¬ cs = 0) (hAD : Sta Z Z.heap "java/lang/StringUTF16" "$assertionsDisabled" "Z" (.int 1)) (hHI : Sta Z Z.heap "java/lang/StringUTF16" "HI_BYTE_SHIFT" "I" (.int 0)) (hLO : Sta Z Z.heap "java/lang/StringUTF16" "LO_BYTE_SHIFT" "I" (.int 8)) (hFM : Sta Z Z.heap "jdk/internal/util/Preconditions" "SIOOBE_FORMATTER" "Ljava/util/function/BiFunction;" fm) (hfc : fm.category = 1) (L : List (Addr × (Cell → Prop))) :
    own_Con l Z (⟨"java/lang/StringUTF16", "charAt", "([BI)C"⟩ : MethodName) jdk_52_method_83_code 2 (some .char) rm_own_uca32 #[(.ref qb_), (.int (2))] ((qb_, own_ar Z .byte [(.int e0_), (.int e1_), (.int e2_), (.int e3_), (.int e4_), (.int e5_)]) :: L) (fun v M => v = some (.int ((((e4_ &&& (255)) <<< ((0) &&& 31 : Int32) : Int32) ||| ((e5_ &&& (255)) <<< ((8) &&& 31 : Int32) : Int32)).toUInt32.toUInt16.toUInt32.toInt32)) ∧ M = (qb_, own_ar Z .byte [(.int e0_), (.int e1_), (.int e2_), (.int e3_), (.int e4_), (.int e5_)]) :: L) := by
  refine own_con (ls := #[.val (.ref qb_), .val (.int (2))]) (plainFor_of_name own_pn2) (fun m => own_ent m rfl) ?_
  intro p e s m below meth c T C X
  refine k_iloadN C X d_jdk_52_method_83_code_0 rfl rfl ?_
  refine k_aloadN C X d_jdk_52_method_83_code_1 rfl rfl rfl ?_
  refine k_static C X d_jdk_52_method_83_code_2 rfl (hw _ (List.mem_of_getElem? (i := 120) rfl)) (hw _ (List.mem_of_getElem? (i := 121) rfl)) (hw _ (List.mem_of_getElem? (i := 68) rfl)) (hw _ (List.mem_of_getElem? (i := 122) rfl)) (by decide) (own_uchk32 l Z a0 hw qb_ e0_ e1_ e2_ e3_ e4_ e5_ cs fm hS hcs hAD hHI hLO hFM hfc (L)) (W := 0) (argsL := [(.int (2)), (.ref qb_)]) (rest := []) rfl rfl rfl own_pd17 rfl (Nat.le_of_eq rfl) (by decide) (by decide) (by decide) (by decide) (fun v T M hQ X => ?_)
  obtain ⟨rfl, rfl⟩ := hQ
  refine k_aloadN C X d_jdk_52_method_83_code_5 rfl rfl rfl ?_
  refine k_iloadN C X d_jdk_52_method_83_code_6 rfl rfl ?_
  refine k_static C X d_jdk_52_method_83_code_7 rfl (hw _ (List.mem_of_getElem? (i := 114) rfl)) (hw _ (List.mem_of_getElem? (i := 115) rfl)) (hw _ (List.mem_of_getElem? (i := 68) rfl)) (hw _ (List.mem_of_getElem? (i := 116) rfl)) (by decide) (own_get32 l Z a0 hw qb_ e0_ e1_ e2_ e3_ e4_ e5_ cs fm hS hcs hAD hHI hLO hFM hfc (L)) (W := 0) (argsL := [(.ref qb_), (.int (2))]) (rest := []) rfl rfl rfl own_pd18 rfl (Nat.le_of_eq rfl) (by decide) (by decide) (by decide) (by decide) (fun v T M hQ X => ?_)
  obtain ⟨rfl, rfl⟩ := hQ
  exact k_ireturn C X d_jdk_52_method_83_code_10 (by simp) (own_nch _) ⟨rfl, rfl⟩ (by decide) (by decide)
def rm_own_cha312 : Room := { frames := 4, cells := 0, slots := 0, locals := 53 }
set_option maxRecDepth 65536 in
set_option maxHeartbeats 40000000 in
theorem own_cha312 (l : Launch) (Z : State) (a0 : Array Value) (hw : ∀ d ∈ tables_1, d.before a0 Z = true) (sa_ : Addr) (qb_ : Addr) (e0_ : Int32) (e1_ : Int32) (e2_ : Int32) (e3_ : Int32) (e4_ : Int32) (e5_ : Int32) (cs : Int32) (fm : Value) (hS : Sta Z Z.heap "java/lang/String" "COMPACT_STRINGS" "Z" (.int cs)) (hcs : ¬ cs = 0) (hAD : Sta Z Z.heap "java/lang/StringUTF16" "$assertionsDisabled" "Z" (.int 1)) (hHI : Sta Z Z.heap "java/lang/StringUTF16" "HI_BYTE_SHIFT" "I" (.int 0)) (hLO : Sta Z Z.heap "java/lang/StringUTF16" "LO_BYTE_SHIFT" "I" (.int 8)) (hFM : Sta Z Z.heap "jdk/internal/util/Preconditions" "SIOOBE_FORMATTER" "Ljava/util/function/BiFunction;" fm) (hfc : fm.category = 1) (L : List (Addr × (Cell → Prop))) :
    own_Con l Z (⟨"java/lang/String", "charAt", "(I)C"⟩ : MethodName) jdk_42_method_56_code 2 (some .char) rm_own_cha312 #[(.ref sa_), (.int (2))] ((sa_, own_ob Z "java/lang/String" [("value", "[B", (.ref qb_)), ("coder", "B", (.int (1)))]) :: (qb_, own_ar Z .byte [(.int e0_), (.int e1_), (.int e2_), (.int e3_), (.int e4_), (.int e5_)]) :: L) (fun v M => v = some (.int ((((e4_ &&& (255)) <<< ((0) &&& 31 : Int32) : Int32) ||| ((e5_ &&& (255)) <<< ((8) &&& 31 : Int32) : Int32)).toUInt32.toUInt16.toUInt32.toInt32)) ∧ M = (qb_, own_ar Z .byte [(.int e0_), (.int e1_), (.int e2_), (.int e3_), (.int e4_), (.int e5_)]) :: (sa_, own_ob Z "java/lang/String" [("value", "[B", (.ref qb_)), ("coder", "B", (.int (1)))]) :: L) := by
  refine own_con (ls := #[.val (.ref sa_), .val (.int (2))]) (plainFor_of_name own_pn0) (fun m => own_ent m rfl) ?_
  intro p e s m below meth c T C X
  refine k_aloadN C X d_jdk_42_method_56_code_0 rfl rfl rfl ?_
  refine k_virtual C X d_jdk_42_method_56_code_1 rfl (hw _ (List.mem_of_getElem? (i := 81) rfl)) (hw _ (List.mem_of_getElem? (i := 82) rfl)) (hw _ (List.mem_of_getElem? (i := 3) rfl)) (hw _ (List.mem_of_getElem? (i := 85) rfl)) (hw _ (List.mem_of_getElem? (i := 84) rfl)) (hw _ (List.mem_of_getElem? (i := 83) rfl)) (by decide) (own_nf C.2.2.2.1 (hw _ (List.mem_of_getElem? (i := 84) rfl))) (own_eL (ix := 0) rfl) (own_isl1 l Z a0 hw sa_ qb_ cs fm hS hcs hAD hHI hLO hFM hfc ((qb_, own_ar Z .byte [(.int e0_), (.int e1_), (.int e2_), (.int e3_), (.int e4_), (.int e5_)]) :: L)) (W := 0) (argsL := []) (rest := []) rfl rfl rfl own_pd19 rfl (Nat.le_of_eq rfl) (by decide) (by decide) (by decide) (by decide) (fun v T M hQ X => ?_)
  obtain ⟨rfl, rfl⟩ := hQ
  refine k_if_eq C X d_jdk_42_method_56_code_4 rfl (tpc := 16) rfl (fun _ => ?_) (fun hc => (absurd hc (by decide) : False).elim)
  refine k_aloadN C X d_jdk_42_method_56_code_16 rfl rfl rfl ?_
  refine k_getfield C X d_jdk_42_method_56_code_17 rfl (host := "") (Or.inl (hw _ (List.mem_of_getElem? (i := 21) rfl))) (own_fL (ix := 0) (j := 0) rfl rfl) (fun T X => ?_)
  refine k_iloadN C X d_jdk_42_method_56_code_20 rfl rfl ?_
  replace X := X.bring (i := 1) rfl (M := (qb_, own_ar Z .byte [(.int e0_), (.int e1_), (.int e2_), (.int e3_), (.int e4_), (.int e5_)]) :: (sa_, own_ob Z "java/lang/String" [("value", "[B", (.ref qb_)), ("coder", "B", (.int (1)))]) :: L) rfl
  refine k_static C X d_jdk_42_method_56_code_21 rfl (hw _ (List.mem_of_getElem? (i := 117) rfl)) (hw _ (List.mem_of_getElem? (i := 118) rfl)) (hw _ (List.mem_of_getElem? (i := 68) rfl)) (hw _ (List.mem_of_getElem? (i := 119) rfl)) (by decide) (own_uca32 l Z a0 hw qb_ e0_ e1_ e2_ e3_ e4_ e5_ cs fm hS hcs hAD hHI hLO hFM hfc ((sa_, own_ob Z "java/lang/String" [("value", "[B", (.ref qb_)), ("coder", "B", (.int (1)))]) :: L)) (W := 0) (argsL := [(.ref qb_), (.int (2))]) (rest := []) rfl rfl rfl own_pd18 rfl (Nat.le_of_eq rfl) (by decide) (by decide) (by decide) (by decide) (fun v T M hQ X => ?_)
  obtain ⟨rfl, rfl⟩ := hQ
  exact k_ireturn C X d_jdk_42_method_56_code_24 (by simp) (own_nch _) ⟨rfl, rfl⟩ (by decide) (by decide)
def rm_own_cmp2_31 : Room := { frames := 0, cells := 0, slots := 0, locals := 0 }
set_option maxRecDepth 65536 in
set_option maxHeartbeats 40000000 in
theorem own_cmp2_31 (l : Launch) (Z : State) (a0 : Array Value) (hw : ∀ d ∈ tables_1, d.before a0 Z = true) (qc_ : Addr) (qb_ : Addr) (d0_ : Int32) (d1_ : Int32) (d2_ : Int32) (cs : Int32) (fm : Value) (hS : Sta Z Z.heap "java/lang/String" "COMPACT_STRINGS" "Z" (.int cs)) (hcs : ¬ cs = 0) (hAD : Sta Z Z.heap "java/lang/StringUTF16" "$assertionsDisabled" "Z" (.int 1)) (hHI : Sta Z Z.heap "java/lang/StringUTF16" "HI_BYTE_SHIFT" "I" (.int 0)) (hLO : Sta Z Z.heap "java/lang/StringUTF16" "LO_BYTE_SHIFT" "I" (.int 8)) (hFM : Sta Z Z.heap "jdk/internal/util/Preconditions" "SIOOBE_FORMATTER" "Ljava/util/function/BiFunction;" fm) (hfc : fm.category = 1) (c0 : own_ch d0_) (c1 : own_ch d1_) (c2 : own_ch d2_) (g0 : ¬ (255) < d0_) (g1 : (255) < d1_) (L : List (Addr × (Cell → Prop))) :
    own_Con l Z (⟨"java/lang/StringUTF16", "compress", "([CI[BII)I"⟩ : MethodName) jdk_52_method_21_code 7 (some .int) rm_own_cmp2_31 #[(.ref qc_), (.int (0)), (.ref qb_), (.int (0)), (.int (3))] ((qc_, own_ar Z .char [(.int d0_), (.int d1_), (.int d2_)]) :: (qb_, own_ar Z .byte [(.int 0), (.int 0), (.int 0)]) :: L) (fun v M => v = some (.int (1)) ∧ M = (qc_, own_ar Z .char [(.int d0_), (.int d1_), (.int d2_)]) :: (qb_, own_ar Z .byte [(.int (nar .byte d0_.toInt8.toInt32)), (.int 0), (.int 0)]) :: L) := by
  refine own_con (ls := #[.val (.ref qc_), .val (.int (0)), .val (.ref qb_), .val (.int (0)), .val (.int (3)), .unset, .unset]) (plainFor_of_name own_pn2) (fun m => own_ent m rfl) ?_
  intro p e s m below meth c T C X
  refine k_iconst C X d_jdk_52_method_21_code_0 rfl (v := 0) rfl ?_
  refine k_istore C X d_jdk_52_method_21_code_1 rfl (l' := #[.val (.ref qc_), .val (.int (0)), .val (.ref qb_), .val (.int (0)), .val (.int (3)), .val (.int (0)), .unset]) rfl ?_
  refine k_iload C X d_jdk_52_method_21_code_3 rfl rfl ?_
  refine k_iload C X d_jdk_52_method_21_code_5 rfl rfl ?_
  refine k_icmp_ge C X d_jdk_52_method_21_code_7 rfl (tpc := 44) rfl (fun hc => (absurd hc (by decide) : False).elim) (fun _ => ?_)
  refine k_aloadN C X d_jdk_52_method_21_code_10 rfl rfl rfl ?_
  refine k_iloadN C X d_jdk_52_method_21_code_11 rfl rfl ?_
  refine k_caload C X d_jdk_52_method_21_code_12 rfl (ix := 0) (i := 0) rfl (by decide) (by decide) rfl ?_
  refine k_istore C X d_jdk_52_method_21_code_13 rfl (l' := #[.val (.ref qc_), .val (.int (0)), .val (.ref qb_), .val (.int (0)), .val (.int (3)), .val (.int (0)), .val (.int d0_)]) rfl ?_
  refine k_iload C X d_jdk_52_method_21_code_15 rfl rfl ?_
  refine k_sipush C X d_jdk_52_method_21_code_17 rfl (v := 255) rfl ?_
  refine k_icmp_le C X d_jdk_52_method_21_code_20 rfl (tpc := 26) rfl (fun _ => ?_) (fun hc => (g0 hc : False).elim)
  refine k_aloadN C X d_jdk_52_method_21_code_26 rfl rfl rfl ?_
  refine k_iloadN C X d_jdk_52_method_21_code_27 rfl rfl ?_
  refine k_iload C X d_jdk_52_method_21_code_28 rfl rfl ?_
  refine k_i2b C X d_jdk_52_method_21_code_30 rfl ?_
  refine k_bastore C X d_jdk_52_method_21_code_31 rfl (ix := 1) (i := 0) rfl (by decide) (by decide) (Nat.le_of_ble_eq_true rfl) (vs' := [(.int (nar .byte d0_.toInt8.toInt32)), (.int 0), (.int 0)]) rfl (L' := (qc_, own_ar Z .char [(.int d0_), (.int d1_), (.int d2_)]) :: (qb_, own_ar Z .byte [(.int (nar .byte d0_.toInt8.toInt32)), (.int 0), (.int 0)]) :: L) rfl (fun T X => ?_)
  refine k_iinc C X d_jdk_52_method_21_code_32 rfl (v := 1) rfl rfl (l' := #[.val (.ref qc_), .val (.int (1)), .val (.ref qb_), .val (.int (0)), .val (.int (3)), .val (.int (0)), .val (.int d0_)]) rfl ?_
  refine k_iinc C X d_jdk_52_method_21_code_35 rfl (v := 1) rfl rfl (l' := #[.val (.ref qc_), .val (.int (1)), .val (.ref qb_), .val (.int (1)), .val (.int (3)), .val (.int (0)), .val (.int d0_)]) rfl ?_
  refine k_iinc C X d_jdk_52_method_21_code_38 rfl (v := 1) rfl rfl (l' := #[.val (.ref qc_), .val (.int (1)), .val (.ref qb_), .val (.int (1)), .val (.int (3)), .val (.int (1)), .val (.int d0_)]) rfl ?_
  refine k_goto C X d_jdk_52_method_21_code_41 (tpc := 3) rfl ?_
  refine k_iload C X d_jdk_52_method_21_code_3 rfl rfl ?_
  refine k_iload C X d_jdk_52_method_21_code_5 rfl rfl ?_
  refine k_icmp_ge C X d_jdk_52_method_21_code_7 rfl (tpc := 44) rfl (fun hc => (absurd hc (by decide) : False).elim) (fun _ => ?_)
  refine k_aloadN C X d_jdk_52_method_21_code_10 rfl rfl rfl ?_
  refine k_iloadN C X d_jdk_52_method_21_code_11 rfl rfl ?_
  refine k_caload C X d_jdk_52_method_21_code_12 rfl (ix := 0) (i := 1) rfl (by decide) (by decide) rfl ?_
  refine k_istore C X d_jdk_52_method_21_code_13 rfl (l' := #[.val (.ref qc_), .val (.int (1)), .val (.ref qb_), .val (.int (1)), .val (.int (3)), .val (.int (1)), .val (.int d1_)]) rfl ?_
  refine k_iload C X d_jdk_52_method_21_code_15 rfl rfl ?_
  refine k_sipush C X d_jdk_52_method_21_code_17 rfl (v := 255) rfl ?_
  refine k_icmp_le C X d_jdk_52_method_21_code_20 rfl (tpc := 26) rfl (fun hc => (hc g1 : False).elim) (fun _ => ?_)
  refine k_iload C X d_jdk_52_method_21_code_23 rfl rfl ?_
  exact k_ireturn C X d_jdk_52_method_21_code_25 (by simp) rfl ⟨rfl, rfl⟩ (by decide) (by decide)
def rm_own_cmp1_31 : Room := { frames := 3, cells := 2, slots := 9, locals := 40 }
set_option maxRecDepth 65536 in
set_option maxHeartbeats 40000000 in
theorem own_cmp1_31 (l : Launch) (Z : State) (a0 : Array Value) (hw : ∀ d ∈ tables_1, d.before a0 Z = true) (qc_ : Addr) (d0_ : Int32) (d1_ : Int32) (d2_ : Int32) (cs : Int32) (fm : Value) (hS : Sta Z Z.heap "java/lang/String" "COMPACT_STRINGS" "Z" (.int cs)) (hcs : ¬ cs = 0) (hAD : Sta Z Z.heap "java/lang/StringUTF16" "$assertionsDisabled" "Z" (.int 1)) (hHI : Sta Z Z.heap "java/lang/StringUTF16" "HI_BYTE_SHIFT" "I" (.int 0)) (hLO : Sta Z Z.heap "java/lang/StringUTF16" "LO_BYTE_SHIFT" "I" (.int 8)) (hFM : Sta Z Z.heap "jdk/internal/util/Preconditions" "SIOOBE_FORMATTER" "Ljava/util/function/BiFunction;" fm) (hfc : fm.category = 1) (c0 : own_ch d0_) (c1 : own_ch d1_) (c2 : own_ch d2_) (g0 : ¬ (255) < d0_) (g1 : (255) < d1_) (L : List (Addr × (Cell → Prop))) :
    own_Con l Z (⟨"java/lang/StringUTF16", "compress", "([CII)[B"⟩ : MethodName) jdk_52_method_16_code 6 (some (.array .byte)) rm_own_cmp1_31 #[(.ref qc_), (.int (0)), (.int (3))] ((qc_, own_ar Z .char [(.int d0_), (.int d1_), (.int d2_)]) :: L) (fun v M => ∃ f1 o1, v = some (.ref f1) ∧ M = (f1, own_ar Z .byte [(.int (nar .byte ((d0_ >>> ((0) &&& 31 : Int32) : Int32).toInt8.toInt32))), (.int (nar .byte ((d0_ >>> ((8) &&& 31 : Int32) : Int32).toInt8.toInt32))), (.int (nar .byte ((d1_ >>> ((0) &&& 31 : Int32) : Int32).toInt8.toInt32))), (.int (nar .byte ((d1_ >>> ((8) &&& 31 : Int32) : Int32).toInt8.toInt32))), (.int (nar .byte ((d2_ >>> ((0) &&& 31 : Int32) : Int32).toInt8.toInt32))), (.int (nar .byte ((d2_ >>> ((8) &&& 31 : Int32) : Int32).toInt8.toInt32)))]) :: (qc_, own_ar Z .char [(.int d0_), (.int d1_), (.int d2_)]) :: (o1, own_ar Z .byte [(.int (nar .byte d0_.toInt8.toInt32)), (.int 0), (.int 0)]) :: L) := by
  refine own_con (ls := #[.val (.ref qc_), .val (.int (0)), .val (.int (3)), .unset, .unset, .unset]) (plainFor_of_name own_pn2) (fun m => own_ent m rfl) ?_
  intro p e s m below meth c T C X
  refine k_iloadN C X d_jdk_52_method_16_code_0 rfl rfl ?_
  refine k_newarray C X d_jdk_52_method_16_code_1 rfl (ty := .byte) rfl (hw _ (List.mem_of_getElem? (i := 16) rfl)) (by decide) (cap := 3) (by decide) (by decide) (by decide) (by decide) (vs := [(.int 0), (.int 0), (.int 0)]) rfl (fun T o1 X => ?_)
  refine k_astoreN C X d_jdk_52_method_16_code_3 rfl rfl (l' := #[.val (.ref qc_), .val (.int (0)), .val (.int (3)), .val (.ref o1), .unset, .unset]) rfl ?_
  refine k_aloadN C X d_jdk_52_method_16_code_4 rfl rfl rfl ?_
  refine k_iloadN C X d_jdk_52_method_16_code_5 rfl rfl ?_
  refine k_aloadN C X d_jdk_52_method_16_code_6 rfl rfl rfl ?_
  refine k_iconst C X d_jdk_52_method_16_code_7 rfl (v := 0) rfl ?_
  refine k_iloadN C X d_jdk_52_method_16_code_8 rfl rfl ?_
  replace X := X.bring (i := 1) rfl (M := (qc_, own_ar Z .char [(.int d0_), (.int d1_), (.int d2_)]) :: (o1, own_ar Z .byte [(.int 0), (.int 0), (.int 0)]) :: L) rfl
  refine k_static C X d_jdk_52_method_16_code_9 rfl (hw _ (List.mem_of_getElem? (i := 70) rfl)) (hw _ (List.mem_of_getElem? (i := 71) rfl)) (hw _ (List.mem_of_getElem? (i := 68) rfl)) (hw _ (List.mem_of_getElem? (i := 72) rfl)) (by decide) (own_cmp2_31 l Z a0 hw qc_ o1 d0_ d1_ d2_ cs fm hS hcs hAD hHI hLO hFM hfc c0 c1 c2 g0 g1 (L)) (W := 0) (argsL := [(.ref qc_), (.int (0)), (.ref o1), (.int (0)), (.int (3))]) (rest := []) rfl rfl rfl own_pd23 rfl (Nat.le_of_eq rfl) (by decide) (by decide) (by decide) (by decide) (fun v T M hQ X => ?_)
  obtain ⟨rfl, rfl⟩ := hQ
  refine k_istore C X d_jdk_52_method_16_code_12 rfl (l' := #[.val (.ref qc_), .val (.int (0)), .val (.int (3)), .val (.ref o1), .val (.int (1)), .unset]) rfl ?_
  refine k_iload C X d_jdk_52_method_16_code_14 rfl rfl ?_
  refine k_iloadN C X d_jdk_52_method_16_code_16 rfl rfl ?_
  refine k_icmp_eq C X d_jdk_52_method_16_code_17 rfl (tpc := 57) rfl (fun hc => (absurd hc (by decide) : False).elim) (fun _ => ?_)
  refine k_aloadN C X d_jdk_52_method_16_code_20 rfl rfl rfl ?_
  refine k_iloadN C X d_jdk_52_method_16_code_21 rfl rfl ?_
  refine k_iloadN C X d_jdk_52_method_16_code_22 rfl rfl ?_
  refine k_static C X d_jdk_52_method_16_code_23 rfl (hw _ (List.mem_of_getElem? (i := 98) rfl)) (hw _ (List.mem_of_getElem? (i := 99) rfl)) (hw _ (List.mem_of_getElem? (i := 68) rfl)) (hw _ (List.mem_of_getElem? (i := 100) rfl)) (by decide) (own_tob3 l Z a0 hw qc_ d0_ d1_ d2_ cs fm hS hcs hAD hHI hLO hFM hfc ((o1, own_ar Z .byte [(.int (nar .byte d0_.toInt8.toInt32)), (.int 0), (.int 0)]) :: L)) (W := 0) (argsL := [(.ref qc_), (.int (0)), (.int (3))]) (rest := []) rfl rfl rfl own_pd24 rfl (Nat.le_of_eq rfl) (by decide) (by decide) (by decide) (by decide) (fun v T M hQ X => ?_)
  obtain ⟨f1, rfl, rfl⟩ := hQ
  refine k_astore C X d_jdk_52_method_16_code_26 rfl rfl (l' := #[.val (.ref qc_), .val (.int (0)), .val (.int (3)), .val (.ref o1), .val (.int (1)), .val (.ref f1)]) rfl ?_
  refine k_aload C X d_jdk_52_method_16_code_28 rfl rfl rfl ?_
  refine k_iload C X d_jdk_52_method_16_code_30 rfl rfl ?_
  refine k_static C X d_jdk_52_method_16_code_32 rfl (hw _ (List.mem_of_getElem? (i := 114) rfl)) (hw _ (List.mem_of_getElem? (i := 115) rfl)) (hw _ (List.mem_of_getElem? (i := 68) rfl)) (hw _ (List.mem_of_getElem? (i := 116) rfl)) (by decide) (own_get31 l Z a0 hw f1 (nar .byte ((d0_ >>> ((0) &&& 31 : Int32) : Int32).toInt8.toInt32)) (nar .byte ((d0_ >>> ((8) &&& 31 : Int32) : Int32).toInt8.toInt32)) (nar .byte ((d1_ >>> ((0) &&& 31 : Int32) : Int32).toInt8.toInt32)) (nar .byte ((d1_ >>> ((8) &&& 31 : Int32) : Int32).toInt8.toInt32)) (nar .byte ((d2_ >>> ((0) &&& 31 : Int32) : Int32).toInt8.toInt32)) (nar .byte ((d2_ >>> ((8) &&& 31 : Int32) : Int32).toInt8.toInt32)) cs fm hS hcs hAD hHI hLO hFM hfc ((qc_, own_ar Z .char [(.int d0_), (.int d1_), (.int d2_)]) :: (o1, own_ar Z .byte [(.int (nar .byte d0_.toInt8.toInt32)), (.int 0), (.int 0)]) :: L)) (W := 0) (argsL := [(.ref f1), (.int (1))]) (rest := []) rfl rfl rfl own_pd18 rfl (Nat.le_of_eq rfl) (by decide) (by decide) (by decide) (by decide) (fun v T M hQ X => ?_)
  obtain ⟨rfl, rfl⟩ := hQ
  refine k_sipush C X d_jdk_52_method_16_code_35 rfl (v := 255) rfl ?_
  refine k_icmp_gt C X d_jdk_52_method_16_code_38 rfl (tpc := 54) rfl (fun _ => ?_) (fun hc => (hc (own_gt c1 g1) : False).elim)
  refine k_aload C X d_jdk_52_method_16_code_54 rfl rfl rfl ?_
  exact k_areturn C X d_jdk_52_method_16_code_56 rfl rfl rfl ⟨f1, o1, rfl, rfl⟩ (by decide) (by decide)
def rm_own_si2_31 : Room := { frames := 4, cells := 2, slots := 9, locals := 57 }
set_option maxRecDepth 65536 in
set_option maxHeartbeats 40000000 in
theorem own_si2_31 (l : Launch) (Z : State) (a0 : Array Value) (hw : ∀ d ∈ tables_1, d.before a0 Z = true) (sa_ : Addr) (qc_ : Addr) (d0_ : Int32) (d1_ : Int32) (d2_ : Int32) (cs : Int32) (fm : Value) (hS : Sta Z Z.heap "java/lang/String" "COMPACT_STRINGS" "Z" (.int cs)) (hcs : ¬ cs = 0) (hAD : Sta Z Z.heap "java/lang/StringUTF16" "$assertionsDisabled" "Z" (.int 1)) (hHI : Sta Z Z.heap "java/lang/StringUTF16" "HI_BYTE_SHIFT" "I" (.int 0)) (hLO : Sta Z Z.heap "java/lang/StringUTF16" "LO_BYTE_SHIFT" "I" (.int 8)) (hFM : Sta Z Z.heap "jdk/internal/util/Preconditions" "SIOOBE_FORMATTER" "Ljava/util/function/BiFunction;" fm) (hfc : fm.category = 1) (c0 : own_ch d0_) (c1 : own_ch d1_) (c2 : own_ch d2_) (g0 : ¬ (255) < d0_) (g1 : (255) < d1_) (L : List (Addr × (Cell → Prop))) :
    own_Con l Z (⟨"java/lang/String", "<init>", "([CIILjava/lang/Void;)V"⟩ : MethodName) jdk_42_method_149_code 6 none rm_own_si2_31 #[(.ref sa_), (.ref qc_), (.int (0)), (.int (3)), .null] ((sa_, own_ob Z "java/lang/String" [("value", "[B", .null), ("coder", "B", (.int (0)))]) :: (qc_, own_ar Z .char [(.int d0_), (.int d1_), (.int d2_)]) :: L) (fun v M => ∃ f1 f2, v = none ∧ M = (f1, own_ar Z .byte [(.int (nar .byte ((d0_ >>> ((0) &&& 31 : Int32) : Int32).toInt8.toInt32))), (.int (nar .byte ((d0_ >>> ((8) &&& 31 : Int32) : Int32).toInt8.toInt32))), (.int (nar .byte ((d1_ >>> ((0) &&& 31 : Int32) : Int32).toInt8.toInt32))), (.int (nar .byte ((d1_ >>> ((8) &&& 31 : Int32) : Int32).toInt8.toInt32))), (.int (nar .byte ((d2_ >>> ((0) &&& 31 : Int32) : Int32).toInt8.toInt32))), (.int (nar .byte ((d2_ >>> ((8) &&& 31 : Int32) : Int32).toInt8.toInt32)))]) :: (qc_, own_ar Z .char [(.int d0_), (.int d1_), (.int d2_)]) :: (f2, own_ar Z .byte [(.int (nar .byte d0_.toInt8.toInt32)), (.int 0), (.int 0)]) :: (sa_, own_ob Z "java/lang/String" [("value", "[B", (.ref f1)), ("coder", "B", (.int (1)))]) :: L) := by
  refine own_con (ls := #[.val (.ref sa_), .val (.ref qc_), .val (.int (0)), .val (.int (3)), .val .null, .unset]) (plainFor_of_name own_pn0) (fun m => own_ent m rfl) ?_
  intro p e s m below meth c T C X
  refine k_aloadN C X d_jdk_42_method_149_code_0 rfl rfl rfl ?_
  refine k_initO C X d_jdk_42_method_149_code_1 rfl (hw _ (List.mem_of_getElem? (i := 12) rfl)) (hw _ (List.mem_of_getElem? (i := 13) rfl)) (hw _ (List.mem_of_getElem? (i := 14) rfl)) rfl (W := 0) (Nat.le_of_eq rfl) (by decide) (by decide) (fun T X => ?_)
  refine k_iloadN C X d_jdk_42_method_149_code_4 rfl rfl ?_
  refine k_if_ne C X d_jdk_42_method_149_code_5 rfl (tpc := 27) rfl (fun _ => ?_) (fun hc => (absurd hc (by decide) : False).elim)
  refine k_getstatic C X d_jdk_42_method_149_code_27 rfl (hw _ (List.mem_of_getElem? (i := 60) rfl)) hS (fun T X => ?_)
  refine k_if_eq C X d_jdk_42_method_149_code_30 rfl (tpc := 58) rfl (fun hc => (hcs hc : False).elim) (fun _ => ?_)
  refine k_aloadN C X d_jdk_42_method_149_code_33 rfl rfl rfl ?_
  refine k_iloadN C X d_jdk_42_method_149_code_34 rfl rfl ?_
  refine k_iloadN C X d_jdk_42_method_149_code_35 rfl rfl ?_
  replace X := X.bring (i := 1) rfl (M := (qc_, own_ar Z .char [(.int d0_), (.int d1_), (.int d2_)]) :: (sa_, own_ob Z "java/lang/String" [("value", "[B", .null), ("coder", "B", (.int (0)))]) :: L) rfl
  refine k_static C X d_jdk_42_method_149_code_36 rfl (hw _ (List.mem_of_getElem? (i := 66) rfl)) (hw _ (List.mem_of_getElem? (i := 67) rfl)) (hw _ (List.mem_of_getElem? (i := 68) rfl)) (hw _ (List.mem_of_getElem? (i := 69) rfl)) (by decide) (own_cmp1_31 l Z a0 hw qc_ d0_ d1_ d2_ cs fm hS hcs hAD hHI hLO hFM hfc c0 c1 c2 g0 g1 ((sa_, own_ob Z "java/lang/String" [("value", "[B", .null), ("coder", "B", (.int (0)))]) :: L)) (W := 0) (argsL := [(.ref qc_), (.int (0)), (.int (3))]) (rest := []) rfl rfl rfl own_pd24 rfl (Nat.le_of_eq rfl) (by decide) (by decide) (by decide) (by decide) (fun v T M hQ X => ?_)
  obtain ⟨f1, f2, rfl, rfl⟩ := hQ
  refine k_astore C X d_jdk_42_method_149_code_39 rfl rfl (l' := #[.val (.ref sa_), .val (.ref qc_), .val (.int (0)), .val (.int (3)), .val .null, .val (.ref f1)]) rfl ?_
  refine k_aloadN C X d_jdk_42_method_149_code_41 rfl rfl rfl ?_
  refine k_aload C X d_jdk_42_method_149_code_42 rfl rfl rfl ?_
  refine k_iloadN C X d_jdk_42_method_149_code_44 rfl rfl ?_
  refine k_static C X d_jdk_42_method_149_code_45 rfl (hw _ (List.mem_of_getElem? (i := 73) rfl)) (hw _ (List.mem_of_getElem? (i := 74) rfl)) (hw _ (List.mem_of_getElem? (i := 68) rfl)) (hw _ (List.mem_of_getElem? (i := 75) rfl)) (by decide) (own_cl36 l Z a0 hw f1 (nar .byte ((d0_ >>> ((0) &&& 31 : Int32) : Int32).toInt8.toInt32)) (nar .byte ((d0_ >>> ((8) &&& 31 : Int32) : Int32).toInt8.toInt32)) (nar .byte ((d1_ >>> ((0) &&& 31 : Int32) : Int32).toInt8.toInt32)) (nar .byte ((d1_ >>> ((8) &&& 31 : Int32) : Int32).toInt8.toInt32)) (nar .byte ((d2_ >>> ((0) &&& 31 : Int32) : Int32).toInt8.toInt32)) (nar .byte ((d2_ >>> ((8) &&& 31 : Int32) : Int32).toInt8.toInt32)) cs fm hS hcs hAD hHI hLO hFM hfc ((qc_, own_ar Z .char [(.int d0_), (.int d1_), (.int d2_)]) :: (f2, own_ar Z .byte [(.int (nar .byte d0_.toInt8.toInt32)), (.int 0), (.int 0)]) :: (sa_, own_ob Z "java/lang/String" [("value", "[B", .null), ("coder", "B", (.int (0)))]) :: L)) (W := 1) (argsL := [(.ref f1), (.int (3))]) (rest := [(.ref sa_)]) rfl rfl rfl own_pd25 rfl (Nat.le_of_eq rfl) (by decide) (by decide) (by decide) (by decide) (fun v T M hQ X => ?_)
  obtain ⟨rfl, rfl⟩ := hQ
  refine k_putfield C X d_jdk_42_method_149_code_48 rfl (host := "") (Or.inl (hw _ (List.mem_of_getElem? (i := 22) rfl))) (hw _ (List.mem_of_getElem? (i := 2) rfl)) (Or.inr ⟨(hw _ (List.mem_of_getElem? (i := 18) rfl)), rfl, rfl⟩) (own_lay_String hw) own_lay_String_nd (ix := 3) (j := 1) rfl rfl rfl (fs' := [("value", "[B", .null), ("coder", "B", (.int (1)))]) rfl (ty := .byte) (by decide) rfl rfl (L' := (f1, own_ar Z .byte [(.int (nar .byte ((d0_ >>> ((0) &&& 31 : Int32) : Int32).toInt8.toInt32))), (.int (nar .byte ((d0_ >>> ((8) &&& 31 : Int32) : Int32).toInt8.toInt32))), (.int (nar .byte ((d1_ >>> ((0) &&& 31 : Int32) : Int32).toInt8.toInt32))), (.int (nar .byte ((d1_ >>> ((8) &&& 31 : Int32) : Int32).toInt8.toInt32))), (.int (nar .byte ((d2_ >>> ((0) &&& 31 : Int32) : Int32).toInt8.toInt32))), (.int (nar .byte ((d2_ >>> ((8) &&& 31 : Int32) : Int32).toInt8.toInt32)))]) :: (qc_, own_ar Z .char [(.int d0_), (.int d1_), (.int d2_)]) :: (f2, own_ar Z .byte [(.int (nar .byte d0_.toInt8.toInt32)), (.int 0), (.int 0)]) :: (sa_, own_ob Z "java/lang/String" [("value", "[B", .null), ("coder", "B", (.int (1)))]) :: L) rfl (fun T X => ?_)
  refine k_aloadN C X d_jdk_42_method_149_code_51 rfl rfl rfl ?_
  refine k_aload C X d_jdk_42_method_149_code_52 rfl rfl rfl ?_
  refine k_putfield C X d_jdk_42_method_149_code_54 rfl (host := "") (Or.inl (hw _ (List.mem_of_getElem? (i := 21) rfl))) (hw _ (List.mem_of_getElem? (i := 2) rfl)) (Or.inr ⟨(hw _ (List.mem_of_getElem? (i := 17) rfl)), rfl, rfl⟩) (own_lay_String hw) own_lay_String_nd (ix := 3) (j := 0) rfl rfl rfl (fs' := [("value", "[B", (.ref f1)), ("coder", "B", (.int (1)))]) rfl (ty := (.array .byte)) (by decide) rfl rfl (L' := (f1, own_ar Z .byte [(.int (nar .byte ((d0_ >>> ((0) &&& 31 : Int32) : Int32).toInt8.toInt32))), (.int (nar .byte ((d0_ >>> ((8) &&& 31 : Int32) : Int32).toInt8.toInt32))), (.int (nar .byte ((d1_ >>> ((0) &&& 31 : Int32) : Int32).toInt8.toInt32))), (.int (nar .byte ((d1_ >>> ((8) &&& 31 : Int32) : Int32).toInt8.toInt32))), (.int (nar .byte ((d2_ >>> ((0) &&& 31 : Int32) : Int32).toInt8.toInt32))), (.int (nar .byte ((d2_ >>> ((8) &&& 31 : Int32) : Int32).toInt8.toInt32)))]) :: (qc_, own_ar Z .char [(.int d0_), (.int d1_), (.int d2_)]) :: (f2, own_ar Z .byte [(.int (nar .byte d0_.toInt8.toInt32)), (.int 0), (.int 0)]) :: (sa_, own_ob Z "java/lang/String" [("value", "[B", (.ref f1)), ("coder", "B", (.int (1)))]) :: L) rfl (fun T X => ?_)
  exact k_return C X d_jdk_42_method_149_code_57 ⟨f1, f2, rfl, rfl⟩ (by decide) (by decide)
def rm_own_si1_31 : Room := { frames := 5, cells := 2, slots := 9, locals := 74 }
set_option maxRecDepth 65536 in
set_option maxHeartbeats 40000000 in
theorem own_si1_31 (l : Launch) (Z : State) (a0 : Array Value) (hw : ∀ d ∈ tables_1, d.before a0 Z = true) (sa_ : Addr) (qc_ : Addr) (d0_ : Int32) (d1_ : Int32) (d2_ : Int32) (cs : Int32) (fm : Value) (hS : Sta Z Z.heap "java/lang/String" "COMPACT_STRINGS" "Z" (.int cs)) (hcs : ¬ cs = 0) (hAD : Sta Z Z.heap "java/lang/StringUTF16" "$assertionsDisabled" "Z" (.int 1)) (hHI : Sta Z Z.heap "java/lang/StringUTF16" "HI_BYTE_SHIFT" "I" (.int 0)) (hLO : Sta Z Z.heap "java/lang/StringUTF16" "LO_BYTE_SHIFT" "I" (.int 8)) (hFM : Sta Z Z.heap "jdk/internal/util/Preconditions" "SIOOBE_FORMATTER" "Ljava/util/function/BiFunction;" fm) (hfc : fm.category = 1) (c0 : own_ch d0_) (c1 : own_ch d1_) (c2 : own_ch d2_) (g0 : ¬ (255) < d0_) (g1 : (255) < d1_) (L : List (Addr × (Cell → Prop))) :
    own_Con l Z (⟨"java/lang/String", "<init>", "([C)V"⟩ : MethodName) jdk_42_method_3_code 2 none rm_own_si1_31 #[(.ref sa_), (.ref qc_)] ((sa_, own_ob Z "java/lang/String" [("value", "[B", .null), ("coder", "B", (.int (0)))]) :: (qc_, own_ar Z .char [(.int d0_), (.int d1_), (.int d2_)]) :: L) (fun v M => ∃ f1 f2, v = none ∧ M = (f1, own_ar Z .byte [(.int (nar .byte ((d0_ >>> ((0) &&& 31 : Int32) : Int32).toInt8.toInt32))), (.int (nar .byte ((d0_ >>> ((8) &&& 31 : Int32) : Int32).toInt8.toInt32))), (.int (nar .byte ((d1_ >>> ((0) &&& 31 : Int32) : Int32).toInt8.toInt32))), (.int (nar .byte ((d1_ >>> ((8) &&& 31 : Int32) : Int32).toInt8.toInt32))), (.int (nar .byte ((d2_ >>> ((0) &&& 31 : Int32) : Int32).toInt8.toInt32))), (.int (nar .byte ((d2_ >>> ((8) &&& 31 : Int32) : Int32).toInt8.toInt32)))]) :: (qc_, own_ar Z .char [(.int d0_), (.int d1_), (.int d2_)]) :: (f2, own_ar Z .byte [(.int (nar .byte d0_.toInt8.toInt32)), (.int 0), (.int 0)]) :: (sa_, own_ob Z "java/lang/String" [("value", "[B", (.ref f1)), ("coder", "B", (.int (1)))]) :: L) := by
  refine own_con (ls := #[.val (.ref sa_), .val (.ref qc_)]) (plainFor_of_name own_pn0) (fun m => own_ent m rfl) ?_
  intro p e s m below meth c T C X
  refine k_aloadN C X d_jdk_42_method_3_code_0 rfl rfl rfl ?_
  refine k_aloadN C X d_jdk_42_method_3_code_1 rfl rfl rfl ?_
  refine k_iconst C X d_jdk_42_method_3_code_2 rfl (v := 0) rfl ?_
  refine k_aloadN C X d_jdk_42_method_3_code_3 rfl rfl rfl ?_
  refine k_arraylength C X d_jdk_42_method_3_code_4 rfl (ix := 1) rfl (z := (3)) rfl ?_
  refine k_aconst_null C X d_jdk_42_method_3_code_5 rfl ?_
  replace X := X.bring (i := 1) rfl (M := (qc_, own_ar Z .char [(.int d0_), (.int d1_), (.int d2_)]) :: (sa_, own_ob Z "java/lang/String" [("value", "[B", .null), ("coder", "B", (.int (0)))]) :: L) rfl
  replace X := X.bring (i := 1) rfl (M := (sa_, own_ob Z "java/lang/String" [("value", "[B", .null), ("coder", "B", (.int (0)))]) :: (qc_, own_ar Z .char [(.int d0_), (.int d1_), (.int d2_)]) :: L) rfl
  refine k_init C X d_jdk_42_method_3_code_6 rfl rfl (hw _ (List.mem_of_getElem? (i := 8) rfl)) (hw _ (List.mem_of_getElem? (i := 9) rfl)) (hw _ (List.mem_of_getElem? (i := 3) rfl)) (hw _ (List.mem_of_getElem? (i := 11) rfl)) (by decide) (own_si2_31 l Z a0 hw sa_ qc_ d0_ d1_ d2_ cs fm hS hcs hAD hHI hLO hFM hfc c0 c1 c2 g0 g1 (L)) (W := 0) (argsL := [(.ref qc_), (.int (0)), (.int (3)), .null]) (rest := []) rfl rfl rfl own_pd0 rfl (Nat.le_of_eq rfl) (by decide) (by decide) (by decide) (by decide) (fun v T M hQ X => ?_)
  obtain ⟨f1, f2, rfl, rfl⟩ := hQ
  exact k_return C X d_jdk_42_method_3_code_9 ⟨f1, f2, rfl, rfl⟩ (by decide) (by decide)
def rm_own_cmp2_32 : Room := { frames := 0, cells := 0, slots := 0, locals := 0 }
set_option maxRecDepth 65536 in
set_option maxHeartbeats 40000000 in
theorem own_cmp2_32 (l : Launch) (Z : State) (a0 : Array Value) (hw : ∀ d ∈ tables_1, d.before a0 Z = true) (qc_ : Addr) (qb_ : Addr) (d0_ : Int32) (d1_ : Int32) (d2_ : Int32) (cs : Int32) (fm : Value) (hS : Sta Z Z.heap "java/lang/String" "COMPACT_STRINGS" "Z" (.int cs)) (hcs : ¬ cs = 0) (hAD : Sta Z Z.heap "java/lang/StringUTF16" "$assertionsDisabled" "Z" (.int 1)) (hHI : Sta Z Z.heap "java/lang/StringUTF16" "HI_BYTE_SHIFT" "I" (.int 0)) (hLO : Sta Z Z.heap "java/lang/StringUTF16" "LO_BYTE_SHIFT" "I" (.int 8)) (hFM : Sta Z Z.heap "jdk/internal/util/Preconditions" "SIOOBE_FORMATTER" "Ljava/util/function/BiFunction;" fm) (hfc : fm.category = 1) (c0 : own_ch d0_) (c1 : own_ch d1_) (c2 : own_ch d2_) (g0 : ¬ (255) < d0_) (g1 : ¬ (255) < d1_) (g2 : (255) < d2_) (L : List (Addr × (Cell → Prop))) :
    own_Con l Z (⟨"java/lang/StringUTF16", "compress", "([CI[BII)I"⟩ : MethodName) jdk_52_method_21_code 7 (some .int) rm_own_cmp2_32 #[(.ref qc_), (.int (0)), (.ref qb_), (.int (0)), (.int (3))] ((qc_, own_ar Z .char [(.int d0_), (.int d1_), (.int d2_)]) :: (qb_, own_ar Z .byte [(.int 0), (.int 0), (.int 0)]) :: L) (fun v M => v = some (.int (2)) ∧ M = (qc_, own_ar Z .char [(.int d0_), (.int d1_), (.int d2_)]) :: (qb_, own_ar Z .byte [(.int (nar .byte d0_.toInt8.toInt32)), (.int (nar .byte d1_.toInt8.toInt32)), (.int 0)]) :: L) := by
  refine own_con (ls := #[.val (.ref qc_), .val (.int (0)), .val (.ref qb_), .val (.int (0)), .val (.int (3)), .unset, .unset]) (plainFor_of_name own_pn2) (fun m => own_ent m rfl) ?_
  intro p e s m below meth c T C X
  refine k_iconst C X d_jdk_52_method_21_code_0 rfl (v := 0) rfl ?_
  refine k_istore C X d_jdk_52_method_21_code_1 rfl (l' := #[.val (.ref qc_), .val (.int (0)), .val (.ref qb_), .val (.int (0)), .val (.int (3)), .val (.int (0)), .unset]) rfl ?_
  refine k_iload C X d_jdk_52_method_21_code_3 rfl rfl ?_
  refine k_iload C X d_jdk_52_method_21_code_5 rfl rfl ?_
  refine k_icmp_ge C X d_jdk_52_method_21_code_7 rfl (tpc := 44) rfl (fun hc => (absurd hc (by decide) : False).elim) (fun _ => ?_)
  refine k_aloadN C X d_jdk_52_method_21_code_10 rfl rfl rfl ?_
  refine k_iloadN C X d_jdk_52_method_21_code_11 rfl rfl ?_
  refine k_caload C X d_jdk_52_method_21_code_12 rfl (ix := 0) (i := 0) rfl (by decide) (by decide) rfl ?_
  refine k_istore C X d_jdk_52_method_21_code_13 rfl (l' := #[.val (.ref qc_), .val (.int (0)), .val (.ref qb_), .val (.int (0)), .val (.int (3)), .val (.int (0)), .val (.int d0_)]) rfl ?_
  refine k_iload C X d_jdk_52_method_21_code_15 rfl rfl ?_
  refine k_sipush C X d_jdk_52_method_21_code_17 rfl (v := 255) rfl ?_
  refine k_icmp_le C X d_jdk_52_method_21_code_20 rfl (tpc := 26) rfl (fun _ => ?_) (fun hc => (g0 hc : False).elim)
  refine k_aloadN C X d_jdk_52_method_21_code_26 rfl rfl rfl ?_
  refine k_iloadN C X d_jdk_52_method_21_code_27 rfl rfl ?_
  refine k_iload C X d_jdk_52_method_21_code_28 rfl rfl ?_
  refine k_i2b C X d_jdk_52_method_21_code_30 rfl ?_
  refine k_bastore C X d_jdk_52_method_21_code_31 rfl (ix := 1) (i := 0) rfl (by decide) (by decide) (Nat.le_of_ble_eq_true rfl) (vs' := [(.int (nar .byte d0_.toInt8.toInt32)), (.int 0), (.int 0)]) rfl (L' := (qc_, own_ar Z .char [(.int d0_), (.int d1_), (.int d2_)]) :: (qb_, own_ar Z .byte [(.int (nar .byte d0_.toInt8.toInt32)), (.int 0), (.int 0)]) :: L) rfl (fun T X => ?_)
  refine k_iinc C X d_jdk_52_method_21_code_32 rfl (v := 1) rfl rfl (l' := #[.val (.ref qc_), .val (.int (1)), .val (.ref qb_), .val (.int (0)), .val (.int (3)), .val (.int (0)), .val (.int d0_)]) rfl ?_
  refine k_iinc C X d_jdk_52_method_21_code_35 rfl (v := 1) rfl rfl (l' := #[.val (.ref qc_), .val (.int (1)), .val (.ref qb_), .val (.int (1)), .val (.int (3)), .val (.int (0)), .val (.int d0_)]) rfl ?_
  refine k_iinc C X d_jdk_52_method_21_code_38 rfl (v := 1) rfl rfl (l' := #[.val (.ref qc_), .val (.int (1)), .val (.ref qb_), .val (.int (1)), .val (.int (3)), .val (.int (1)), .val (.int d0_)]) rfl ?_
  refine k_goto C X d_jdk_52_method_21_code_41 (tpc := 3) rfl ?_
  refine k_iload C X d_jdk_52_method_21_code_3 rfl rfl ?_
  refine k_iload C X d_jdk_52_method_21_code_5 rfl rfl ?_
  refine k_icmp_ge C X d_jdk_52_method_21_code_7 rfl (tpc := 44) rfl (fun hc => (absurd hc (by decide) : False).elim) (fun _ => ?_)
  refine k_aloadN C X d_jdk_52_method_21_code_10 rfl rfl rfl ?_
  refine k_iloadN C X d_jdk_52_method_21_code_11 rfl rfl ?_
  refine k_caload C X d_jdk_52_method_21_code_12 rfl (ix := 0) (i := 1) rfl (by decide) (by decide) rfl ?_
  refine k_istore C X d_jdk_52_method_21_code_13 rfl (l' := #[.val (.ref qc_), .val (.int (1)), .val (.ref qb_), .val (.int (1)), .val (.int (3)), .val (.int (1)), .val (.int d1_)]) rfl ?_
  refine k_iload C X d_jdk_52_method_21_code_15 rfl rfl ?_
  refine k_sipush C X d_jdk_52_method_21_code_17 rfl (v := 255) rfl ?_
  refine k_icmp_le C X d_jdk_52_method_21_code_20 rfl (tpc := 26) rfl (fun _ => ?_) (fun hc => (g1 hc : False).elim)
  refine k_aloadN C X d_jdk_52_method_21_code_26 rfl rfl rfl ?_
  refine k_iloadN C X d_jdk_52_method_21_code_27 rfl rfl ?_
  refine k_iload C X d_jdk_52_method_21_code_28 rfl rfl ?_
  refine k_i2b C X d_jdk_52_method_21_code_30 rfl ?_
  refine k_bastore C X d_jdk_52_method_21_code_31 rfl (ix := 1) (i := 1) rfl (by decide) (by decide) (Nat.le_of_ble_eq_true rfl) (vs' := [(.int (nar .byte d0_.toInt8.toInt32)), (.int (nar .byte d1_.toInt8.toInt32)), (.int 0)]) rfl (L' := (qc_, own_ar Z .char [(.int d0_), (.int d1_), (.int d2_)]) :: (qb_, own_ar Z .byte [(.int (nar .byte d0_.toInt8.toInt32)), (.int (nar .byte d1_.toInt8.toInt32)), (.int 0)]) :: L) rfl (fun T X => ?_)
  refine k_iinc C X d_jdk_52_method_21_code_32 rfl (v := 1) rfl rfl (l' := #[.val (.ref qc_), .val (.int (2)), .val (.ref qb_), .val (.int (1)), .val (.int (3)), .val (.int (1)), .val (.int d1_)]) rfl ?_
  refine k_iinc C X d_jdk_52_method_21_code_35 rfl (v := 1) rfl rfl (l' := #[.val (.ref qc_), .val (.int (2)), .val (.ref qb_), .val (.int (2)), .val (.int (3)), .val (.int (1)), .val (.int d1_)]) rfl ?_
  refine k_iinc C X d_jdk_52_method_21_code_38 rfl (v := 1) rfl rfl (l' := #[.val (.ref qc_), .val (.int (2)), .val (.ref qb_), .val (.int (2)), .val (.int (3)), .val (.int (2)), .val (.int d1_)]) rfl ?_
  refine k_goto C X d_jdk_52_method_21_code_41 (tpc := 3) rfl ?_
  refine k_iload C X d_jdk_52_method_21_code_3 rfl rfl ?_
  refine k_iload C X d_jdk_52_method_21_code_5 rfl rfl ?_
  refine k_icmp_ge C X d_jdk_52_method_21_code_7 rfl (tpc := 44) rfl (fun hc => (absurd hc (by decide) : False).elim) (fun _ => ?_)
  refine k_aloadN C X d_jdk_52_method_21_code_10 rfl rfl rfl ?_
  refine k_iloadN C X d_jdk_52_method_21_code_11 rfl rfl ?_
  refine k_caload C X d_jdk_52_method_21_code_12 rfl (ix := 0) (i := 2) rfl (by decide) (by decide) rfl ?_
  refine k_istore C X d_jdk_52_method_21_code_13 rfl (l' := #[.val (.ref qc_), .val (.int (2)), .val (.ref qb_), .val (.int (2)), .val (.int (3)), .val (.int (2)), .val (.int d2_)]) rfl ?_
  refine k_iload C X d_jdk_52_method_21_code_15 rfl rfl ?_
  refine k_sipush C X d_jdk_52_method_21_code_17 rfl (v := 255) rfl ?_
  refine k_icmp_le C X d_jdk_52_method_21_code_20 rfl (tpc := 26) rfl (fun hc => (hc g2 : False).elim) (fun _ => ?_)
  refine k_iload C X d_jdk_52_method_21_code_23 rfl rfl ?_
  exact k_ireturn C X d_jdk_52_method_21_code_25 (by simp) rfl ⟨rfl, rfl⟩ (by decide) (by decide)
def rm_own_cmp1_32 : Room := { frames := 3, cells := 2, slots := 9, locals := 40 }
set_option maxRecDepth 65536 in
set_option maxHeartbeats 40000000 in
theorem own_cmp1_32 (l : Launch) (Z : State) (a0 : Array Value) (hw : ∀ d ∈ tables_1, d.before a0 Z = true) (qc_ : Addr) (d0_ : Int32) (d1_ : Int32) (d2_ : Int32) (cs : Int32) (fm : Value) (hS : Sta Z Z.heap "java/lang/String" "COMPACT_STRINGS" "Z" (.int cs)) (hcs : ¬ cs = 0) (hAD : Sta Z Z.heap "java/lang/StringUTF16" "$assertionsDisabled" "Z" (.int 1)) (hHI : Sta Z Z.heap "java/lang/StringUTF16" "HI_BYTE_SHIFT" "I" (.int 0)) (hLO : Sta Z Z.heap "java/lang/StringUTF16" "LO_BYTE_SHIFT" "I" (.int 8)) (hFM : Sta Z Z.heap "jdk/internal/util/Preconditions" "SIOOBE_FORMATTER" "Ljava/util/function/BiFunction;" fm) (hfc : fm.category = 1) (c0 : own_ch d0_) (c1 : own_ch d1_) (c2 : own_ch d2_) (g0 : ¬ (255) < d0_) (g1 : ¬ (255) < d1_) (g2 : (255) < d2_) (L : List (Addr × (Cell → Prop))) :
    own_Con l Z (⟨"java/lang/StringUTF16", "compress", "([CII)[B"⟩ : MethodName) jdk_52_method_16_code 6 (some (.array .byte)) rm_own_cmp1_32 #[(.ref qc_), (.int (0)), (.int (3))] ((qc_, own_ar Z .char [(.int d0_), (.int d1_), (.int d2_)]) :: L) (fun v M => ∃ f1 o1, v = some (.ref f1) ∧ M = (f1, own_ar Z .byte [(.int (nar .byte ((d0_ >>> ((0) &&& 31 : Int32) : Int32).toInt8.toInt32))), (.int (nar .byte ((d0_ >>> ((8) &&& 31 : Int32) : Int32).toInt8.toInt32))), (.int (nar .byte ((d1_ >>> ((0) &&& 31 : Int32) : Int32).toInt8.toInt32))), (.int (nar .byte ((d1_ >>> ((8) &&& 31 : Int32) : Int32).toInt8.toInt32))), (.int (nar .byte ((d2_ >>> ((0) &&& 31 : Int32) : Int32).toInt8.toInt32))), (.int (nar .byte ((d2_ >>> ((8) &&& 31 : Int32) : Int32).toInt8.toInt32)))]) :: (qc_, own_ar Z .char [(.int d0_), (.int d1_), (.int d2_)]) :: (o1, own_ar Z .byte [(.int (nar .byte d0_.toInt8.toInt32)), (.int (nar .byte d1_.toInt8.toInt32)), (.int 0)]) :: L) := by
  refine own_con (ls := #[.val (.ref qc_), .val (.int (0)), .val (.int (3)), .unset, .unset, .unset]) (plainFor_of_name own_pn2) (fun m => own_ent m rfl) ?_
  intro p e s m below meth c T C X
  refine k_iloadN C X d_jdk_52_method_16_code_0 rfl rfl ?_
  refine k_newarray C X d_jdk_52_method_16_code_1 rfl (ty := .byte) rfl (hw _ (List.mem_of_getElem? (i := 16) rfl)) (by decide) (cap := 3) (by decide) (by decide) (by decide) (by decide) (vs := [(.int 0), (.int 0), (.int 0)]) rfl (fun T o1 X => ?_)
  refine k_astoreN C X d_jdk_52_method_16_code_3 rfl rfl (l' := #[.val (.ref qc_), .val (.int (0)), .val (.int (3)), .val (.ref o1), .unset, .unset]) rfl ?_
  refine k_aloadN C X d_jdk_52_method_16_code_4 rfl rfl rfl ?_
  refine k_iloadN C X d_jdk_52_method_16_code_5 rfl rfl ?_
  refine k_aloadN C X d_jdk_52_method_16_code_6 rfl rfl rfl ?_
  refine k_iconst C X d_jdk_52_method_16_code_7 rfl (v := 0) rfl ?_
  refine k_iloadN C X d_jdk_52_method_16_code_8 rfl rfl ?_
  replace X := X.bring (i := 1) rfl (M := (qc_, own_ar Z .char [(.int d0_), (.int d1_), (.int d2_)]) :: (o1, own_ar Z .byte [(.int 0), (.int 0), (.int 0)]) :: L) rfl
  refine k_static C X d_jdk_52_method_16_code_9 rfl (hw _ (List.mem_of_getElem? (i := 70) rfl)) (hw _ (List.mem_of_getElem? (i := 71) rfl)) (hw _ (List.mem_of_getElem? (i := 68) rfl)) (hw _ (List.mem_of_getElem? (i := 72) rfl)) (by decide) (own_cmp2_32 l Z a0 hw qc_ o1 d0_ d1_ d2_ cs fm hS hcs hAD hHI hLO hFM hfc c0 c1 c2 g0 g1 g2 (L)) (W := 0) (argsL := [(.ref qc_), (.int (0)), (.ref o1), (.int (0)), (.int (3))]) (rest := []) rfl rfl rfl own_pd23 rfl (Nat.le_of_eq rfl) (by decide) (by decide) (by decide) (by decide) (fun v T M hQ X => ?_)
  obtain ⟨rfl, rfl⟩ := hQ
  refine k_istore C X d_jdk_52_method_16_code_12 rfl (l' := #[.val (.ref qc_), .val (.int (0)), .val (.int (3)), .val (.ref o1), .val (.int (2)), .unset]) rfl ?_
  refine k_iload C X d_jdk_52_method_16_code_14 rfl rfl ?_
  refine k_iloadN C X d_jdk_52_method_16_code_16 rfl rfl ?_
  refine k_icmp_eq C X d_jdk_52_method_16_code_17 rfl (tpc := 57) rfl (fun hc => (absurd hc (by decide) : False).elim) (fun _ => ?_)
  refine k_aloadN C X d_jdk_52_method_16_code_20 rfl rfl rfl ?_
  refine k_iloadN C X d_jdk_52_method_16_code_21 rfl rfl ?_
  refine k_iloadN C X d_jdk_52_method_16_code_22 rfl rfl ?_
  refine k_static C X d_jdk_52_method_16_code_23 rfl (hw _ (List.mem_of_getElem? (i := 98) rfl)) (hw _ (List.mem_of_getElem? (i := 99) rfl)) (hw _ (List.mem_of_getElem? (i := 68) rfl)) (hw _ (List.mem_of_getElem? (i := 100) rfl)) (by decide) (own_tob3 l Z a0 hw qc_ d0_ d1_ d2_ cs fm hS hcs hAD hHI hLO hFM hfc ((o1, own_ar Z .byte [(.int (nar .byte d0_.toInt8.toInt32)), (.int (nar .byte d1_.toInt8.toInt32)), (.int 0)]) :: L)) (W := 0) (argsL := [(.ref qc_), (.int (0)), (.int (3))]) (rest := []) rfl rfl rfl own_pd24 rfl (Nat.le_of_eq rfl) (by decide) (by decide) (by decide) (by decide) (fun v T M hQ X => ?_)
  obtain ⟨f1, rfl, rfl⟩ := hQ
  refine k_astore C X d_jdk_52_method_16_code_26 rfl rfl (l' := #[.val (.ref qc_), .val (.int (0)), .val (.int (3)), .val (.ref o1), .val (.int (2)), .val (.ref f1)]) rfl ?_
  refine k_aload C X d_jdk_52_method_16_code_28 rfl rfl rfl ?_
  refine k_iload C X d_jdk_52_method_16_code_30 rfl rfl ?_
  refine k_static C X d_jdk_52_method_16_code_32 rfl (hw _ (List.mem_of_getElem? (i := 114) rfl)) (hw _ (List.mem_of_getElem? (i := 115) rfl)) (hw _ (List.mem_of_getElem? (i := 68) rfl)) (hw _ (List.mem_of_getElem? (i := 116) rfl)) (by decide) (own_get32 l Z a0 hw f1 (nar .byte ((d0_ >>> ((0) &&& 31 : Int32) : Int32).toInt8.toInt32)) (nar .byte ((d0_ >>> ((8) &&& 31 : Int32) : Int32).toInt8.toInt32)) (nar .byte ((d1_ >>> ((0) &&& 31 : Int32) : Int32).toInt8.toInt32)) (nar .byte ((d1_ >>> ((8) &&& 31 : Int32) : Int32).toInt8.toInt32)) (nar .byte ((d2_ >>> ((0) &&& 31 : Int32) : Int32).toInt8.toInt32)) (nar .byte ((d2_ >>> ((8) &&& 31 : Int32) : Int32).toInt8.toInt32)) cs fm hS hcs hAD hHI hLO hFM hfc ((qc_, own_ar Z .char [(.int d0_), (.int d1_), (.int d2_)]) :: (o1, own_ar Z .byte [(.int (nar .byte d0_.toInt8.toInt32)), (.int (nar .byte d1_.toInt8.toInt32)), (.int 0)]) :: L)) (W := 0) (argsL := [(.ref f1), (.int (2))]) (rest := []) rfl rfl rfl own_pd18 rfl (Nat.le_of_eq rfl) (by decide) (by decide) (by decide) (by decide) (fun v T M hQ X => ?_)
  obtain ⟨rfl, rfl⟩ := hQ
  refine k_sipush C X d_jdk_52_method_16_code_35 rfl (v := 255) rfl ?_
  refine k_icmp_gt C X d_jdk_52_method_16_code_38 rfl (tpc := 54) rfl (fun _ => ?_) (fun hc => (hc (own_gt c2 g2) : False).elim)
  refine k_aload C X d_jdk_52_method_16_code_54 rfl rfl rfl ?_
  exact k_areturn C X d_jdk_52_method_16_code_56 rfl rfl rfl ⟨f1, o1, rfl, rfl⟩ (by decide) (by decide)
def rm_own_si2_32 : Room := { frames := 4, cells := 2, slots := 9, locals := 57 }
set_option maxRecDepth 65536 in
set_option maxHeartbeats 40000000 in
theorem own_si2_32 (l : Launch) (Z : State) (a0 : Array Value) (hw : ∀ d ∈ tables_1, d.before a0 Z = true) (sa_ : Addr) (qc_ : Addr) (d0_ : Int32) (d1_ : Int32) (d2_ : Int32) (cs : Int32) (fm : Value) (hS : Sta Z Z.heap "java/lang/String" "COMPACT_STRINGS" "Z" (.int cs)) (hcs : ¬ cs = 0) (hAD : Sta Z Z.heap "java/lang/StringUTF16" "$assertionsDisabled" "Z" (.int 1)) (hHI : Sta Z Z.heap "java/lang/StringUTF16" "HI_BYTE_SHIFT" "I" (.int 0)) (hLO : Sta Z Z.heap "java/lang/StringUTF16" "LO_BYTE_SHIFT" "I" (.int 8)) (hFM : Sta Z Z.heap "jdk/internal/util/Preconditions" "SIOOBE_FORMATTER" "Ljava/util/function/BiFunction;" fm) (hfc : fm.category = 1) (c0 : own_ch d0_) (c1 : own_ch d1_) (c2 : own_ch d2_) (g0 : ¬ (255) < d0_) (g1 : ¬ (255) < d1_) (g2 : (255) < d2_) (L : List (Addr × (Cell → Prop))) :
    own_Con l Z (⟨"java/lang/String", "<init>", "([CIILjava/lang/Void;)V"⟩ : MethodName) jdk_42_method_149_code 6 none rm_own_si2_32 #[(.ref sa_), (.ref qc_), (.int (0)), (.int (3)), .null] ((sa_, own_ob Z "java/lang/String" [("value", "[B", .null), ("coder", "B", (.int (0)))]) :: (qc_, own_ar Z .char [(.int d0_), (.int d1_), (.int d2_)]) :: L) (fun v M => ∃ f1 f2, v = none ∧ M = (f1, own_ar Z .byte [(.int (nar .byte ((d0_ >>> ((0) &&& 31 : Int32) : Int32).toInt8.toInt32))), (.int (nar .byte ((d0_ >>> ((8) &&& 31 : Int32) : Int32).toInt8.toInt32))), (.int (nar .byte ((d1_ >>> ((0) &&& 31 : Int32) : Int32).toInt8.toInt32))), (.int (nar .byte ((d1_ >>> ((8) &&& 31 : Int32) : Int32).toInt8.toInt32))), (.int (nar .byte ((d2_ >>> ((0) &&& 31 : Int32) : Int32).toInt8.toInt32))), (.int (nar .byte ((d2_ >>> ((8) &&& 31 : Int32) : Int32).toInt8.toInt32)))]) :: (qc_, own_ar Z .char [(.int d0_), (.int d1_), (.int d2_)]) :: (f2, own_ar Z .byte [(.int (nar .byte d0_.toInt8.toInt32)), (.int (nar .byte d1_.toInt8.toInt32)), (.int 0)]) :: (sa_, own_ob Z "java/lang/String" [("value", "[B", (.ref f1)), ("coder", "B", (.int (1)))]) :: L) := by
  refine own_con (ls := #[.val (.ref sa_), .val (.ref qc_), .val (.int (0)), .val (.int (3)), .val .null, .unset]) (plainFor_of_name own_pn0) (fun m => own_ent m rfl) ?_
  intro p e s m below meth c T C X
  refine k_aloadN C X d_jdk_42_method_149_code_0 rfl rfl rfl ?_
  refine k_initO C X d_jdk_42_method_149_code_1 rfl (hw _ (List.mem_of_getElem? (i := 12) rfl)) (hw _ (List.mem_of_getElem? (i := 13) rfl)) (hw _ (List.mem_of_getElem? (i := 14) rfl)) rfl (W := 0) (Nat.le_of_eq rfl) (by decide) (by decide) (fun T X => ?_)
  refine k_iloadN C X d_jdk_42_method_149_code_4 rfl rfl ?_
  refine k_if_ne C X d_jdk_42_method_149_code_5 rfl (tpc := 27) rfl (fun _ => ?_) (fun hc => (absurd hc (by decide) : False).elim)
  refine k_getstatic C X d_jdk_42_method_149_code_27 rfl (hw _ (List.mem_of_getElem? (i := 60) rfl)) hS (fun T X => ?_)
  refine k_if_eq C X d_jdk_42_method_149_code_30 rfl (tpc := 58) rfl (fun hc => (hcs hc : False).elim) (fun _ => ?_)
  refine k_aloadN C X d_jdk_42_method_149_code_33 rfl rfl rfl ?_
  refine k_iloadN C X d_jdk_42_method_149_code_34 rfl rfl ?_
  refine k_iloadN C X d_jdk_42_method_149_code_35 rfl rfl ?_
  replace X := X.bring (i := 1) rfl (M := (qc_, own_ar Z .char [(.int d0_), (.int d1_), (.int d2_)]) :: (sa_, own_ob Z "java/lang/String" [("value", "[B", .null), ("coder", "B", (.int (0)))]) :: L) rfl
  refine k_static C X d_jdk_42_method_149_code_36 rfl (hw _ (List.mem_of_getElem? (i := 66) rfl)) (hw _ (List.mem_of_getElem? (i := 67) rfl)) (hw _ (List.mem_of_getElem? (i := 68) rfl)) (hw _ (List.mem_of_getElem? (i := 69) rfl)) (by decide) (own_cmp1_32 l Z a0 hw qc_ d0_ d1_ d2_ cs fm hS hcs hAD hHI hLO hFM hfc c0 c1 c2 g0 g1 g2 ((sa_, own_ob Z "java/lang/String" [("value", "[B", .null), ("coder", "B", (.int (0)))]) :: L)) (W := 0) (argsL := [(.ref qc_), (.int (0)), (.int (3))]) (rest := []) rfl rfl rfl own_pd24 rfl (Nat.le_of_eq rfl) (by decide) (by decide) (by decide) (by decide) (fun v T M hQ X => ?_)
  obtain ⟨f1, f2, rfl, rfl⟩ := hQ
  refine k_astore C X d_jdk_42_method_149_code_39 rfl rfl (l' := #[.val (.ref sa_), .val (.ref qc_), .val (.int (0)), .val (.int (3)), .val .null, .val (.ref f1)]) rfl ?_
  refine k_aloadN C X d_jdk_42_method_149_code_41 rfl rfl rfl ?_
  refine k_aload C X d_jdk_42_method_149_code_42 rfl rfl rfl ?_
  refine k_iloadN C X d_jdk_42_method_149_code_44 rfl rfl ?_
  refine k_static C X d_jdk_42_method_149_code_45 rfl (hw _ (List.mem_of_getElem? (i := 73) rfl)) (hw _ (List.mem_of_getElem? (i := 74) rfl)) (hw _ (List.mem_of_getElem? (i := 68) rfl)) (hw _ (List.mem_of_getElem? (i := 75) rfl)) (by decide) (own_cl36 l Z a0 hw f1 (nar .byte ((d0_ >>> ((0) &&& 31 : Int32) : Int32).toInt8.toInt32)) (nar .byte ((d0_ >>> ((8) &&& 31 : Int32) : Int32).toInt8.toInt32)) (nar .byte ((d1_ >>> ((0) &&& 31 : Int32) : Int32).toInt8.toInt32)) (nar .byte ((d1_ >>> ((8) &&& 31 : Int32) : Int32).toInt8.toInt32)) (nar .byte ((d2_ >>> ((0) &&& 31 : Int32) : Int32).toInt8.toInt32)) (nar .byte ((d2_ >>> ((8) &&& 31 : Int32) : Int32).toInt8.toInt32)) cs fm hS hcs hAD hHI hLO hFM hfc ((qc_, own_ar Z .char [(.int d0_), (.int d1_), (.int d2_)]) :: (f2, own_ar Z .byte [(.int (nar .byte d0_.toInt8.toInt32)), (.int (nar .byte d1_.toInt8.toInt32)), (.int 0)]) :: (sa_, own_ob Z "java/lang/String" [("value", "[B", .null), ("coder", "B", (.int (0)))]) :: L)) (W := 1) (argsL := [(.ref f1), (.int (3))]) (rest := [(.ref sa_)]) rfl rfl rfl own_pd25 rfl (Nat.le_of_eq rfl) (by decide) (by decide) (by decide) (by decide) (fun v T M hQ X => ?_)
  obtain ⟨rfl, rfl⟩ := hQ
  refine k_putfield C X d_jdk_42_method_149_code_48 rfl (host := "") (Or.inl (hw _ (List.mem_of_getElem? (i := 22) rfl))) (hw _ (List.mem_of_getElem? (i := 2) rfl)) (Or.inr ⟨(hw _ (List.mem_of_getElem? (i := 18) rfl)), rfl, rfl⟩) (own_lay_String hw) own_lay_String_nd (ix := 3) (j := 1) rfl rfl rfl (fs' := [("value", "[B", .null), ("coder", "B", (.int (1)))]) rfl (ty := .byte) (by decide) rfl rfl (L' := (f1, own_ar Z .byte [(.int (nar .byte ((d0_ >>> ((0) &&& 31 : Int32) : Int32).toInt8.toInt32))), (.int (nar .byte ((d0_ >>> ((8) &&& 31 : Int32) : Int32).toInt8.toInt32))), (.int (nar .byte ((d1_ >>> ((0) &&& 31 : Int32) : Int32).toInt8.toInt32))), (.int (nar .byte ((d1_ >>> ((8) &&& 31 : Int32) : Int32).toInt8.toInt32))), (.int (nar .byte ((d2_ >>> ((0) &&& 31 : Int32) : Int32).toInt8.toInt32))), (.int (nar .byte ((d2_ >>> ((8) &&& 31 : Int32) : Int32).toInt8.toInt32)))]) :: (qc_, own_ar Z .char [(.int d0_), (.int d1_), (.int d2_)]) :: (f2, own_ar Z .byte [(.int (nar .byte d0_.toInt8.toInt32)), (.int (nar .byte d1_.toInt8.toInt32)), (.int 0)]) :: (sa_, own_ob Z "java/lang/String" [("value", "[B", .null), ("coder", "B", (.int (1)))]) :: L) rfl (fun T X => ?_)
  refine k_aloadN C X d_jdk_42_method_149_code_51 rfl rfl rfl ?_
  refine k_aload C X d_jdk_42_method_149_code_52 rfl rfl rfl ?_
  refine k_putfield C X d_jdk_42_method_149_code_54 rfl (host := "") (Or.inl (hw _ (List.mem_of_getElem? (i := 21) rfl))) (hw _ (List.mem_of_getElem? (i := 2) rfl)) (Or.inr ⟨(hw _ (List.mem_of_getElem? (i := 17) rfl)), rfl, rfl⟩) (own_lay_String hw) own_lay_String_nd (ix := 3) (j := 0) rfl rfl rfl (fs' := [("value", "[B", (.ref f1)), ("coder", "B", (.int (1)))]) rfl (ty := (.array .byte)) (by decide) rfl rfl (L' := (f1, own_ar Z .byte [(.int (nar .byte ((d0_ >>> ((0) &&& 31 : Int32) : Int32).toInt8.toInt32))), (.int (nar .byte ((d0_ >>> ((8) &&& 31 : Int32) : Int32).toInt8.toInt32))), (.int (nar .byte ((d1_ >>> ((0) &&& 31 : Int32) : Int32).toInt8.toInt32))), (.int (nar .byte ((d1_ >>> ((8) &&& 31 : Int32) : Int32).toInt8.toInt32))), (.int (nar .byte ((d2_ >>> ((0) &&& 31 : Int32) : Int32).toInt8.toInt32))), (.int (nar .byte ((d2_ >>> ((8) &&& 31 : Int32) : Int32).toInt8.toInt32)))]) :: (qc_, own_ar Z .char [(.int d0_), (.int d1_), (.int d2_)]) :: (f2, own_ar Z .byte [(.int (nar .byte d0_.toInt8.toInt32)), (.int (nar .byte d1_.toInt8.toInt32)), (.int 0)]) :: (sa_, own_ob Z "java/lang/String" [("value", "[B", (.ref f1)), ("coder", "B", (.int (1)))]) :: L) rfl (fun T X => ?_)
  exact k_return C X d_jdk_42_method_149_code_57 ⟨f1, f2, rfl, rfl⟩ (by decide) (by decide)
def rm_own_si1_32 : Room := { frames := 5, cells := 2, slots := 9, locals := 74 }
set_option maxRecDepth 65536 in
set_option maxHeartbeats 40000000 in
theorem own_si1_32 (l : Launch) (Z : State) (a0 : Array Value) (hw : ∀ d ∈ tables_1, d.before a0 Z = true) (sa_ : Addr) (qc_ : Addr) (d0_ : Int32) (d1_ : Int32) (d2_ : Int32) (cs : Int32) (fm : Value) (hS : Sta Z Z.heap "java/lang/String" "COMPACT_STRINGS" "Z" (.int cs)) (hcs : ¬ cs = 0) (hAD : Sta Z Z.heap "java/lang/StringUTF16" "$assertionsDisabled" "Z" (.int 1)) (hHI : Sta Z Z.heap "java/lang/StringUTF16" "HI_BYTE_SHIFT" "I" (.int 0)) (hLO : Sta Z Z.heap "java/lang/StringUTF16" "LO_BYTE_SHIFT" "I" (.int 8)) (hFM : Sta Z Z.heap "jdk/internal/util/Preconditions" "SIOOBE_FORMATTER" "Ljava/util/function/BiFunction;" fm) (hfc : fm.category = 1) (c0 : own_ch d0_) (c1 : own_ch d1_) (c2 : own_ch d2_) (g0 : ¬ (255) < d0_) (g1 : ¬ (255) < d1_) (g2 : (255) < d2_) (L : List (Addr × (Cell → Prop))) :
    own_Con l Z (⟨"java/lang/String", "<init>", "([C)V"⟩ : MethodName) jdk_42_method_3_code 2 none rm_own_si1_32 #[(.ref sa_), (.ref qc_)] ((sa_, own_ob Z "java/lang/String" [("value", "[B", .null), ("coder", "B", (.int (0)))]) :: (qc_, own_ar Z .char [(.int d0_), (.int d1_), (.int d2_)]) :: L) (fun v M => ∃ f1 f2, v = none ∧ M = (f1, own_ar Z .byte [(.int (nar .byte ((d0_ >>> ((0) &&& 31 : Int32) : Int32).toInt8.toInt32))), (.int (nar .byte ((d0_ >>> ((8) &&& 31 : Int32) : Int32).toInt8.toInt32))), (.int (nar .byte ((d1_ >>> ((0) &&& 31 : Int32) : Int32).toInt8.toInt32))), (.int (nar .byte ((d1_ >>> ((8) &&& 31 : Int32) : Int32).toInt8.toInt32))), (.int (nar .byte ((d2_ >>> ((0) &&& 31 : Int32) : Int32).toInt8.toInt32))), (.int (nar .byte ((d2_ >>> ((8) &&& 31 : Int32) : Int32).toInt8.toInt32)))]) :: (qc_, own_ar Z .char [(.int d0_), (.int d1_), (.int d2_)]) :: (f2, own_ar Z .byte [(.int (nar .byte d0_.toInt8.toInt32)), (.int (nar .byte d1_.toInt8.toInt32)), (.int 0)]) :: (sa_, own_ob Z "java/lang/String" [("value", "[B", (.ref f1)), ("coder", "B", (.int (1)))]) :: L) := by
  refine own_con (ls := #[.val (.ref sa_), .val (.ref qc_)]) (plainFor_of_name own_pn0) (fun m => own_ent m rfl) ?_
  intro p e s m below meth c T C X
  refine k_aloadN C X d_jdk_42_method_3_code_0 rfl rfl rfl ?_
  refine k_aloadN C X d_jdk_42_method_3_code_1 rfl rfl rfl ?_
  refine k_iconst C X d_jdk_42_method_3_code_2 rfl (v := 0) rfl ?_
  refine k_aloadN C X d_jdk_42_method_3_code_3 rfl rfl rfl ?_
  refine k_arraylength C X d_jdk_42_method_3_code_4 rfl (ix := 1) rfl (z := (3)) rfl ?_
  refine k_aconst_null C X d_jdk_42_method_3_code_5 rfl ?_
  replace X := X.bring (i := 1) rfl (M := (qc_, own_ar Z .char [(.int d0_), (.int d1_), (.int d2_)]) :: (sa_, own_ob Z "java/lang/String" [("value", "[B", .null), ("coder", "B", (.int (0)))]) :: L) rfl
  replace X := X.bring (i := 1) rfl (M := (sa_, own_ob Z "java/lang/String" [("value", "[B", .null), ("coder", "B", (.int (0)))]) :: (qc_, own_ar Z .char [(.int d0_), (.int d1_), (.int d2_)]) :: L) rfl
  refine k_init C X d_jdk_42_method_3_code_6 rfl rfl (hw _ (List.mem_of_getElem? (i := 8) rfl)) (hw _ (List.mem_of_getElem? (i := 9) rfl)) (hw _ (List.mem_of_getElem? (i := 3) rfl)) (hw _ (List.mem_of_getElem? (i := 11) rfl)) (by decide) (own_si2_32 l Z a0 hw sa_ qc_ d0_ d1_ d2_ cs fm hS hcs hAD hHI hLO hFM hfc c0 c1 c2 g0 g1 g2 (L)) (W := 0) (argsL := [(.ref qc_), (.int (0)), (.int (3)), .null]) (rest := []) rfl rfl rfl own_pd0 rfl (Nat.le_of_eq rfl) (by decide) (by decide) (by decide) (by decide) (fun v T M hQ X => ?_)
  obtain ⟨f1, f2, rfl, rfl⟩ := hQ
  exact k_return C X d_jdk_42_method_3_code_9 ⟨f1, f2, rfl, rfl⟩ (by decide) (by decide)
def rm_own_cmp2_33 : Room := { frames := 0, cells := 0, slots := 0, locals := 0 }
set_option maxRecDepth 65536 in
set_option maxHeartbeats 40000000 in
theorem own_cmp2_33 (l : Launch) (Z : State) (a0 : Array Value) (hw : ∀ d ∈ tables_1, d.before a0 Z = true) (qc_ : Addr) (qb_ : Addr) (d0_ : Int32) (d1_ : Int32) (d2_ : Int32) (cs : Int32) (fm : Value) (hS : Sta Z Z.heap "java/lang/String" "COMPACT_STRINGS" "Z" (.int cs)) (hcs : ¬ cs = 0) (hAD : Sta Z Z.heap "java/lang/StringUTF16" "$assertionsDisabled" "Z" (.int 1)) (hHI : Sta Z Z.heap "java/lang/StringUTF16" "HI_BYTE_SHIFT" "I" (.int 0)) (hLO : Sta Z Z.heap "java/lang/StringUTF16" "LO_BYTE_SHIFT" "I" (.int 8)) (hFM : Sta Z Z.heap "jdk/internal/util/Preconditions" "SIOOBE_FORMATTER" "Ljava/util/function/BiFunction;" fm) (hfc : fm.category = 1) (c0 : own_ch d0_) (c1 : own_ch d1_) (c2 : own_ch d2_) (g0 : ¬ (255) < d0_) (g1 : ¬ (255) < d1_) (g2 : ¬ (255) < d2_) (L : List (Addr × (Cell → Prop))) :
    own_Con l Z (⟨"java/lang/StringUTF16", "compress", "([CI[BII)I"⟩ : MethodName) jdk_52_method_21_code 7 (some .int) rm_own_cmp2_33 #[(.ref qc_), (.int (0)), (.ref qb_), (.int (0)), (.int (3))] ((qc_, own_ar Z .char [(.int d0_), (.int d1_), (.int d2_)]) :: (qb_, own_ar Z .byte [(.int 0), (.int 0), (.int 0)]) :: L) (fun v M => v = some (.int (3)) ∧ M = (qc_, own_ar Z .char [(.int d0_), (.int d1_), (.int d2_)]) :: (qb_, own_ar Z .byte [(.int (nar .byte d0_.toInt8.toInt32)), (.int (nar .byte d1_.toInt8.toInt32)), (.int (nar .byte d2_.toInt8.toInt32))]) :: L) := by
  refine own_con (ls := #[.val (.ref qc_), .val (.int (0)), .val (.ref qb_), .val (.int (0)), .val (.int (3)), .unset, .unset]) (plainFor_of_name own_pn2) (fun m => own_ent m rfl) ?_
  intro p e s m below meth c T C X
  refine k_iconst C X d_jdk_52_method_21_code_0 rfl (v := 0) rfl ?_
  refine k_istore C X d_jdk_52_method_21_code_1 rfl (l' := #[.val (.ref qc_), .val (.int (0)), .val (.ref qb_), .val (.int (0)), .val (.int (3)), .val (.int (0)), .unset]) rfl ?_
  refine k_iload C X d_jdk_52_method_21_code_3 rfl rfl ?_
  refine k_iload C X d_jdk_52_method_21_code_5 rfl rfl ?_
  refine k_icmp_ge C X d_jdk_52_method_21_code_7 rfl (tpc := 44) rfl (fun hc => (absurd hc (by decide) : False).elim) (fun _ => ?_)
  refine k_aloadN C X d_jdk_52_method_21_code_10 rfl rfl rfl ?_
  refine k_iloadN C X d_jdk_52_method_21_code_11 rfl rfl ?_
  refine k_caload C X d_jdk_52_method_21_code_12 rfl (ix := 0) (i := 0) rfl (by decide) (by decide) rfl ?_
  refine k_istore C X d_jdk_52_method_21_code_13 rfl (l' := #[.val (.ref qc_), .val (.int (0)), .val (.ref qb_), .val (.int (0)), .val (.int (3)), .val (.int (0)), .val (.int d0_)]) rfl ?_
  refine k_iload C X d_jdk_52_method_21_code_15 rfl rfl ?_
  refine k_sipush C X d_jdk_52_method_21_code_17 rfl (v := 255) rfl ?_
  refine k_icmp_le C X d_jdk_52_method_21_code_20 rfl (tpc := 26) rfl (fun _ => ?_) (fun hc => (g0 hc : False).elim)
  refine k_aloadN C X d_jdk_52_method_21_code_26 rfl rfl rfl ?_
  refine k_iloadN C X d_jdk_52_method_21_code_27 rfl rfl ?_
  refine k_iload C X d_jdk_52_method_21_code_28 rfl rfl ?_
  refine k_i2b C X d_jdk_52_method_21_code_30 rfl ?_
  refine k_bastore C X d_jdk_52_method_21_code_31 rfl (ix := 1) (i := 0) rfl (by decide) (by decide) (Nat.le_of_ble_eq_true rfl) (vs' := [(.int (nar .byte d0_.toInt8.toInt32)), (.int 0), (.int 0)]) rfl (L' := (qc_, own_ar Z .char [(.int d0_), (.int d1_), (.int d2_)]) :: (qb_, own_ar Z .byte [(.int (nar .byte d0_.toInt8.toInt32)), (.int 0), (.int 0)]) :: L) rfl (fun T X => ?_)
  refine k_iinc C X d_jdk_52_method_21_code_32 rfl (v := 1) rfl rfl (l' := #[.val (.ref qc_), .val (.int (1)), .val (.ref qb_), .val (.int (0)), .val (.int (3)), .val (.int (0)), .val (.int d0_)]) rfl ?_
  refine k_iinc C X d_jdk_52_method_21_code_35 rfl (v := 1) rfl rfl (l' := #[.val (.ref qc_), .val (.int (1)), .val (.ref qb_), .val (.int (1)), .val (.int (3)), .val (.int (0)), .val (.int d0_)]) rfl ?_
  refine k_iinc C X d_jdk_52_method_21_code_38 rfl (v := 1) rfl rfl (l' := #[.val (.ref qc_), .val (.int (1)), .val (.ref qb_), .val (.int (1)), .val (.int (3)), .val (.int (1)), .val (.int d0_)]) rfl ?_
  refine k_goto C X d_jdk_52_method_21_code_41 (tpc := 3) rfl ?_
  refine k_iload C X d_jdk_52_method_21_code_3 rfl rfl ?_
  refine k_iload C X d_jdk_52_method_21_code_5 rfl rfl ?_
  refine k_icmp_ge C X d_jdk_52_method_21_code_7 rfl (tpc := 44) rfl (fun hc => (absurd hc (by decide) : False).elim) (fun _ => ?_)
  refine k_aloadN C X d_jdk_52_method_21_code_10 rfl rfl rfl ?_
  refine k_iloadN C X d_jdk_52_method_21_code_11 rfl rfl ?_
  refine k_caload C X d_jdk_52_method_21_code_12 rfl (ix := 0) (i := 1) rfl (by decide) (by decide) rfl ?_
  refine k_istore C X d_jdk_52_method_21_code_13 rfl (l' := #[.val (.ref qc_), .val (.int (1)), .val (.ref qb_), .val (.int (1)), .val (.int (3)), .val (.int (1)), .val (.int d1_)]) rfl ?_
  refine k_iload C X d_jdk_52_method_21_code_15 rfl rfl ?_
  refine k_sipush C X d_jdk_52_method_21_code_17 rfl (v := 255) rfl ?_
  refine k_icmp_le C X d_jdk_52_method_21_code_20 rfl (tpc := 26) rfl (fun _ => ?_) (fun hc => (g1 hc : False).elim)
  refine k_aloadN C X d_jdk_52_method_21_code_26 rfl rfl rfl ?_
  refine k_iloadN C X d_jdk_52_method_21_code_27 rfl rfl ?_
  refine k_iload C X d_jdk_52_method_21_code_28 rfl rfl ?_
  refine k_i2b C X d_jdk_52_method_21_code_30 rfl ?_
  refine k_bastore C X d_jdk_52_method_21_code_31 rfl (ix := 1) (i := 1) rfl (by decide) (by decide) (Nat.le_of_ble_eq_true rfl) (vs' := [(.int (nar .byte d0_.toInt8.toInt32)), (.int (nar .byte d1_.toInt8.toInt32)), (.int 0)]) rfl (L' := (qc_, own_ar Z .char [(.int d0_), (.int d1_), (.int d2_)]) :: (qb_, own_ar Z .byte [(.int (nar .byte d0_.toInt8.toInt32)), (.int (nar .byte d1_.toInt8.toInt32)), (.int 0)]) :: L) rfl (fun T X => ?_)
  refine k_iinc C X d_jdk_52_method_21_code_32 rfl (v := 1) rfl rfl (l' := #[.val (.ref qc_), .val (.int (2)), .val (.ref qb_), .val (.int (1)), .val (.int (3)), .val (.int (1)), .val (.int d1_)]) rfl ?_
  refine k_iinc C X d_jdk_52_method_21_code_35 rfl (v := 1) rfl rfl (l' := #[.val (.ref qc_), .val (.int (2)), .val (.ref qb_), .val (.int (2)), .val (.int (3)), .val (.int (1)), .val (.int d1_)]) rfl ?_
  refine k_iinc C X d_jdk_52_method_21_code_38 rfl (v := 1) rfl rfl (l' := #[.val (.ref qc_), .val (.int (2)), .val (.ref qb_), .val (.int (2)), .val (.int (3)), .val (.int (2)), .val (.int d1_)]) rfl ?_
  refine k_goto C X d_jdk_52_method_21_code_41 (tpc := 3) rfl ?_
  refine k_iload C X d_jdk_52_method_21_code_3 rfl rfl ?_
  refine k_iload C X d_jdk_52_method_21_code_5 rfl rfl ?_
  refine k_icmp_ge C X d_jdk_52_method_21_code_7 rfl (tpc := 44) rfl (fun hc => (absurd hc (by decide) : False).elim) (fun _ => ?_)
  refine k_aloadN C X d_jdk_52_method_21_code_10 rfl rfl rfl ?_
  refine k_iloadN C X d_jdk_52_method_21_code_11 rfl rfl ?_
  refine k_caload C X d_jdk_52_method_21_code_12 rfl (ix := 0) (i := 2) rfl (by decide) (by decide) rfl ?_
  refine k_istore C X d_jdk_52_method_21_code_13 rfl (l' := #[.val (.ref qc_), .val (.int (2)), .val (.ref qb_), .val (.int (2)), .val (.int (3)), .val (.int (2)), .val (.int d2_)]) rfl ?_
  refine k_iload C X d_jdk_52_method_21_code_15 rfl rfl ?_
  refine k_sipush C X d_jdk_52_method_21_code_17 rfl (v := 255) rfl ?_
  refine k_icmp_le C X d_jdk_52_method_21_code_20 rfl (tpc := 26) rfl (fun _ => ?_) (fun hc => (g2 hc : False).elim)
  refine k_aloadN C X d_jdk_52_method_21_code_26 rfl rfl rfl ?_
  refine k_iloadN C X d_jdk_52_method_21_code_27 rfl rfl ?_
  refine k_iload C X d_jdk_52_method_21_code_28 rfl rfl ?_
  refine k_i2b C X d_jdk_52_method_21_code_30 rfl ?_
  refine k_bastore C X d_jdk_52_method_21_code_31 rfl (ix := 1) (i := 2) rfl (by decide) (by decide) (Nat.le_of_ble_eq_true rfl) (vs' := [(.int (nar .byte d0_.toInt8.toInt32)), (.int (nar .byte d1_.toInt8.toInt32)), (.int (nar .byte d2_.toInt8.toInt32))]) rfl (L' := (qc_, own_ar Z .char [(.int d0_), (.int d1_), (.int d2_)]) :: (qb_, own_ar Z .byte [(.int (nar .byte d0_.toInt8.toInt32)), (.int (nar .byte d1_.toInt8.toInt32)), (.int (nar .byte d2_.toInt8.toInt32))]) :: L) rfl (fun T X => ?_)
  refine k_iinc C X d_jdk_52_method_21_code_32 rfl (v := 1) rfl rfl (l' := #[.val (.ref qc_), .val (.int (3)), .val (.ref qb_), .val (.int (2)), .val (.int (3)), .val (.int (2)), .val (.int d2_)]) rfl ?_
  refine k_iinc C X d_jdk_52_method_21_code_35 rfl (v := 1) rfl rfl (l' := #[.val (.ref qc_), .val (.int (3)), .val (.ref qb_), .val (.int (3)), .val (.int (3)), .val (.int (2)), .val (.int d2_)]) rfl ?_
  refine k_iinc C X d_jdk_52_method_21_code_38 rfl (v := 1) rfl rfl (l' := #[.val (.ref qc_), .val (.int (3)), .val (.ref qb_), .val (.int (3)), .val (.int (3)), .val (.int (3)), .val (.int d2_)]) rfl ?_
  refine k_goto C X d_jdk_52_method_21_code_41 (tpc := 3) rfl ?_
  refine k_iload C X d_jdk_52_method_21_code_3 rfl rfl ?_
  refine k_iload C X d_jdk_52_method_21_code_5 rfl rfl ?_
  refine k_icmp_ge C X d_jdk_52_method_21_code_7 rfl (tpc := 44) rfl (fun _ => ?_) (fun hc => (absurd hc (by decide) : False).elim)
  refine k_iload C X d_jdk_52_method_21_code_44 rfl rfl ?_
  exact k_ireturn C X d_jdk_52_method_21_code_46 (by simp) rfl ⟨rfl, rfl⟩ (by decide) (by decide)
def rm_own_cmp1_33 : Room := { frames := 1, cells := 1, slots := 3, locals := 18 }
set_option maxRecDepth 65536 in
set_option maxHeartbeats 40000000 in
theorem own_cmp1_33 (l : Launch) (Z : State) (a0 : Array Value) (hw : ∀ d ∈ tables_1, d.before a0 Z = true) (qc_ : Addr) (d0_ : Int32) (d1_ : Int32) (d2_ : Int32) (cs : Int32) (fm : Value) (hS : Sta Z Z.heap "java/lang/String" "COMPACT_STRINGS" "Z" (.int cs)) (hcs : ¬ cs = 0) (hAD : Sta Z Z.heap "java/lang/StringUTF16" "$assertionsDisabled" "Z" (.int 1)) (hHI : Sta Z Z.heap "java/lang/StringUTF16" "HI_BYTE_SHIFT" "I" (.int 0)) (hLO : Sta Z Z.heap "java/lang/StringUTF16" "LO_BYTE_SHIFT" "I" (.int 8)) (hFM : Sta Z Z.heap "jdk/internal/util/Preconditions" "SIOOBE_FORMATTER" "Ljava/util/function/BiFunction;" fm) (hfc : fm.category = 1) (c0 : own_ch d0_) (c1 : own_ch d1_) (c2 : own_ch d2_) (g0 : ¬ (255) < d0_) (g1 : ¬ (255) < d1_) (g2 : ¬ (255) < d2_) (L : List (Addr × (Cell → Prop))) :
    own_Con l Z (⟨"java/lang/StringUTF16", "compress", "([CII)[B"⟩ : MethodName) jdk_52_method_16_code 6 (some (.array .byte)) rm_own_cmp1_33 #[(.ref qc_), (.int (0)), (.int (3))] ((qc_, own_ar Z .char [(.int d0_), (.int d1_), (.int d2_)]) :: L) (fun v M => ∃ o1, v = some (.ref o1) ∧ M = (qc_, own_ar Z .char [(.int d0_), (.int d1_), (.int d2_)]) :: (o1, own_ar Z .byte [(.int (nar .byte d0_.toInt8.toInt32)), (.int (nar .byte d1_.toInt8.toInt32)), (.int (nar .byte d2_.toInt8.toInt32))]) :: L) := by
  refine own_con (ls := #[.val (.ref qc_), .val (.int (0)), .val (.int (3)), .unset, .unset, .unset]) (plainFor_of_name own_pn2) (fun m => own_ent m rfl) ?_
  intro p e s m below meth c T C X
  refine k_iloadN C X d_jdk_52_method_16_code_0 rfl rfl ?_
  refine k_newarray C X d_jdk_52_method_16_code_1 rfl (ty := .byte) rfl (hw _ (List.mem_of_getElem? (i := 16) rfl)) (by decide) (cap := 3) (by decide) (by decide) (by decide) (by decide) (vs := [(.int 0), (.int 0), (.int 0)]) rfl (fun T o1 X => ?_)
  refine k_astoreN C X d_jdk_52_method_16_code_3 rfl rfl (l' := #[.val (.ref qc_), .val (.int (0)), .val (.int (3)), .val (.ref o1), .unset, .unset]) rfl ?_
  refine k_aloadN C X d_jdk_52_method_16_code_4 rfl rfl rfl ?_
  refine k_iloadN C X d_jdk_52_method_16_code_5 rfl rfl ?_
  refine k_aloadN C X d_jdk_52_method_16_code_6 rfl rfl rfl ?_
  refine k_iconst C X d_jdk_52_method_16_code_7 rfl (v := 0) rfl ?_
  refine k_iloadN C X d_jdk_52_method_16_code_8 rfl rfl ?_
  replace X := X.bring (i := 1) rfl (M := (qc_, own_ar Z .char [(.int d0_), (.int d1_), (.int d2_)]) :: (o1, own_ar Z .byte [(.int 0), (.int 0), (.int 0)]) :: L) rfl
  refine k_static C X d_jdk_52_method_16_code_9 rfl (hw _ (List.mem_of_getElem? (i := 70) rfl)) (hw _ (List.mem_of_getElem? (i := 71) rfl)) (hw _ (List.mem_of_getElem? (i := 68) rfl)) (hw _ (List.mem_of_getElem? (i := 72) rfl)) (by decide) (own_cmp2_33 l Z a0 hw qc_ o1 d0_ d1_ d2_ cs fm hS hcs hAD hHI hLO hFM hfc c0 c1 c2 g0 g1 g2 (L)) (W := 0) (argsL := [(.ref qc_), (.int (0)), (.ref o1), (.int (0)), (.int (3))]) (rest := []) rfl rfl rfl own_pd23 rfl (Nat.le_of_eq rfl) (by decide) (by decide) (by decide) (by decide) (fun v T M hQ X => ?_)
  obtain ⟨rfl, rfl⟩ := hQ
  refine k_istore C X d_jdk_52_method_16_code_12 rfl (l' := #[.val (.ref qc_), .val (.int (0)), .val (.int (3)), .val (.ref o1), .val (.int (3)), .unset]) rfl ?_
  refine k_iload C X d_jdk_52_method_16_code_14 rfl rfl ?_
  refine k_iloadN C X d_jdk_52_method_16_code_16 rfl rfl ?_
  refine k_icmp_eq C X d_jdk_52_method_16_code_17 rfl (tpc := 57) rfl (fun _ => ?_) (fun hc => (absurd hc (by decide) : False).elim)
  refine k_aloadN C X d_jdk_52_method_16_code_57 rfl rfl rfl ?_
  exact k_areturn C X d_jdk_52_method_16_code_58 rfl rfl rfl ⟨o1, rfl, rfl⟩ (by decide) (by decide)
def rm_own_cl33 : Room := { frames := 0, cells := 0, slots := 0, locals := 0 }
set_option maxRecDepth 65536 in
set_option maxHeartbeats 40000000 in
theorem own_cl33 (l : Launch) (Z : State) (a0 : Array Value) (hw : ∀ d ∈ tables_1, d.before a0 Z = true) (qb_ : Addr) (e0_ : Int32) (e1_ : Int32) (e2_ : Int32) (cs : Int32) (fm : Value) (hS : Sta Z Z.heap "java/lang/String" "COMPACT_STRINGS" "Z" (.int cs)) (hcs : ¬ cs = 0) (hAD : Sta Z Z.heap "java/lang/StringUTF16" "$assertionsDisabled" "Z" (.int 1)) (hHI : Sta Z Z.heap "java/lang/StringUTF16" "HI_BYTE_SHIFT" "I" (.int 0)) (hLO : Sta Z Z.heap "java/lang/StringUTF16" "LO_BYTE_SHIFT" "I" (.int 8)) (hFM : Sta Z Z.heap "jdk/internal/util/Preconditions" "SIOOBE_FORMATTER" "Ljava/util/function/BiFunction;" fm) (hfc : fm.category = 1) (L : List (Addr × (Cell → Prop))) :
    own_Con l Z (⟨"java/lang/StringUTF16", "coderFromArrayLen", "([BI)B"⟩ : MethodName) jdk_52_method_15_code 2 (some .byte) rm_own_cl33 #[(.ref qb_), (.int (3))] ((qb_, own_ar Z .byte [(.int e0_), (.int e1_), (.int e2_)]) :: L) (fun v M => v = some (.int (0)) ∧ M = (qb_, own_ar Z .byte [(.int e0_), (.int e1_), (.int e2_)]) :: L) := by
  refine own_con (ls := #[.val (.ref qb_), .val (.int (3))]) (plainFor_of_name own_pn2) (fun m => own_ent m rfl) ?_
  intro p e s m below meth c T C X
  refine k_iloadN C X d_jdk_52_method_15_code_0 rfl rfl ?_
  refine k_aloadN C X d_jdk_52_method_15_code_1 rfl rfl rfl ?_
  refine k_arraylength C X d_jdk_52_method_15_code_2 rfl (ix := 0) rfl (z := (3)) rfl ?_
  refine k_isub C X d_jdk_52_method_15_code_3 rfl ?_
  refine k_bipush C X d_jdk_52_method_15_code_4 rfl (v := 31) rfl ?_
  refine k_iushr C X d_jdk_52_method_15_code_6 rfl ?_
  refine k_i2b C X d_jdk_52_method_15_code_7 rfl ?_
  exact k_ireturn C X d_jdk_52_method_15_code_8 (by simp) rfl ⟨rfl, rfl⟩ (by decide) (by decide)
def rm_own_si2_33 : Room := { frames := 2, cells := 1, slots := 3, locals := 35 }
set_option maxRecDepth 65536 in
set_option maxHeartbeats 40000000 in
theorem own_si2_33 (l : Launch) (Z : State) (a0 : Array Value) (hw : ∀ d ∈ tables_1, d.before a0 Z = true) (sa_ : Addr) (qc_ : Addr) (d0_ : Int32) (d1_ : Int32) (d2_ : Int32) (cs : Int32) (fm : Value) (hS : Sta Z Z.heap "java/lang/String" "COMPACT_STRINGS" "Z" (.int cs)) (hcs : ¬ cs = 0) (hAD : Sta Z Z.heap "java/lang/StringUTF16" "$assertionsDisabled" "Z" (.int 1)) (hHI : Sta Z Z.heap "java/lang/StringUTF16" "HI_BYTE_SHIFT" "I" (.int 0)) (hLO : Sta Z Z.heap "java/lang/StringUTF16" "LO_BYTE_SHIFT" "I" (.int 8)) (hFM : Sta Z Z.heap "jdk/internal/util/Preconditions" "SIOOBE_FORMATTER" "Ljava/util/function/BiFunction;" fm) (hfc : fm.category = 1) (c0 : own_ch d0_) (c1 : own_ch d1_) (c2 : own_ch d2_) (g0 : ¬ (255) < d0_) (g1 : ¬ (255) < d1_) (g2 : ¬ (255) < d2_) (L : List (Addr × (Cell → Prop))) :
    own_Con l Z (⟨"java/lang/String", "<init>", "([CIILjava/lang/Void;)V"⟩ : MethodName) jdk_42_method_149_code 6 none rm_own_si2_33 #[(.ref sa_), (.ref qc_), (.int (0)), (.int (3)), .null] ((sa_, own_ob Z "java/lang/String" [("value", "[B", .null), ("coder", "B", (.int (0)))]) :: (qc_, own_ar Z .char [(.int d0_), (.int d1_), (.int d2_)]) :: L) (fun v M => ∃ f1, v = none ∧ M = (f1, own_ar Z .byte [(.int (nar .byte d0_.toInt8.toInt32)), (.int (nar .byte d1_.toInt8.toInt32)), (.int (nar .byte d2_.toInt8.toInt32))]) :: (qc_, own_ar Z .char [(.int d0_), (.int d1_), (.int d2_)]) :: (sa_, own_ob Z "java/lang/String" [("value", "[B", (.ref f1)), ("coder", "B", (.int (0)))]) :: L) := by
  refine own_con (ls := #[.val (.ref sa_), .val (.ref qc_), .val (.int (0)), .val (.int (3)), .val .null, .unset]) (plainFor_of_name own_pn0) (fun m => own_ent m rfl) ?_
  intro p e s m below meth c T C X
  refine k_aloadN C X d_jdk_42_method_149_code_0 rfl rfl rfl ?_
  refine k_initO C X d_jdk_42_method_149_code_1 rfl (hw _ (List.mem_of_getElem? (i := 12) rfl)) (hw _ (List.mem_of_getElem? (i := 13) rfl)) (hw _ (List.mem_of_getElem? (i := 14) rfl)) rfl (W := 0) (Nat.le_of_eq rfl) (by decide) (by decide) (fun T X => ?_)
  refine k_iloadN C X d_jdk_42_method_149_code_4 rfl rfl ?_
  refine k_if_ne C X d_jdk_42_method_149_code_5 rfl (tpc := 27) rfl (fun _ => ?_) (fun hc => (absurd hc (by decide) : False).elim)
  refine k_getstatic C X d_jdk_42_method_149_code_27 rfl (hw _ (List.mem_of_getElem? (i := 60) rfl)) hS (fun T X => ?_)
  refine k_if_eq C X d_jdk_42_method_149_code_30 rfl (tpc := 58) rfl (fun hc => (hcs hc : False).elim) (fun _ => ?_)
  refine k_aloadN C X d_jdk_42_method_149_code_33 rfl rfl rfl ?_
  refine k_iloadN C X d_jdk_42_method_149_code_34 rfl rfl ?_
  refine k_iloadN C X d_jdk_42_method_149_code_35 rfl rfl ?_
  replace X := X.bring (i := 1) rfl (M := (qc_, own_ar Z .char [(.int d0_), (.int d1_), (.int d2_)]) :: (sa_, own_ob Z "java/lang/String" [("value", "[B", .null), ("coder", "B", (.int (0)))]) :: L) rfl
  refine k_static C X d_jdk_42_method_149_code_36 rfl (hw _ (List.mem_of_getElem? (i := 66) rfl)) (hw _ (List.mem_of_getElem? (i := 67) rfl)) (hw _ (List.mem_of_getElem? (i := 68) rfl)) (hw _ (List.mem_of_getElem? (i := 69) rfl)) (by decide) (own_cmp1_33 l Z a0 hw qc_ d0_ d1_ d2_ cs fm hS hcs hAD hHI hLO hFM hfc c0 c1 c2 g0 g1 g2 ((sa_, own_ob Z "java/lang/String" [("value", "[B", .null), ("coder", "B", (.int (0)))]) :: L)) (W := 0) (argsL := [(.ref qc_), (.int (0)), (.int (3))]) (rest := []) rfl rfl rfl own_pd24 rfl (Nat.le_of_eq rfl) (by decide) (by decide) (by decide) (by decide) (fun v T M hQ X => ?_)
  obtain ⟨f1, rfl, rfl⟩ := hQ
  refine k_astore C X d_jdk_42_method_149_code_39 rfl rfl (l' := #[.val (.ref sa_), .val (.ref qc_), .val (.int (0)), .val (.int (3)), .val .null, .val (.ref f1)]) rfl ?_
  refine k_aloadN C X d_jdk_42_method_149_code_41 rfl rfl rfl ?_
  refine k_aload C X d_jdk_42_method_149_code_42 rfl rfl rfl ?_
  refine k_iloadN C X d_jdk_42_method_149_code_44 rfl rfl ?_
  replace X := X.bring (i := 1) rfl (M := (f1, own_ar Z .byte [(.int (nar .byte d0_.toInt8.toInt32)), (.int (nar .byte d1_.toInt8.toInt32)), (.int (nar .byte d2_.toInt8.toInt32))]) :: (qc_, own_ar Z .char [(.int d0_), (.int d1_), (.int d2_)]) :: (sa_, own_ob Z "java/lang/String" [("value", "[B", .null), ("coder", "B", (.int (0)))]) :: L) rfl
  refine k_static C X d_jdk_42_method_149_code_45 rfl (hw _ (List.mem_of_getElem? (i := 73) rfl)) (hw _ (List.mem_of_getElem? (i := 74) rfl)) (hw _ (List.mem_of_getElem? (i := 68) rfl)) (hw _ (List.mem_of_getElem? (i := 75) rfl)) (by decide) (own_cl33 l Z a0 hw f1 (nar .byte d0_.toInt8.toInt32) (nar .byte d1_.toInt8.toInt32) (nar .byte d2_.toInt8.toInt32) cs fm hS hcs hAD hHI hLO hFM hfc ((qc_, own_ar Z .char [(.int d0_), (.int d1_), (.int d2_)]) :: (sa_, own_ob Z "java/lang/String" [("value", "[B", .null), ("coder", "B", (.int (0)))]) :: L)) (W := 1) (argsL := [(.ref f1), (.int (3))]) (rest := [(.ref sa_)]) rfl rfl rfl own_pd25 rfl (Nat.le_of_eq rfl) (by decide) (by decide) (by decide) (by decide) (fun v T M hQ X => ?_)
  obtain ⟨rfl, rfl⟩ := hQ
  refine k_putfield C X d_jdk_42_method_149_code_48 rfl (host := "") (Or.inl (hw _ (List.mem_of_getElem? (i := 22) rfl))) (hw _ (List.mem_of_getElem? (i := 2) rfl)) (Or.inr ⟨(hw _ (List.mem_of_getElem? (i := 18) rfl)), rfl, rfl⟩) (own_lay_String hw) own_lay_String_nd (ix := 2) (j := 1) rfl rfl rfl (fs' := [("value", "[B", .null), ("coder", "B", (.int (0)))]) rfl (ty := .byte) (by decide) rfl rfl (L' := (f1, own_ar Z .byte [(.int (nar .byte d0_.toInt8.toInt32)), (.int (nar .byte d1_.toInt8.toInt32)), (.int (nar .byte d2_.toInt8.toInt32))]) :: (qc_, own_ar Z .char [(.int d0_), (.int d1_), (.int d2_)]) :: (sa_, own_ob Z "java/lang/String" [("value", "[B", .null), ("coder", "B", (.int (0)))]) :: L) rfl (fun T X => ?_)
  refine k_aloadN C X d_jdk_42_method_149_code_51 rfl rfl rfl ?_
  refine k_aload C X d_jdk_42_method_149_code_52 rfl rfl rfl ?_
  refine k_putfield C X d_jdk_42_method_149_code_54 rfl (host := "") (Or.inl (hw _ (List.mem_of_getElem? (i := 21) rfl))) (hw _ (List.mem_of_getElem? (i := 2) rfl)) (Or.inr ⟨(hw _ (List.mem_of_getElem? (i := 17) rfl)), rfl, rfl⟩) (own_lay_String hw) own_lay_String_nd (ix := 2) (j := 0) rfl rfl rfl (fs' := [("value", "[B", (.ref f1)), ("coder", "B", (.int (0)))]) rfl (ty := (.array .byte)) (by decide) rfl rfl (L' := (f1, own_ar Z .byte [(.int (nar .byte d0_.toInt8.toInt32)), (.int (nar .byte d1_.toInt8.toInt32)), (.int (nar .byte d2_.toInt8.toInt32))]) :: (qc_, own_ar Z .char [(.int d0_), (.int d1_), (.int d2_)]) :: (sa_, own_ob Z "java/lang/String" [("value", "[B", (.ref f1)), ("coder", "B", (.int (0)))]) :: L) rfl (fun T X => ?_)
  exact k_return C X d_jdk_42_method_149_code_57 ⟨f1, rfl, rfl⟩ (by decide) (by decide)
def rm_own_si1_33 : Room := { frames := 3, cells := 1, slots := 3, locals := 52 }
set_option maxRecDepth 65536 in
set_option maxHeartbeats 40000000 in
theorem own_si1_33 (l : Launch) (Z : State) (a0 : Array Value) (hw : ∀ d ∈ tables_1, d.before a0 Z = true) (sa_ : Addr) (qc_ : Addr) (d0_ : Int32) (d1_ : Int32) (d2_ : Int32) (cs : Int32) (fm : Value) (hS : Sta Z Z.heap "java/lang/String" "COMPACT_STRINGS" "Z" (.int cs)) (hcs : ¬ cs = 0) (hAD : Sta Z Z.heap "java/lang/StringUTF16" "$assertionsDisabled" "Z" (.int 1)) (hHI : Sta Z Z.heap "java/lang/StringUTF16" "HI_BYTE_SHIFT" "I" (.int 0)) (hLO : Sta Z Z.heap "java/lang/StringUTF16" "LO_BYTE_SHIFT" "I" (.int 8)) (hFM : Sta Z Z.heap "jdk/internal/util/Preconditions" "SIOOBE_FORMATTER" "Ljava/util/function/BiFunction;" fm) (hfc : fm.category = 1) (c0 : own_ch d0_) (c1 : own_ch d1_) (c2 : own_ch d2_) (g0 : ¬ (255) < d0_) (g1 : ¬ (255) < d1_) (g2 : ¬ (255) < d2_) (L : List (Addr × (Cell → Prop))) :
    own_Con l Z (⟨"java/lang/String", "<init>", "([C)V"⟩ : MethodName) jdk_42_method_3_code 2 none rm_own_si1_33 #[(.ref sa_), (.ref qc_)] ((sa_, own_ob Z "java/lang/String" [("value", "[B", .null), ("coder", "B", (.int (0)))]) :: (qc_, own_ar Z .char [(.int d0_), (.int d1_), (.int d2_)]) :: L) (fun v M => ∃ f1, v = none ∧ M = (f1, own_ar Z .byte [(.int (nar .byte d0_.toInt8.toInt32)), (.int (nar .byte d1_.toInt8.toInt32)), (.int (nar .byte d2_.toInt8.toInt32))]) :: (qc_, own_ar Z .char [(.int d0_), (.int d1_), (.int d2_)]) :: (sa_, own_ob Z "java/lang/String" [("value", "[B", (.ref f1)), ("coder", "B", (.int (0)))]) :: L) := by
  refine own_con (ls := #[.val (.ref sa_), .val (.ref qc_)]) (plainFor_of_name own_pn0) (fun m => own_ent m rfl) ?_
  intro p e s m below meth c T C X
  refine k_aloadN C X d_jdk_42_method_3_code_0 rfl rfl rfl ?_
  refine k_aloadN C X d_jdk_42_method_3_code_1 rfl rfl rfl ?_
  refine k_iconst C X d_jdk_42_method_3_code_2 rfl (v := 0) rfl ?_
  refine k_aloadN C X d_jdk_42_method_3_code_3 rfl rfl rfl ?_
  refine k_arraylength C X d_jdk_42_method_3_code_4 rfl (ix := 1) rfl (z := (3)) rfl ?_
  refine k_aconst_null C X d_jdk_42_method_3_code_5 rfl ?_
  replace X := X.bring (i := 1) rfl (M := (qc_, own_ar Z .char [(.int d0_), (.int d1_), (.int d2_)]) :: (sa_, own_ob Z "java/lang/String" [("value", "[B", .null), ("coder", "B", (.int (0)))]) :: L) rfl
  replace X := X.bring (i := 1) rfl (M := (sa_, own_ob Z "java/lang/String" [("value", "[B", .null), ("coder", "B", (.int (0)))]) :: (qc_, own_ar Z .char [(.int d0_), (.int d1_), (.int d2_)]) :: L) rfl
  refine k_init C X d_jdk_42_method_3_code_6 rfl rfl (hw _ (List.mem_of_getElem? (i := 8) rfl)) (hw _ (List.mem_of_getElem? (i := 9) rfl)) (hw _ (List.mem_of_getElem? (i := 3) rfl)) (hw _ (List.mem_of_getElem? (i := 11) rfl)) (by decide) (own_si2_33 l Z a0 hw sa_ qc_ d0_ d1_ d2_ cs fm hS hcs hAD hHI hLO hFM hfc c0 c1 c2 g0 g1 g2 (L)) (W := 0) (argsL := [(.ref qc_), (.int (0)), (.int (3)), .null]) (rest := []) rfl rfl rfl own_pd0 rfl (Nat.le_of_eq rfl) (by decide) (by decide) (by decide) (by decide) (fun v T M hQ X => ?_)
  obtain ⟨f1, rfl, rfl⟩ := hQ
  exact k_return C X d_jdk_42_method_3_code_9 ⟨f1, rfl, rfl⟩ (by decide) (by decide)
def rm_own_len30 : Room := { frames := 1, cells := 0, slots := 0, locals := 13 }
set_option maxRecDepth 65536 in
set_option maxHeartbeats 40000000 in
theorem own_len30 (l : Launch) (Z : State) (a0 : Array Value) (hw : ∀ d ∈ tables_1, d.before a0 Z = true) (sa_ : Addr) (qb_ : Addr) (e0_ : Int32) (e1_ : Int32) (e2_ : Int32) (cs : Int32) (fm : Value) (hS : Sta Z Z.heap "java/lang/String" "COMPACT_STRINGS" "Z" (.int cs)) (hcs : ¬ cs = 0) (hAD : Sta Z Z.heap "java/lang/StringUTF16" "$assertionsDisabled" "Z" (.int 1)) (hHI : Sta Z Z.heap "java/lang/StringUTF16" "HI_BYTE_SHIFT" "I" (.int 0)) (hLO : Sta Z Z.heap "java/lang/StringUTF16" "LO_BYTE_SHIFT" "I" (.int 8)) (hFM : Sta Z Z.heap "jdk/internal/util/Preconditions" "SIOOBE_FORMATTER" "Ljava/util/function/BiFunction;" fm) (hfc : fm.category = 1) (L : List (Addr × (Cell → Prop))) :
    own_Con l Z (⟨"java/lang/String", "length", "()I"⟩ : MethodName) jdk_42_method_54_code 1 (some .int) rm_own_len30 #[(.ref sa_)] ((sa_, own_ob Z "java/lang/String" [("value", "[B", (.ref qb_)), ("coder", "B", (.int (0)))]) :: (qb_, own_ar Z .byte [(.int e0_), (.int e1_), (.int e2_)]) :: L) (fun v M => v = some (.int (3)) ∧ M = (sa_, own_ob Z "java/lang/String" [("value", "[B", (.ref qb_)), ("coder", "B", (.int (0)))]) :: (qb_, own_ar Z .byte [(.int e0_), (.int e1_), (.int e2_)]) :: L) := by
  refine own_con (ls := #[.val (.ref sa_)]) (plainFor_of_name own_pn0) (fun m => own_ent m rfl) ?_
  intro p e s m below meth c T C X
  refine k_aloadN C X d_jdk_42_method_54_code_0 rfl rfl rfl ?_
  refine k_getfield C X d_jdk_42_method_54_code_1 rfl (host := "") (Or.inl (hw _ (List.mem_of_getElem? (i := 21) rfl))) (own_fL (ix := 0) (j := 0) rfl rfl) (fun T X => ?_)
  refine k_arraylength C X d_jdk_42_method_54_code_4 rfl (ix := 1) rfl (z := (3)) rfl ?_
  refine k_aloadN C X d_jdk_42_method_54_code_5 rfl rfl rfl ?_
  refine k_virtual C X d_jdk_42_method_54_code_6 rfl (hw _ (List.mem_of_getElem? (i := 55) rfl)) (hw _ (List.mem_of_getElem? (i := 56) rfl)) (hw _ (List.mem_of_getElem? (i := 3) rfl)) (hw _ (List.mem_of_getElem? (i := 59) rfl)) (hw _ (List.mem_of_getElem? (i := 58) rfl)) (hw _ (List.mem_of_getElem? (i := 57) rfl)) (by decide) (own_nf C.2.2.2.1 (hw _ (List.mem_of_getElem? (i := 58) rfl))) (own_eL (ix := 0) rfl) (own_coder0 l Z a0 hw sa_ qb_ cs fm hS hcs hAD hHI hLO hFM hfc ((qb_, own_ar Z .byte [(.int e0_), (.int e1_), (.int e2_)]) :: L)) (W := 1) (argsL := []) (rest := [(.int (3))]) rfl rfl rfl own_pd2 rfl (Nat.le_of_eq rfl) (by decide) (by decide) (by decide) (by decide) (fun v T M hQ X => ?_)
  obtain ⟨rfl, rfl⟩ := hQ
  refine k_ishr C X d_jdk_42_method_54_code_9 rfl ?_
  exact k_ireturn C X d_jdk_42_method_54_code_10 (by simp) rfl ⟨rfl, rfl⟩ (by decide) (by decide)
def rm_own_cha300 : Room := { frames := 3, cells := 0, slots := 0, locals := 40 }
set_option maxRecDepth 65536 in
set_option maxHeartbeats 40000000 in
theorem own_cha300 (l : Launch) (Z : State) (a0 : Array Value) (hw : ∀ d ∈ tables_1, d.before a0 Z = true) (sa_ : Addr) (qb_ : Addr) (e0_ : Int32) (e1_ : Int32) (e2_ : Int32) (cs : Int32) (fm : Value) (hS : Sta Z Z.heap "java/lang/String" "COMPACT_STRINGS" "Z" (.int cs)) (hcs : ¬ cs = 0) (hAD : Sta Z Z.heap "java/lang/StringUTF16" "$assertionsDisabled" "Z" (.int 1)) (hHI : Sta Z Z.heap "java/lang/StringUTF16" "HI_BYTE_SHIFT" "I" (.int 0)) (hLO : Sta Z Z.heap "java/lang/StringUTF16" "LO_BYTE_SHIFT" "I" (.int 8)) (hFM : Sta Z Z.heap "jdk/internal/util/Preconditions" "SIOOBE_FORMATTER" "Ljava/util/function/BiFunction;" fm) (hfc : fm.category = 1) (L : List (Addr × (Cell → Prop))) :
    own_Con l Z (⟨"java/lang/String", "charAt", "(I)C"⟩ : MethodName) jdk_42_method_56_code 2 (some .char) rm_own_cha300 #[(.ref sa_), (.int (0))] ((sa_, own_ob Z "java/lang/String" [("value", "[B", (.ref qb_)), ("coder", "B", (.int (0)))]) :: (qb_, own_ar Z .byte [(.int e0_), (.int e1_), (.int e2_)]) :: L) (fun v M => v = some (.int ((e0_ &&& (255)).toUInt32.toUInt16.toUInt32.toInt32)) ∧ M = (qb_, own_ar Z .byte [(.int e0_), (.int e1_), (.int e2_)]) :: (sa_, own_ob Z "java/lang/String" [("value", "[B", (.ref qb_)), ("coder", "B", (.int (0)))]) :: L) := by
  refine own_con (ls := #[.val (.ref sa_), .val (.int (0))]) (plainFor_of_name own_pn0) (fun m => own_ent m rfl) ?_
  intro p e s m below meth c T C X
  refine k_aloadN C X d_jdk_42_method_56_code_0 rfl rfl rfl ?_
  refine k_virtual C X d_jdk_42_method_56_code_1 rfl (hw _ (List.mem_of_getElem? (i := 81) rfl)) (hw _ (List.mem_of_getElem? (i := 82) rfl)) (hw _ (List.mem_of_getElem? (i := 3) rfl)) (hw _ (List.mem_of_getElem? (i := 85) rfl)) (hw _ (List.mem_of_getElem? (i := 84) rfl)) (hw _ (List.mem_of_getElem? (i := 83) rfl)) (by decide) (own_nf C.2.2.2.1 (hw _ (List.mem_of_getElem? (i := 84) rfl))) (own_eL (ix := 0) rfl) (own_isl0 l Z a0 hw sa_ qb_ cs fm hS hcs hAD hHI hLO hFM hfc ((qb_, own_ar Z .byte [(.int e0_), (.int e1_), (.int e2_)]) :: L)) (W := 0) (argsL := []) (rest := []) rfl rfl rfl own_pd19 rfl (Nat.le_of_eq rfl) (by decide) (by decide) (by decide) (by decide) (fun v T M hQ X => ?_)
  obtain ⟨rfl, rfl⟩ := hQ
  refine k_if_eq C X d_jdk_42_method_56_code_4 rfl (tpc := 16) rfl (fun hc => (absurd hc (by decide) : False).elim) (fun _ => ?_)
  refine k_aloadN C X d_jdk_42_method_56_code_7 rfl rfl rfl ?_
  refine k_getfield C X d_jdk_42_method_56_code_8 rfl (host := "") (Or.inl (hw _ (List.mem_of_getElem? (i := 21) rfl))) (own_fL (ix := 0) (j := 0) rfl rfl) (fun T X => ?_)
  refine k_iloadN C X d_jdk_42_method_56_code_11 rfl rfl ?_
  replace X := X.bring (i := 1) rfl (M := (qb_, own_ar Z .byte [(.int e0_), (.int e1_), (.int e2_)]) :: (sa_, own_ob Z "java/lang/String" [("value", "[B", (.ref qb_)), ("coder", "B", (.int (0)))]) :: L) rfl
  refine k_static C X d_jdk_42_method_56_code_12 rfl (hw _ (List.mem_of_getElem? (i := 86) rfl)) (hw _ (List.mem_of_getElem? (i := 87) rfl)) (hw _ (List.mem_of_getElem? (i := 88) rfl)) (hw _ (List.mem_of_getElem? (i := 89) rfl)) (by decide) (own_lca30 l Z a0 hw qb_ e0_ e1_ e2_ cs fm hS hcs hAD hHI hLO hFM hfc ((sa_, own_ob Z "java/lang/String" [("value", "[B", (.ref qb_)), ("coder", "B", (.int (0)))]) :: L)) (W := 0) (argsL := [(.ref qb_), (.int (0))]) (rest := []) rfl rfl rfl own_pd18 rfl (Nat.le_of_eq rfl) (by decide) (by decide) (by decide) (by decide) (fun v T M hQ X => ?_)
  obtain ⟨rfl, rfl⟩ := hQ
  exact k_ireturn C X d_jdk_42_method_56_code_15 (by simp) (own_nch _) ⟨rfl, rfl⟩ (by decide) (by decide)
def rm_own_cha301 : Room := { frames := 3, cells := 0, slots := 0, locals := 40 }
set_option maxRecDepth 65536 in
set_option maxHeartbeats 40000000 in
theorem own_cha301 (l : Launch) (Z : State) (a0 : Array Value) (hw : ∀ d ∈ tables_1, d.before a0 Z = true) (sa_ : Addr) (qb_ : Addr) (e0_ : Int32) (e1_ : Int32) (e2_ : Int32) (cs : Int32) (fm : Value) (hS : Sta Z Z.heap "java/lang/String" "COMPACT_STRINGS" "Z" (.int cs)) (hcs : ¬ cs = 0) (hAD : Sta Z Z.heap "java/lang/StringUTF16" "$assertionsDisabled" "Z" (.int 1)) (hHI : Sta Z Z.heap "java/lang/StringUTF16" "HI_BYTE_SHIFT" "I" (.int 0)) (hLO : Sta Z Z.heap "java/lang/StringUTF16" "LO_BYTE_SHIFT" "I" (.int 8)) (hFM : Sta Z Z.heap "jdk/internal/util/Preconditions" "SIOOBE_FORMATTER" "Ljava/util/function/BiFunction;" fm) (hfc : fm.category = 1) (L : List (Addr × (Cell → Prop))) :
    own_Con l Z (⟨"java/lang/String", "charAt", "(I)C"⟩ : MethodName) jdk_42_method_56_code 2 (some .char) rm_own_cha301 #[(.ref sa_), (.int (1))] ((sa_, own_ob Z "java/lang/String" [("value", "[B", (.ref qb_)), ("coder", "B", (.int (0)))]) :: (qb_, own_ar Z .byte [(.int e0_), (.int e1_), (.int e2_)]) :: L) (fun v M => v = some (.int ((e1_ &&& (255)).toUInt32.toUInt16.toUInt32.toInt32)) ∧ M = (qb_, own_ar Z .byte [(.int e0_), (.int e1_), (.int e2_)]) :: (sa_, own_ob Z "java/lang/String" [("value", "[B", (.ref qb_)), ("coder", "B", (.int (0)))]) :: L) := by
  refine own_con (ls := #[.val (.ref sa_), .val (.int (1))]) (plainFor_of_name own_pn0) (fun m => own_ent m rfl) ?_
  intro p e s m below meth c T C X
  refine k_aloadN C X d_jdk_42_method_56_code_0 rfl rfl rfl ?_
  refine k_virtual C X d_jdk_42_method_56_code_1 rfl (hw _ (List.mem_of_getElem? (i := 81) rfl)) (hw _ (List.mem_of_getElem? (i := 82) rfl)) (hw _ (List.mem_of_getElem? (i := 3) rfl)) (hw _ (List.mem_of_getElem? (i := 85) rfl)) (hw _ (List.mem_of_getElem? (i := 84) rfl)) (hw _ (List.mem_of_getElem? (i := 83) rfl)) (by decide) (own_nf C.2.2.2.1 (hw _ (List.mem_of_getElem? (i := 84) rfl))) (own_eL (ix := 0) rfl) (own_isl0 l Z a0 hw sa_ qb_ cs fm hS hcs hAD hHI hLO hFM hfc ((qb_, own_ar Z .byte [(.int e0_), (.int e1_), (.int e2_)]) :: L)) (W := 0) (argsL := []) (rest := []) rfl rfl rfl own_pd19 rfl (Nat.le_of_eq rfl) (by decide) (by decide) (by decide) (by decide) (fun v T M hQ X => ?_)
  obtain ⟨rfl, rfl⟩ := hQ
  refine k_if_eq C X d_jdk_42_method_56_code_4 rfl (tpc := 16) rfl (fun hc => (absurd hc (by decide) : False).elim) (fun _ => ?_)
  refine k_aloadN C X d_jdk_42_method_56_code_7 rfl rfl rfl ?_
  refine k_getfield C X d_jdk_42_method_56_code_8 rfl (host := "") (Or.inl (hw _ (List.mem_of_getElem? (i := 21) rfl))) (own_fL (ix := 0) (j := 0) rfl rfl) (fun T X => ?_)
  refine k_iloadN C X d_jdk_42_method_56_code_11 rfl rfl ?_
  replace X := X.bring (i := 1) rfl (M := (qb_, own_ar Z .byte [(.int e0_), (.int e1_), (.int e2_)]) :: (sa_, own_ob Z "java/lang/String" [("value", "[B", (.ref qb_)), ("coder", "B", (.int (0)))]) :: L) rfl
  refine k_static C X d_jdk_42_method_56_code_12 rfl (hw _ (List.mem_of_getElem? (i := 86) rfl)) (hw _ (List.mem_of_getElem? (i := 87) rfl)) (hw _ (List.mem_of_getElem? (i := 88) rfl)) (hw _ (List.mem_of_getElem? (i := 89) rfl)) (by decide) (own_lca31 l Z a0 hw qb_ e0_ e1_ e2_ cs fm hS hcs hAD hHI hLO hFM hfc ((sa_, own_ob Z "java/lang/String" [("value", "[B", (.ref qb_)), ("coder", "B", (.int (0)))]) :: L)) (W := 0) (argsL := [(.ref qb_), (.int (1))]) (rest := []) rfl rfl rfl own_pd18 rfl (Nat.le_of_eq rfl) (by decide) (by decide) (by decide) (by decide) (fun v T M hQ X => ?_)
  obtain ⟨rfl, rfl⟩ := hQ
  exact k_ireturn C X d_jdk_42_method_56_code_15 (by simp) (own_nch _) ⟨rfl, rfl⟩ (by decide) (by decide)
def rm_own_cha302 : Room := { frames := 3, cells := 0, slots := 0, locals := 40 }
set_option maxRecDepth 65536 in
set_option maxHeartbeats 40000000 in
theorem own_cha302 (l : Launch) (Z : State) (a0 : Array Value) (hw : ∀ d ∈ tables_1, d.before a0 Z = true) (sa_ : Addr) (qb_ : Addr) (e0_ : Int32) (e1_ : Int32) (e2_ : Int32) (cs : Int32) (fm : Value) (hS : Sta Z Z.heap "java/lang/String" "COMPACT_STRINGS" "Z" (.int cs)) (hcs : ¬ cs = 0) (hAD : Sta Z Z.heap "java/lang/StringUTF16" "$assertionsDisabled" "Z" (.int 1)) (hHI : Sta Z Z.heap "java/lang/StringUTF16" "HI_BYTE_SHIFT" "I" (.int 0)) (hLO : Sta Z Z.heap "java/lang/StringUTF16" "LO_BYTE_SHIFT" "I" (.int 8)) (hFM : Sta Z Z.heap "jdk/internal/util/Preconditions" "SIOOBE_FORMATTER" "Ljava/util/function/BiFunction;" fm) (hfc : fm.category = 1) (L : List (Addr × (Cell → Prop))) :
    own_Con l Z (⟨"java/lang/String", "charAt", "(I)C"⟩ : MethodName) jdk_42_method_56_code 2 (some .char) rm_own_cha302 #[(.ref sa_), (.int (2))] ((sa_, own_ob Z "java/lang/String" [("value", "[B", (.ref qb_)), ("coder", "B", (.int (0)))]) :: (qb_, own_ar Z .byte [(.int e0_), (.int e1_), (.int e2_)]) :: L) (fun v M => v = some (.int ((e2_ &&& (255)).toUInt32.toUInt16.toUInt32.toInt32)) ∧ M = (qb_, own_ar Z .byte [(.int e0_), (.int e1_), (.int e2_)]) :: (sa_, own_ob Z "java/lang/String" [("value", "[B", (.ref qb_)), ("coder", "B", (.int (0)))]) :: L) := by
  refine own_con (ls := #[.val (.ref sa_), .val (.int (2))]) (plainFor_of_name own_pn0) (fun m => own_ent m rfl) ?_
  intro p e s m below meth c T C X
  refine k_aloadN C X d_jdk_42_method_56_code_0 rfl rfl rfl ?_
  refine k_virtual C X d_jdk_42_method_56_code_1 rfl (hw _ (List.mem_of_getElem? (i := 81) rfl)) (hw _ (List.mem_of_getElem? (i := 82) rfl)) (hw _ (List.mem_of_getElem? (i := 3) rfl)) (hw _ (List.mem_of_getElem? (i := 85) rfl)) (hw _ (List.mem_of_getElem? (i := 84) rfl)) (hw _ (List.mem_of_getElem? (i := 83) rfl)) (by decide) (own_nf C.2.2.2.1 (hw _ (List.mem_of_getElem? (i := 84) rfl))) (own_eL (ix := 0) rfl) (own_isl0 l Z a0 hw sa_ qb_ cs fm hS hcs hAD hHI hLO hFM hfc ((qb_, own_ar Z .byte [(.int e0_), (.int e1_), (.int e2_)]) :: L)) (W := 0) (argsL := []) (rest := []) rfl rfl rfl own_pd19 rfl (Nat.le_of_eq rfl) (by decide) (by decide) (by decide) (by decide) (fun v T M hQ X => ?_)
  obtain ⟨rfl, rfl⟩ := hQ
  refine k_if_eq C X d_jdk_42_method_56_code_4 rfl (tpc := 16) rfl (fun hc => (absurd hc (by decide) : False).elim) (fun _ => ?_)
  refine k_aloadN C X d_jdk_42_method_56_code_7 rfl rfl rfl ?_
  refine k_getfield C X d_jdk_42_method_56_code_8 rfl (host := "") (Or.inl (hw _ (List.mem_of_getElem? (i := 21) rfl))) (own_fL (ix := 0) (j := 0) rfl rfl) (fun T X => ?_)
  refine k_iloadN C X d_jdk_42_method_56_code_11 rfl rfl ?_
  replace X := X.bring (i := 1) rfl (M := (qb_, own_ar Z .byte [(.int e0_), (.int e1_), (.int e2_)]) :: (sa_, own_ob Z "java/lang/String" [("value", "[B", (.ref qb_)), ("coder", "B", (.int (0)))]) :: L) rfl
  refine k_static C X d_jdk_42_method_56_code_12 rfl (hw _ (List.mem_of_getElem? (i := 86) rfl)) (hw _ (List.mem_of_getElem? (i := 87) rfl)) (hw _ (List.mem_of_getElem? (i := 88) rfl)) (hw _ (List.mem_of_getElem? (i := 89) rfl)) (by decide) (own_lca32 l Z a0 hw qb_ e0_ e1_ e2_ cs fm hS hcs hAD hHI hLO hFM hfc ((sa_, own_ob Z "java/lang/String" [("value", "[B", (.ref qb_)), ("coder", "B", (.int (0)))]) :: L)) (W := 0) (argsL := [(.ref qb_), (.int (2))]) (rest := []) rfl rfl rfl own_pd18 rfl (Nat.le_of_eq rfl) (by decide) (by decide) (by decide) (by decide) (fun v T M hQ X => ?_)
  obtain ⟨rfl, rfl⟩ := hQ
  exact k_ireturn C X d_jdk_42_method_56_code_15 (by simp) (own_nch _) ⟨rfl, rfl⟩ (by decide) (by decide)
theorem own_pn6 : plainName "com/example/cradle/cradle/OriginOfPinLaw" = true := by first | (simp [plainName, overriddenIn]; done) | decide +kernel
set_option maxRecDepth 65536 in
set_option maxHeartbeats 40000000 in
theorem own_law (l : Launch) (Z : State) (a0 : Array Value) (hw : ∀ d ∈ tables_1, d.before a0 Z = true) (x0 x1 x2 x3 : Int32) (cs : Int32) (fm : Value) (hS : Sta Z Z.heap "java/lang/String" "COMPACT_STRINGS" "Z" (.int cs)) (hcs : ¬ cs = 0) (hAD : Sta Z Z.heap "java/lang/StringUTF16" "$assertionsDisabled" "Z" (.int 1)) (hHI : Sta Z Z.heap "java/lang/StringUTF16" "HI_BYTE_SHIFT" "I" (.int 0)) (hLO : Sta Z Z.heap "java/lang/StringUTF16" "LO_BYTE_SHIFT" "I" (.int 8)) (hFM : Sta Z Z.heap "jdk/internal/util/Preconditions" "SIOOBE_FORMATTER" "Ljava/util/function/BiFunction;" fm) (hfc : fm.category = 1) (hEL : EW Z a0 [("java/lang/String", 7)]) (H0 : CHv Z [("java/lang/String", 7)] Z.vm Z.heap) :
    own_ConW l Z x code maxLocals ret room_1 #[(.int x0), (.int x1), (.int x2), (.int x3)] ([]) (fun vm1 => vm1.interned = Z.vm.interned) (fun v M G => v = some (.int 1)) := by
  refine own_conW (ls := #[.val (.int x0), .val (.int x1), .val (.int x2), .val (.int x3), .unset, .unset, .unset, .unset, .unset, .unset, .unset]) (plainFor_of_name own_pn6) (fun m => own_ent m rfl) ?_
  intro p e s m below meth c T C X hJ
  refine k_iloadN C X at_0 rfl rfl ?_
  refine k_iconst C X at_1 rfl (v := 3) rfl ?_
  refine k_iand C X at_2 rfl ?_
  refine k_istore C X at_3 rfl (l' := #[.val (.int x0), .val (.int x1), .val (.int x2), .val (.int x3), .val (.int (x0 &&& (3))), .unset, .unset, .unset, .unset, .unset, .unset]) rfl ?_
  refine k_iloadN C X at_5 rfl rfl ?_
  refine k_ldc C X at_6 rfl (hw _ (List.mem_of_getElem? (i := 0) rfl)) ?_
  refine k_iand C X at_8 rfl ?_
  refine k_i2c C X at_9 rfl ?_
  refine k_istore C X at_10 rfl (l' := #[.val (.int x0), .val (.int x1), .val (.int x2), .val (.int x3), .val (.int (x0 &&& (3))), .val (.int ((x1 &&& 65535).toUInt32.toUInt16.toUInt32.toInt32)), .unset, .unset, .unset, .unset, .unset]) rfl ?_
  obtain ⟨ca, e_ca⟩ : ∃ z, z = (((x1 &&& 65535).toUInt32.toUInt16.toUInt32.toInt32) : Int32) := ⟨_, rfl⟩
  rw [← e_ca]
  refine k_iloadN C X at_12 rfl rfl ?_
  refine k_ldc C X at_13 rfl (hw _ (List.mem_of_getElem? (i := 0) rfl)) ?_
  refine k_iand C X at_15 rfl ?_
  refine k_i2c C X at_16 rfl ?_
  refine k_istore C X at_17 rfl (l' := #[.val (.int x0), .val (.int x1), .val (.int x2), .val (.int x3), .val (.int (x0 &&& (3))), .val (.int ca), .val (.int ((x2 &&& 65535).toUInt32.toUInt16.toUInt32.toInt32)), .unset, .unset, .unset, .unset]) rfl ?_
  obtain ⟨cb, e_cb⟩ : ∃ z, z = (((x2 &&& 65535).toUInt32.toUInt16.toUInt32.toInt32) : Int32) := ⟨_, rfl⟩
  rw [← e_cb]
  refine k_iloadN C X at_19 rfl rfl ?_
  refine k_ldc C X at_20 rfl (hw _ (List.mem_of_getElem? (i := 0) rfl)) ?_
  refine k_iand C X at_22 rfl ?_
  refine k_i2c C X at_23 rfl ?_
  refine k_istore C X at_24 rfl (l' := #[.val (.int x0), .val (.int x1), .val (.int x2), .val (.int x3), .val (.int (x0 &&& (3))), .val (.int ca), .val (.int cb), .val (.int ((x3 &&& 65535).toUInt32.toUInt16.toUInt32.toInt32)), .unset, .unset, .unset]) rfl ?_
  obtain ⟨cc, e_cc⟩ : ∃ z, z = (((x3 &&& 65535).toUInt32.toUInt16.toUInt32.toInt32) : Int32) := ⟨_, rfl⟩
  rw [← e_cc]
  rcases own_and3 x0 with hk | hk | hk | hk
  · rw [hk]
    have hca := own_chi e_ca
    have hcb := own_chi e_cb
    have hcc := own_chi e_cc
    refine k_iload C X at_26 rfl rfl ?_
    refine k_if_ne C X at_28 rfl (tpc := 46) rfl (fun hc => (absurd hc (by decide) : False).elim) (fun _ => ?_)
    refine k_new C X at_31 rfl (hw _ (List.mem_of_getElem? (i := 1) rfl)) (hw _ (List.mem_of_getElem? (i := 2) rfl)) (hw _ (List.mem_of_getElem? (i := 3) rfl)) (own_lay_String hw) (fs := [("value", "[B", .null), ("coder", "B", (.int (0)))]) rfl (by decide) (by decide) (fun T o31 X => ?_)
    refine k_dup C X at_34 rfl rfl ?_
    refine k_iconst C X at_35 rfl (v := 0) rfl ?_
    refine k_newarray C X at_36 rfl (ty := .char) rfl (hw _ (List.mem_of_getElem? (i := 4) rfl)) (by decide) (cap := 0) (by decide) (by decide) (by decide) (by decide) (vs := []) rfl (fun T o36 X => ?_)
    replace X := X.bring (i := 1) rfl (M := [(o31, own_ob Z "java/lang/String" [("value", "[B", .null), ("coder", "B", (.int (0)))]), (o36, own_ar Z .char [])]) rfl
    refine k_initW (vm0 := s.vm) (G := []) C X own_W.start (fun _ h => h.trans hJ) at_38 rfl rfl (hw _ (List.mem_of_getElem? (i := 5) rfl)) (hw _ (List.mem_of_getElem? (i := 6) rfl)) (hw _ (List.mem_of_getElem? (i := 3) rfl)) (hw _ (List.mem_of_getElem? (i := 7) rfl)) (by decide) (own_si1_0 l Z a0 hw o31 o36 cs fm hS hcs hAD hHI hLO hFM hfc hEL H0 ([])) (W := 1) (argsL := [(.ref o36)]) (rest := [(.ref o31)]) rfl rfl rfl own_pd5 rfl (Nat.le_of_eq rfl) (by decide) (by decide) (by decide) (by decide) (fun v T M vmw3 Gw3 hQ C Ww3 X => ?_)
    replace Ww3 : own_W s vmw3 Gw3 := Ww3
    obtain ⟨f1, rfl, rfl, hx2⟩ := hQ
    replace X : own_S p l e room_1 (s.setVm vmw3) m #[(.int x0), (.int x1), (.int x2), (.int x3)] below meth c Z T ((o31, own_ob Z "java/lang/String" [("value", "[B", (.ref f1)), ("coder", "B", (.int (0)))]) :: (o36, own_ar Z .char []) :: Gw3) 4 8 := X
    refine k_astore C X at_41 rfl rfl (l' := #[.val (.int x0), .val (.int x1), .val (.int x2), .val (.int x3), .val (.int (0)), .val (.int ca), .val (.int cb), .val (.int cc), .val (.ref o31), .unset, .unset]) rfl ?_
    refine k_goto C X at_43 (tpc := 120) rfl ?_
    refine k_aload C X at_120 rfl rfl rfl ?_
    refine k_staticW C X Ww3 (fun _ _ => trivial) at_122 rfl (hw _ (List.mem_of_getElem? (i := 23) rfl)) (hw _ (List.mem_of_getElem? (i := 24) rfl)) (hw _ (List.mem_of_getElem? (i := 25) rfl)) (hw _ (List.mem_of_getElem? (i := 26) rfl)) (by decide) (own_oof l Z a0 hw o31 f1 (0) cs fm hS hcs hAD hHI hLO hFM hfc ((o36, own_ar Z .char []) :: Gw3)) (W := 0) (argsL := [(.ref o31)]) (rest := []) rfl rfl rfl own_pd6 rfl (Nat.le_of_eq rfl) (by decide) (by decide) (by decide) (by decide) (fun v T M vmw5 Gw5 hQ C Ww5 X => ?_)
    replace Ww5 : own_W s vmw5 (Gw3 ++ Gw5) := Ww5
    obtain ⟨f4, rfl, rfl⟩ := hQ
    replace X : own_S p l e room_1 (s.setVm vmw5) m #[(.int x0), (.int x1), (.int x2), (.int x3)] below meth c Z T ((f4, own_ob Z "com/example/cradle/cradle/Origin" [("file", "Ljava/nio/file/Path;", .null), ("line", "I", (.int (0))), ("description", "Ljava/lang/String;", (.ref o31))]) :: (o31, own_ob Z "java/lang/String" [("value", "[B", (.ref f1)), ("coder", "B", (.int (0)))]) :: (o36, own_ar Z .char []) :: (Gw3 ++ Gw5)) 7 39 := X
    refine k_astore C X at_125 rfl rfl (l' := #[.val (.int x0), .val (.int x1), .val (.int x2), .val (.int x3), .val (.int (0)), .val (.int ca), .val (.int cb), .val (.int cc), .val (.ref o31), .val (.ref f4), .unset]) rfl ?_
    refine k_aload C X at_127 rfl rfl rfl ?_
    refine k_ifnonnull_y C X at_129 (tpc := 134) rfl ?_
    refine k_aload C X at_134 rfl rfl rfl ?_
    refine k_virtual C X at_136 rfl (hw _ (List.mem_of_getElem? (i := 45) rfl)) (hw _ (List.mem_of_getElem? (i := 46) rfl)) (hw _ (List.mem_of_getElem? (i := 25) rfl)) (hw _ (List.mem_of_getElem? (i := 49) rfl)) (hw _ (List.mem_of_getElem? (i := 48) rfl)) (hw _ (List.mem_of_getElem? (i := 47) rfl)) (by decide) (own_nf C.2.2.2.1 (hw _ (List.mem_of_getElem? (i := 48) rfl))) (own_eL (ix := 0) rfl) (own_ots l Z a0 hw f4 o31 cs fm hS hcs hAD hHI hLO hFM hfc ((o31, own_ob Z "java/lang/String" [("value", "[B", (.ref f1)), ("coder", "B", (.int (0)))]) :: (o36, own_ar Z .char []) :: (Gw3 ++ Gw5))) (W := 0) (argsL := []) (rest := []) rfl rfl rfl own_pd7 rfl (Nat.le_of_eq rfl) (by decide) (by decide) (by decide) (by decide) (fun v T M hQ X => ?_)
    obtain ⟨rfl, rfl⟩ := hQ
    refine k_astore C X at_139 rfl rfl (l' := #[.val (.int x0), .val (.int x1), .val (.int x2), .val (.int x3), .val (.int (0)), .val (.int ca), .val (.int cb), .val (.int cc), .val (.ref o31), .val (.ref f4), .val (.ref o31)]) rfl ?_
    refine k_aload C X at_141 rfl rfl rfl ?_
    refine k_ifnonnull_y C X at_143 (tpc := 148) rfl ?_
    refine k_aload C X at_148 rfl rfl rfl ?_
    replace X := X.bring (i := 1) rfl (M := (o31, own_ob Z "java/lang/String" [("value", "[B", (.ref f1)), ("coder", "B", (.int (0)))]) :: (f4, own_ob Z "com/example/cradle/cradle/Origin" [("file", "Ljava/nio/file/Path;", .null), ("line", "I", (.int (0))), ("description", "Ljava/lang/String;", (.ref o31))]) :: (o36, own_ar Z .char []) :: (Gw3 ++ Gw5)) rfl
    refine k_virtual C X at_150 rfl (hw _ (List.mem_of_getElem? (i := 50) rfl)) (hw _ (List.mem_of_getElem? (i := 51) rfl)) (hw _ (List.mem_of_getElem? (i := 3) rfl)) (hw _ (List.mem_of_getElem? (i := 54) rfl)) (hw _ (List.mem_of_getElem? (i := 53) rfl)) (hw _ (List.mem_of_getElem? (i := 52) rfl)) (by decide) (own_nf C.2.2.2.1 (hw _ (List.mem_of_getElem? (i := 53) rfl))) (own_eL (ix := 0) rfl) (own_len00 l Z a0 hw ((f4, own_ob Z "com/example/cradle/cradle/Origin" [("file", "Ljava/nio/file/Path;", .null), ("line", "I", (.int (0))), ("description", "Ljava/lang/String;", (.ref o31))]) :: (o36, own_ar Z .char []) :: (Gw3 ++ Gw5)) o31 f1 cs fm hS hcs hAD hHI hLO hFM hfc (fun h H => hx2 h (H.sub (((List.sublist_append_left _ _).cons _).cons _)))) (W := 0) (argsL := []) (rest := []) rfl rfl rfl own_pd8 rfl (Nat.le_of_eq rfl) (by decide) (by decide) (by decide) (by decide) (fun v T M hQ X => ?_)
    obtain ⟨rfl, rfl⟩ := hQ
    refine k_iload C X at_153 rfl rfl ?_
    refine k_icmp_eq C X at_155 rfl (tpc := 160) rfl (fun _ => ?_) (fun hc => (absurd hc (by decide) : False).elim)
    refine k_iload C X at_160 rfl rfl ?_
    refine k_iconst C X at_162 rfl (v := 1) rfl ?_
    refine k_icmp_lt C X at_163 rfl (tpc := 179) rfl (fun _ => ?_) (fun hc => (absurd hc (by decide) : False).elim)
    refine k_iload C X at_179 rfl rfl ?_
    refine k_iconst C X at_181 rfl (v := 2) rfl ?_
    refine k_icmp_lt C X at_182 rfl (tpc := 198) rfl (fun _ => ?_) (fun hc => (absurd hc (by decide) : False).elim)
    refine k_iload C X at_198 rfl rfl ?_
    refine k_iconst C X at_200 rfl (v := 3) rfl ?_
    refine k_icmp_lt C X at_201 rfl (tpc := 217) rfl (fun _ => ?_) (fun hc => (absurd hc (by decide) : False).elim)
    refine k_aload C X at_217 rfl rfl rfl ?_
    refine k_aload C X at_219 rfl rfl rfl ?_
    refine k_virtual C X at_221 rfl (hw _ (List.mem_of_getElem? (i := 61) rfl)) (hw _ (List.mem_of_getElem? (i := 62) rfl)) (hw _ (List.mem_of_getElem? (i := 3) rfl)) (hw _ (List.mem_of_getElem? (i := 65) rfl)) (hw _ (List.mem_of_getElem? (i := 64) rfl)) (hw _ (List.mem_of_getElem? (i := 63) rfl)) (by decide) (own_nf C.2.2.2.1 (hw _ (List.mem_of_getElem? (i := 64) rfl))) (own_eL (ix := 0) rfl) (own_eqs l Z a0 hw o31 cs fm hS hcs hAD hHI hLO hFM hfc ((o31, own_ob Z "java/lang/String" [("value", "[B", (.ref f1)), ("coder", "B", (.int (0)))]) :: (f4, own_ob Z "com/example/cradle/cradle/Origin" [("file", "Ljava/nio/file/Path;", .null), ("line", "I", (.int (0))), ("description", "Ljava/lang/String;", (.ref o31))]) :: (o36, own_ar Z .char []) :: (Gw3 ++ Gw5))) (W := 0) (argsL := [(.ref o31)]) (rest := []) rfl rfl rfl own_pd9 rfl (Nat.le_of_eq rfl) (by decide) (by decide) (by decide) (by decide) (fun v T M hQ X => ?_)
    obtain ⟨rfl, rfl⟩ := hQ
    exact k_ireturnW (M := ([(o31, own_ob Z "java/lang/String" [("value", "[B", (.ref f1)), ("coder", "B", (.int (0)))]), (f4, own_ob Z "com/example/cradle/cradle/Origin" [("file", "Ljava/nio/file/Path;", .null), ("line", "I", (.int (0))), ("description", "Ljava/lang/String;", (.ref o31))]), (o36, own_ar Z .char [])])) (G := (Gw3 ++ Gw5)) C X rfl Ww5 at_224 (by simp) rfl rfl (by decide) (by decide)
  · rw [hk]
    have hca := own_chi e_ca
    have hcb := own_chi e_cb
    have hcc := own_chi e_cc
    by_cases hg0 : (255) < ca
    · skip
      refine k_iload C X at_26 rfl rfl ?_
      refine k_if_ne C X at_28 rfl (tpc := 46) rfl (fun _ => ?_) (fun hc => (absurd hc (by decide) : False).elim)
      refine k_iload C X at_46 rfl rfl ?_
      refine k_iconst C X at_48 rfl (v := 1) rfl ?_
      refine k_icmp_ne C X at_49 rfl (tpc := 62) rfl (fun hc => (absurd hc (by decide) : False).elim) (fun _ => ?_)
      refine k_iload C X at_52 rfl rfl ?_
      refine k_static C X at_54 rfl (hw _ (List.mem_of_getElem? (i := 127) rfl)) (hw _ (List.mem_of_getElem? (i := 128) rfl)) (hw _ (List.mem_of_getElem? (i := 3) rfl)) (hw _ (List.mem_of_getElem? (i := 129) rfl)) (by decide) (own_vof0 l Z a0 hw ca cs fm hS hcs hAD hHI hLO hFM hfc hg0 ([])) (W := 0) (argsL := [(.int ca)]) (rest := []) rfl rfl rfl own_pd13 rfl (Nat.le_of_eq rfl) (by decide) (by decide) (by decide) (by decide) (fun v T M hQ X => ?_)
      obtain ⟨f6, f7, rfl, rfl⟩ := hQ
      refine k_astore C X at_57 rfl rfl (l' := #[.val (.int x0), .val (.int x1), .val (.int x2), .val (.int x3), .val (.int (1)), .val (.int ca), .val (.int cb), .val (.int cc), .val (.ref f6), .unset, .unset]) rfl ?_
      refine k_goto C X at_59 (tpc := 120) rfl ?_
      refine k_aload C X at_120 rfl rfl rfl ?_
      refine k_staticW (vm0 := s.vm) (G := []) C X own_W.start (fun _ _ => trivial) at_122 rfl (hw _ (List.mem_of_getElem? (i := 23) rfl)) (hw _ (List.mem_of_getElem? (i := 24) rfl)) (hw _ (List.mem_of_getElem? (i := 25) rfl)) (hw _ (List.mem_of_getElem? (i := 26) rfl)) (by decide) (own_oof l Z a0 hw f6 f7 (1) cs fm hS hcs hAD hHI hLO hFM hfc ([(f7, own_ar Z .byte [(.int (nar .byte ((ca >>> ((0) &&& 31 : Int32) : Int32).toInt8.toInt32))), (.int (nar .byte ((ca >>> ((8) &&& 31 : Int32) : Int32).toInt8.toInt32)))])])) (W := 0) (argsL := [(.ref f6)]) (rest := []) rfl rfl rfl own_pd6 rfl (Nat.le_of_eq rfl) (by decide) (by decide) (by decide) (by decide) (fun v T M vmw9 Gw9 hQ C Ww9 X => ?_)
      replace Ww9 : own_W s vmw9 Gw9 := Ww9
      obtain ⟨f8, rfl, rfl⟩ := hQ
      replace X : own_S p l e room_1 (s.setVm vmw9) m #[(.int x0), (.int x1), (.int x2), (.int x3)] below meth c Z T ((f8, own_ob Z "com/example/cradle/cradle/Origin" [("file", "Ljava/nio/file/Path;", .null), ("line", "I", (.int (0))), ("description", "Ljava/lang/String;", (.ref f6))]) :: (f6, own_ob Z "java/lang/String" [("value", "[B", (.ref f7)), ("coder", "B", (.int (1)))]) :: (f7, own_ar Z .byte [(.int (nar .byte ((ca >>> ((0) &&& 31 : Int32) : Int32).toInt8.toInt32))), (.int (nar .byte ((ca >>> ((8) &&& 31 : Int32) : Int32).toInt8.toInt32)))]) :: Gw9) 5 37 := X
      refine k_astore C X at_125 rfl rfl (l' := #[.val (.int x0), .val (.int x1), .val (.int x2), .val (.int x3), .val (.int (1)), .val (.int ca), .val (.int cb), .val (.int cc), .val (.ref f6), .val (.ref f8), .unset]) rfl ?_
      refine k_aload C X at_127 rfl rfl rfl ?_
      refine k_ifnonnull_y C X at_129 (tpc := 134) rfl ?_
      refine k_aload C X at_134 rfl rfl rfl ?_
      refine k_virtual C X at_136 rfl (hw _ (List.mem_of_getElem? (i := 45) rfl)) (hw _ (List.mem_of_getElem? (i := 46) rfl)) (hw _ (List.mem_of_getElem? (i := 25) rfl)) (hw _ (List.mem_of_getElem? (i := 49) rfl)) (hw _ (List.mem_of_getElem? (i := 48) rfl)) (hw _ (List.mem_of_getElem? (i := 47) rfl)) (by decide) (own_nf C.2.2.2.1 (hw _ (List.mem_of_getElem? (i := 48) rfl))) (own_eL (ix := 0) rfl) (own_ots l Z a0 hw f8 f6 cs fm hS hcs hAD hHI hLO hFM hfc ((f6, own_ob Z "java/lang/String" [("value", "[B", (.ref f7)), ("coder", "B", (.int (1)))]) :: (f7, own_ar Z .byte [(.int (nar .byte ((ca >>> ((0) &&& 31 : Int32) : Int32).toInt8.toInt32))), (.int (nar .byte ((ca >>> ((8) &&& 31 : Int32) : Int32).toInt8.toInt32)))]) :: Gw9)) (W := 0) (argsL := []) (rest := []) rfl rfl rfl own_pd7 rfl (Nat.le_of_eq rfl) (by decide) (by decide) (by decide) (by decide) (fun v T M hQ X => ?_)
      obtain ⟨rfl, rfl⟩ := hQ
      refine k_astore C X at_139 rfl rfl (l' := #[.val (.int x0), .val (.int x1), .val (.int x2), .val (.int x3), .val (.int (1)), .val (.int ca), .val (.int cb), .val (.int cc), .val (.ref f6), .val (.ref f8), .val (.ref f6)]) rfl ?_
      refine k_aload C X at_141 rfl rfl rfl ?_
      refine k_ifnonnull_y C X at_143 (tpc := 148) rfl ?_
      refine k_aload C X at_148 rfl rfl rfl ?_
      replace X := X.bring (i := 2) rfl (M := (f7, own_ar Z .byte [(.int (nar .byte ((ca >>> ((0) &&& 31 : Int32) : Int32).toInt8.toInt32))), (.int (nar .byte ((ca >>> ((8) &&& 31 : Int32) : Int32).toInt8.toInt32)))]) :: (f8, own_ob Z "com/example/cradle/cradle/Origin" [("file", "Ljava/nio/file/Path;", .null), ("line", "I", (.int (0))), ("description", "Ljava/lang/String;", (.ref f6))]) :: (f6, own_ob Z "java/lang/String" [("value", "[B", (.ref f7)), ("coder", "B", (.int (1)))]) :: Gw9) rfl
      replace X := X.bring (i := 2) rfl (M := (f6, own_ob Z "java/lang/String" [("value", "[B", (.ref f7)), ("coder", "B", (.int (1)))]) :: (f7, own_ar Z .byte [(.int (nar .byte ((ca >>> ((0) &&& 31 : Int32) : Int32).toInt8.toInt32))), (.int (nar .byte ((ca >>> ((8) &&& 31 : Int32) : Int32).toInt8.toInt32)))]) :: (f8, own_ob Z "com/example/cradle/cradle/Origin" [("file", "Ljava/nio/file/Path;", .null), ("line", "I", (.int (0))), ("description", "Ljava/lang/String;", (.ref f6))]) :: Gw9) rfl
      refine k_virtual C X at_150 rfl (hw _ (List.mem_of_getElem? (i := 50) rfl)) (hw _ (List.mem_of_getElem? (i := 51) rfl)) (hw _ (List.mem_of_getElem? (i := 3) rfl)) (hw _ (List.mem_of_getElem? (i := 54) rfl)) (hw _ (List.mem_of_getElem? (i := 53) rfl)) (hw _ (List.mem_of_getElem? (i := 52) rfl)) (by decide) (own_nf C.2.2.2.1 (hw _ (List.mem_of_getElem? (i := 53) rfl))) (own_eL (ix := 0) rfl) (own_len11 l Z a0 hw f6 f7 (nar .byte ((ca >>> ((0) &&& 31 : Int32) : Int32).toInt8.toInt32)) (nar .byte ((ca >>> ((8) &&& 31 : Int32) : Int32).toInt8.toInt32)) cs fm hS hcs hAD hHI hLO hFM hfc ((f8, own_ob Z "com/example/cradle/cradle/Origin" [("file", "Ljava/nio/file/Path;", .null), ("line", "I", (.int (0))), ("description", "Ljava/lang/String;", (.ref f6))]) :: Gw9)) (W := 0) (argsL := []) (rest := []) rfl rfl rfl own_pd8 rfl (Nat.le_of_eq rfl) (by decide) (by decide) (by decide) (by decide) (fun v T M hQ X => ?_)
      obtain ⟨rfl, rfl⟩ := hQ
      refine k_iload C X at_153 rfl rfl ?_
      refine k_icmp_eq C X at_155 rfl (tpc := 160) rfl (fun _ => ?_) (fun hc => (absurd hc (by decide) : False).elim)
      refine k_iload C X at_160 rfl rfl ?_
      refine k_iconst C X at_162 rfl (v := 1) rfl ?_
      refine k_icmp_lt C X at_163 rfl (tpc := 179) rfl (fun hc => (absurd hc (by decide) : False).elim) (fun _ => ?_)
      refine k_aload C X at_166 rfl rfl rfl ?_
      refine k_iconst C X at_168 rfl (v := 0) rfl ?_
      replace X := X.bring (i := 1) rfl (M := (f7, own_ar Z .byte [(.int (nar .byte ((ca >>> ((0) &&& 31 : Int32) : Int32).toInt8.toInt32))), (.int (nar .byte ((ca >>> ((8) &&& 31 : Int32) : Int32).toInt8.toInt32)))]) :: (f6, own_ob Z "java/lang/String" [("value", "[B", (.ref f7)), ("coder", "B", (.int (1)))]) :: (f8, own_ob Z "com/example/cradle/cradle/Origin" [("file", "Ljava/nio/file/Path;", .null), ("line", "I", (.int (0))), ("description", "Ljava/lang/String;", (.ref f6))]) :: Gw9) rfl
      replace X := X.bring (i := 1) rfl (M := (f6, own_ob Z "java/lang/String" [("value", "[B", (.ref f7)), ("coder", "B", (.int (1)))]) :: (f7, own_ar Z .byte [(.int (nar .byte ((ca >>> ((0) &&& 31 : Int32) : Int32).toInt8.toInt32))), (.int (nar .byte ((ca >>> ((8) &&& 31 : Int32) : Int32).toInt8.toInt32)))]) :: (f8, own_ob Z "com/example/cradle/cradle/Origin" [("file", "Ljava/nio/file/Path;", .null), ("line", "I", (.int (0))), ("description", "Ljava/lang/String;", (.ref f6))]) :: Gw9) rfl
      refine k_virtual C X at_169 rfl (hw _ (List.mem_of_getElem? (i := 76) rfl)) (hw _ (List.mem_of_getElem? (i := 77) rfl)) (hw _ (List.mem_of_getElem? (i := 3) rfl)) (hw _ (List.mem_of_getElem? (i := 80) rfl)) (hw _ (List.mem_of_getElem? (i := 79) rfl)) (hw _ (List.mem_of_getElem? (i := 78) rfl)) (by decide) (own_nf C.2.2.2.1 (hw _ (List.mem_of_getElem? (i := 79) rfl))) (own_eL (ix := 0) rfl) (own_cha110 l Z a0 hw f6 f7 (nar .byte ((ca >>> ((0) &&& 31 : Int32) : Int32).toInt8.toInt32)) (nar .byte ((ca >>> ((8) &&& 31 : Int32) : Int32).toInt8.toInt32)) cs fm hS hcs hAD hHI hLO hFM hfc ((f8, own_ob Z "com/example/cradle/cradle/Origin" [("file", "Ljava/nio/file/Path;", .null), ("line", "I", (.int (0))), ("description", "Ljava/lang/String;", (.ref f6))]) :: Gw9)) (W := 0) (argsL := [(.int (0))]) (rest := []) rfl rfl rfl own_pd20 rfl (Nat.le_of_eq rfl) (by decide) (by decide) (by decide) (by decide) (fun v T M hQ X => ?_)
      obtain ⟨rfl, rfl⟩ := hQ
      refine k_iload C X at_172 rfl rfl ?_
      refine k_icmp_eq C X at_174 rfl (tpc := 179) rfl (fun _ => ?_) (fun hc => (hc (own_u16 hca) : False).elim)
      refine k_iload C X at_179 rfl rfl ?_
      refine k_iconst C X at_181 rfl (v := 2) rfl ?_
      refine k_icmp_lt C X at_182 rfl (tpc := 198) rfl (fun _ => ?_) (fun hc => (absurd hc (by decide) : False).elim)
      refine k_iload C X at_198 rfl rfl ?_
      refine k_iconst C X at_200 rfl (v := 3) rfl ?_
      refine k_icmp_lt C X at_201 rfl (tpc := 217) rfl (fun _ => ?_) (fun hc => (absurd hc (by decide) : False).elim)
      refine k_aload C X at_217 rfl rfl rfl ?_
      refine k_aload C X at_219 rfl rfl rfl ?_
      refine k_virtual C X at_221 rfl (hw _ (List.mem_of_getElem? (i := 61) rfl)) (hw _ (List.mem_of_getElem? (i := 62) rfl)) (hw _ (List.mem_of_getElem? (i := 3) rfl)) (hw _ (List.mem_of_getElem? (i := 65) rfl)) (hw _ (List.mem_of_getElem? (i := 64) rfl)) (hw _ (List.mem_of_getElem? (i := 63) rfl)) (by decide) (own_nf C.2.2.2.1 (hw _ (List.mem_of_getElem? (i := 64) rfl))) (own_eL (ix := 1) rfl) (own_eqs l Z a0 hw f6 cs fm hS hcs hAD hHI hLO hFM hfc ((f7, own_ar Z .byte [(.int (nar .byte ((ca >>> ((0) &&& 31 : Int32) : Int32).toInt8.toInt32))), (.int (nar .byte ((ca >>> ((8) &&& 31 : Int32) : Int32).toInt8.toInt32)))]) :: (f6, own_ob Z "java/lang/String" [("value", "[B", (.ref f7)), ("coder", "B", (.int (1)))]) :: (f8, own_ob Z "com/example/cradle/cradle/Origin" [("file", "Ljava/nio/file/Path;", .null), ("line", "I", (.int (0))), ("description", "Ljava/lang/String;", (.ref f6))]) :: Gw9)) (W := 0) (argsL := [(.ref f6)]) (rest := []) rfl rfl rfl own_pd9 rfl (Nat.le_of_eq rfl) (by decide) (by decide) (by decide) (by decide) (fun v T M hQ X => ?_)
      obtain ⟨rfl, rfl⟩ := hQ
      exact k_ireturnW (M := ([(f7, own_ar Z .byte [(.int (nar .byte ((ca >>> ((0) &&& 31 : Int32) : Int32).toInt8.toInt32))), (.int (nar .byte ((ca >>> ((8) &&& 31 : Int32) : Int32).toInt8.toInt32)))]), (f6, own_ob Z "java/lang/String" [("value", "[B", (.ref f7)), ("coder", "B", (.int (1)))]), (f8, own_ob Z "com/example/cradle/cradle/Origin" [("file", "Ljava/nio/file/Path;", .null), ("line", "I", (.int (0))), ("description", "Ljava/lang/String;", (.ref f6))])])) (G := Gw9) C X rfl Ww9 at_224 (by simp) rfl rfl (by decide) (by decide)
    · skip
      refine k_iload C X at_26 rfl rfl ?_
      refine k_if_ne C X at_28 rfl (tpc := 46) rfl (fun _ => ?_) (fun hc => (absurd hc (by decide) : False).elim)
      refine k_iload C X at_46 rfl rfl ?_
      refine k_iconst C X at_48 rfl (v := 1) rfl ?_
      refine k_icmp_ne C X at_49 rfl (tpc := 62) rfl (fun hc => (absurd hc (by decide) : False).elim) (fun _ => ?_)
      refine k_iload C X at_52 rfl rfl ?_
      refine k_static C X at_54 rfl (hw _ (List.mem_of_getElem? (i := 127) rfl)) (hw _ (List.mem_of_getElem? (i := 128) rfl)) (hw _ (List.mem_of_getElem? (i := 3) rfl)) (hw _ (List.mem_of_getElem? (i := 129) rfl)) (by decide) (own_vof1 l Z a0 hw ca cs fm hS hcs hAD hHI hLO hFM hfc hg0 ([])) (W := 0) (argsL := [(.int ca)]) (rest := []) rfl rfl rfl own_pd13 rfl (Nat.le_of_eq rfl) (by decide) (by decide) (by decide) (by decide) (fun v T M hQ X => ?_)
      obtain ⟨f10, f11, rfl, rfl⟩ := hQ
      refine k_astore C X at_57 rfl rfl (l' := #[.val (.int x0), .val (.int x1), .val (.int x2), .val (.int x3), .val (.int (1)), .val (.int ca), .val (.int cb), .val (.int cc), .val (.ref f10), .unset, .unset]) rfl ?_
      refine k_goto C X at_59 (tpc := 120) rfl ?_
      refine k_aload C X at_120 rfl rfl rfl ?_
      refine k_staticW (vm0 := s.vm) (G := []) C X own_W.start (fun _ _ => trivial) at_122 rfl (hw _ (List.mem_of_getElem? (i := 23) rfl)) (hw _ (List.mem_of_getElem? (i := 24) rfl)) (hw _ (List.mem_of_getElem? (i := 25) rfl)) (hw _ (List.mem_of_getElem? (i := 26) rfl)) (by decide) (own_oof l Z a0 hw f10 f11 (0) cs fm hS hcs hAD hHI hLO hFM hfc ([(f11, own_ar Z .byte [(.int (nar .byte ca.toInt8.toInt32))])])) (W := 0) (argsL := [(.ref f10)]) (rest := []) rfl rfl rfl own_pd6 rfl (Nat.le_of_eq rfl) (by decide) (by decide) (by decide) (by decide) (fun v T M vmw13 Gw13 hQ C Ww13 X => ?_)
      replace Ww13 : own_W s vmw13 Gw13 := Ww13
      obtain ⟨f12, rfl, rfl⟩ := hQ
      replace X : own_S p l e room_1 (s.setVm vmw13) m #[(.int x0), (.int x1), (.int x2), (.int x3)] below meth c Z T ((f12, own_ob Z "com/example/cradle/cradle/Origin" [("file", "Ljava/nio/file/Path;", .null), ("line", "I", (.int (0))), ("description", "Ljava/lang/String;", (.ref f10))]) :: (f10, own_ob Z "java/lang/String" [("value", "[B", (.ref f11)), ("coder", "B", (.int (0)))]) :: (f11, own_ar Z .byte [(.int (nar .byte ca.toInt8.toInt32))]) :: Gw13) 5 36 := X
      refine k_astore C X at_125 rfl rfl (l' := #[.val (.int x0), .val (.int x1), .val (.int x2), .val (.int x3), .val (.int (1)), .val (.int ca), .val (.int cb), .val (.int cc), .val (.ref f10), .val (.ref f12), .unset]) rfl ?_
      refine k_aload C X at_127 rfl rfl rfl ?_
      refine k_ifnonnull_y C X at_129 (tpc := 134) rfl ?_
      refine k_aload C X at_134 rfl rfl rfl ?_
      refine k_virtual C X at_136 rfl (hw _ (List.mem_of_getElem? (i := 45) rfl)) (hw _ (List.mem_of_getElem? (i := 46) rfl)) (hw _ (List.mem_of_getElem? (i := 25) rfl)) (hw _ (List.mem_of_getElem? (i := 49) rfl)) (hw _ (List.mem_of_getElem? (i := 48) rfl)) (hw _ (List.mem_of_getElem? (i := 47) rfl)) (by decide) (own_nf C.2.2.2.1 (hw _ (List.mem_of_getElem? (i := 48) rfl))) (own_eL (ix := 0) rfl) (own_ots l Z a0 hw f12 f10 cs fm hS hcs hAD hHI hLO hFM hfc ((f10, own_ob Z "java/lang/String" [("value", "[B", (.ref f11)), ("coder", "B", (.int (0)))]) :: (f11, own_ar Z .byte [(.int (nar .byte ca.toInt8.toInt32))]) :: Gw13)) (W := 0) (argsL := []) (rest := []) rfl rfl rfl own_pd7 rfl (Nat.le_of_eq rfl) (by decide) (by decide) (by decide) (by decide) (fun v T M hQ X => ?_)
      obtain ⟨rfl, rfl⟩ := hQ
      refine k_astore C X at_139 rfl rfl (l' := #[.val (.int x0), .val (.int x1), .val (.int x2), .val (.int x3), .val (.int (1)), .val (.int ca), .val (.int cb), .val (.int cc), .val (.ref f10), .val (.ref f12), .val (.ref f10)]) rfl ?_
      refine k_aload C X at_141 rfl rfl rfl ?_
      refine k_ifnonnull_y C X at_143 (tpc := 148) rfl ?_
      refine k_aload C X at_148 rfl rfl rfl ?_
      replace X := X.bring (i := 2) rfl (M := (f11, own_ar Z .byte [(.int (nar .byte ca.toInt8.toInt32))]) :: (f12, own_ob Z "com/example/cradle/cradle/Origin" [("file", "Ljava/nio/file/Path;", .null), ("line", "I", (.int (0))), ("description", "Ljava/lang/String;", (.ref f10))]) :: (f10, own_ob Z "java/lang/String" [("value", "[B", (.ref f11)), ("coder", "B", (.int (0)))]) :: Gw13) rfl
      replace X := X.bring (i := 2) rfl (M := (f10, own_ob Z "java/lang/String" [("value", "[B", (.ref f11)), ("coder", "B", (.int (0)))]) :: (f11, own_ar Z .byte [(.int (nar .byte ca.toInt8.toInt32))]) :: (f12, own_ob Z "com/example/cradle/cradle/Origin" [("file", "Ljava/nio/file/Path;", .null), ("line", "I", (.int (0))), ("description", "Ljava/lang/String;", (.ref f10))]) :: Gw13) rfl
      refine k_virtual C X at_150 rfl (hw _ (List.mem_of_getElem? (i := 50) rfl)) (hw _ (List.mem_of_getElem? (i := 51) rfl)) (hw _ (List.mem_of_getElem? (i := 3) rfl)) (hw _ (List.mem_of_getElem? (i := 54) rfl)) (hw _ (List.mem_of_getElem? (i := 53) rfl)) (hw _ (List.mem_of_getElem? (i := 52) rfl)) (by decide) (own_nf C.2.2.2.1 (hw _ (List.mem_of_getElem? (i := 53) rfl))) (own_eL (ix := 0) rfl) (own_len10 l Z a0 hw f10 f11 (nar .byte ca.toInt8.toInt32) cs fm hS hcs hAD hHI hLO hFM hfc ((f12, own_ob Z "com/example/cradle/cradle/Origin" [("file", "Ljava/nio/file/Path;", .null), ("line", "I", (.int (0))), ("description", "Ljava/lang/String;", (.ref f10))]) :: Gw13)) (W := 0) (argsL := []) (rest := []) rfl rfl rfl own_pd8 rfl (Nat.le_of_eq rfl) (by decide) (by decide) (by decide) (by decide) (fun v T M hQ X => ?_)
      obtain ⟨rfl, rfl⟩ := hQ
      refine k_iload C X at_153 rfl rfl ?_
      refine k_icmp_eq C X at_155 rfl (tpc := 160) rfl (fun _ => ?_) (fun hc => (absurd hc (by decide) : False).elim)
      refine k_iload C X at_160 rfl rfl ?_
      refine k_iconst C X at_162 rfl (v := 1) rfl ?_
      refine k_icmp_lt C X at_163 rfl (tpc := 179) rfl (fun hc => (absurd hc (by decide) : False).elim) (fun _ => ?_)
      refine k_aload C X at_166 rfl rfl rfl ?_
      refine k_iconst C X at_168 rfl (v := 0) rfl ?_
      replace X := X.bring (i := 1) rfl (M := (f11, own_ar Z .byte [(.int (nar .byte ca.toInt8.toInt32))]) :: (f10, own_ob Z "java/lang/String" [("value", "[B", (.ref f11)), ("coder", "B", (.int (0)))]) :: (f12, own_ob Z "com/example/cradle/cradle/Origin" [("file", "Ljava/nio/file/Path;", .null), ("line", "I", (.int (0))), ("description", "Ljava/lang/String;", (.ref f10))]) :: Gw13) rfl
      replace X := X.bring (i := 1) rfl (M := (f10, own_ob Z "java/lang/String" [("value", "[B", (.ref f11)), ("coder", "B", (.int (0)))]) :: (f11, own_ar Z .byte [(.int (nar .byte ca.toInt8.toInt32))]) :: (f12, own_ob Z "com/example/cradle/cradle/Origin" [("file", "Ljava/nio/file/Path;", .null), ("line", "I", (.int (0))), ("description", "Ljava/lang/String;", (.ref f10))]) :: Gw13) rfl
      refine k_virtual C X at_169 rfl (hw _ (List.mem_of_getElem? (i := 76) rfl)) (hw _ (List.mem_of_getElem? (i := 77) rfl)) (hw _ (List.mem_of_getElem? (i := 3) rfl)) (hw _ (List.mem_of_getElem? (i := 80) rfl)) (hw _ (List.mem_of_getElem? (i := 79) rfl)) (hw _ (List.mem_of_getElem? (i := 78) rfl)) (by decide) (own_nf C.2.2.2.1 (hw _ (List.mem_of_getElem? (i := 79) rfl))) (own_eL (ix := 0) rfl) (own_cha100 l Z a0 hw f10 f11 (nar .byte ca.toInt8.toInt32) cs fm hS hcs hAD hHI hLO hFM hfc ((f12, own_ob Z "com/example/cradle/cradle/Origin" [("file", "Ljava/nio/file/Path;", .null), ("line", "I", (.int (0))), ("description", "Ljava/lang/String;", (.ref f10))]) :: Gw13)) (W := 0) (argsL := [(.int (0))]) (rest := []) rfl rfl rfl own_pd20 rfl (Nat.le_of_eq rfl) (by decide) (by decide) (by decide) (by decide) (fun v T M hQ X => ?_)
      obtain ⟨rfl, rfl⟩ := hQ
      refine k_iload C X at_172 rfl rfl ?_
      refine k_icmp_eq C X at_174 rfl (tpc := 179) rfl (fun _ => ?_) (fun hc => (hc (own_lat hca hg0) : False).elim)
      refine k_iload C X at_179 rfl rfl ?_
      refine k_iconst C X at_181 rfl (v := 2) rfl ?_
      refine k_icmp_lt C X at_182 rfl (tpc := 198) rfl (fun _ => ?_) (fun hc => (absurd hc (by decide) : False).elim)
      refine k_iload C X at_198 rfl rfl ?_
      refine k_iconst C X at_200 rfl (v := 3) rfl ?_
      refine k_icmp_lt C X at_201 rfl (tpc := 217) rfl (fun _ => ?_) (fun hc => (absurd hc (by decide) : False).elim)
      refine k_aload C X at_217 rfl rfl rfl ?_
      refine k_aload C X at_219 rfl rfl rfl ?_
      refine k_virtual C X at_221 rfl (hw _ (List.mem_of_getElem? (i := 61) rfl)) (hw _ (List.mem_of_getElem? (i := 62) rfl)) (hw _ (List.mem_of_getElem? (i := 3) rfl)) (hw _ (List.mem_of_getElem? (i := 65) rfl)) (hw _ (List.mem_of_getElem? (i := 64) rfl)) (hw _ (List.mem_of_getElem? (i := 63) rfl)) (by decide) (own_nf C.2.2.2.1 (hw _ (List.mem_of_getElem? (i := 64) rfl))) (own_eL (ix := 1) rfl) (own_eqs l Z a0 hw f10 cs fm hS hcs hAD hHI hLO hFM hfc ((f11, own_ar Z .byte [(.int (nar .byte ca.toInt8.toInt32))]) :: (f10, own_ob Z "java/lang/String" [("value", "[B", (.ref f11)), ("coder", "B", (.int (0)))]) :: (f12, own_ob Z "com/example/cradle/cradle/Origin" [("file", "Ljava/nio/file/Path;", .null), ("line", "I", (.int (0))), ("description", "Ljava/lang/String;", (.ref f10))]) :: Gw13)) (W := 0) (argsL := [(.ref f10)]) (rest := []) rfl rfl rfl own_pd9 rfl (Nat.le_of_eq rfl) (by decide) (by decide) (by decide) (by decide) (fun v T M hQ X => ?_)
      obtain ⟨rfl, rfl⟩ := hQ
      exact k_ireturnW (M := ([(f11, own_ar Z .byte [(.int (nar .byte ca.toInt8.toInt32))]), (f10, own_ob Z "java/lang/String" [("value", "[B", (.ref f11)), ("coder", "B", (.int (0)))]), (f12, own_ob Z "com/example/cradle/cradle/Origin" [("file", "Ljava/nio/file/Path;", .null), ("line", "I", (.int (0))), ("description", "Ljava/lang/String;", (.ref f10))])])) (G := Gw13) C X rfl Ww13 at_224 (by simp) rfl rfl (by decide) (by decide)
  · rw [hk]
    have hca := own_chi e_ca
    have hcb := own_chi e_cb
    have hcc := own_chi e_cc
    by_cases hg0 : (255) < (nar .char ca)
    · skip
      refine k_iload C X at_26 rfl rfl ?_
      refine k_if_ne C X at_28 rfl (tpc := 46) rfl (fun _ => ?_) (fun hc => (absurd hc (by decide) : False).elim)
      refine k_iload C X at_46 rfl rfl ?_
      refine k_iconst C X at_48 rfl (v := 1) rfl ?_
      refine k_icmp_ne C X at_49 rfl (tpc := 62) rfl (fun _ => ?_) (fun hc => (absurd hc (by decide) : False).elim)
      refine k_iload C X at_62 rfl rfl ?_
      refine k_iconst C X at_64 rfl (v := 2) rfl ?_
      refine k_icmp_ne C X at_65 rfl (tpc := 93) rfl (fun hc => (absurd hc (by decide) : False).elim) (fun _ => ?_)
      refine k_new C X at_68 rfl (hw _ (List.mem_of_getElem? (i := 1) rfl)) (hw _ (List.mem_of_getElem? (i := 2) rfl)) (hw _ (List.mem_of_getElem? (i := 3) rfl)) (own_lay_String hw) (fs := [("value", "[B", .null), ("coder", "B", (.int (0)))]) rfl (by decide) (by decide) (fun T o68 X => ?_)
      refine k_dup C X at_71 rfl rfl ?_
      refine k_iconst C X at_72 rfl (v := 2) rfl ?_
      refine k_newarray C X at_73 rfl (ty := .char) rfl (hw _ (List.mem_of_getElem? (i := 4) rfl)) (by decide) (cap := 2) (by decide) (by decide) (by decide) (by decide) (vs := [(.int 0), (.int 0)]) rfl (fun T o73 X => ?_)
      refine k_dup C X at_75 rfl rfl ?_
      refine k_iconst C X at_76 rfl (v := 0) rfl ?_
      refine k_iload C X at_77 rfl rfl ?_
      refine k_castore C X at_79 rfl (ix := 0) (i := 0) rfl (by decide) (by decide) (Nat.le_of_ble_eq_true rfl) (vs' := [(.int (nar .char ca)), (.int 0)]) rfl (L' := [(o73, own_ar Z .char [(.int (nar .char ca)), (.int 0)]), (o68, own_ob Z "java/lang/String" [("value", "[B", .null), ("coder", "B", (.int (0)))])]) rfl (fun T X => ?_)
      refine k_dup C X at_80 rfl rfl ?_
      refine k_iconst C X at_81 rfl (v := 1) rfl ?_
      refine k_iload C X at_82 rfl rfl ?_
      refine k_castore C X at_84 rfl (ix := 0) (i := 1) rfl (by decide) (by decide) (Nat.le_of_ble_eq_true rfl) (vs' := [(.int (nar .char ca)), (.int (nar .char cb))]) rfl (L' := [(o73, own_ar Z .char [(.int (nar .char ca)), (.int (nar .char cb))]), (o68, own_ob Z "java/lang/String" [("value", "[B", .null), ("coder", "B", (.int (0)))])]) rfl (fun T X => ?_)
      replace X := X.bring (i := 1) rfl (M := [(o68, own_ob Z "java/lang/String" [("value", "[B", .null), ("coder", "B", (.int (0)))]), (o73, own_ar Z .char [(.int (nar .char ca)), (.int (nar .char cb))])]) rfl
      refine k_init C X at_85 rfl rfl (hw _ (List.mem_of_getElem? (i := 5) rfl)) (hw _ (List.mem_of_getElem? (i := 6) rfl)) (hw _ (List.mem_of_getElem? (i := 3) rfl)) (hw _ (List.mem_of_getElem? (i := 7) rfl)) (by decide) (own_si1_20 l Z a0 hw o68 o73 (nar .char ca) (nar .char cb) cs fm hS hcs hAD hHI hLO hFM hfc (own_chn _) (own_chn _) hg0 ([])) (W := 1) (argsL := [(.ref o73)]) (rest := [(.ref o68)]) rfl rfl rfl own_pd5 rfl (Nat.le_of_eq rfl) (by decide) (by decide) (by decide) (by decide) (fun v T M hQ X => ?_)
      obtain ⟨f14, f15, rfl, rfl⟩ := hQ
      refine k_astore C X at_88 rfl rfl (l' := #[.val (.int x0), .val (.int x1), .val (.int x2), .val (.int x3), .val (.int (2)), .val (.int ca), .val (.int cb), .val (.int cc), .val (.ref o68), .unset, .unset]) rfl ?_
      refine k_goto C X at_90 (tpc := 120) rfl ?_
      refine k_aload C X at_120 rfl rfl rfl ?_
      replace X := X.bring (i := 3) rfl (M := [(o68, own_ob Z "java/lang/String" [("value", "[B", (.ref f14)), ("coder", "B", (.int (1)))]), (f14, own_ar Z .byte [(.int (nar .byte (((nar .char ca) >>> ((0) &&& 31 : Int32) : Int32).toInt8.toInt32))), (.int (nar .byte (((nar .char ca) >>> ((8) &&& 31 : Int32) : Int32).toInt8.toInt32))), (.int (nar .byte (((nar .char cb) >>> ((0) &&& 31 : Int32) : Int32).toInt8.toInt32))), (.int (nar .byte (((nar .char cb) >>> ((8) &&& 31 : Int32) : Int32).toInt8.toInt32)))]), (o73, own_ar Z .char [(.int (nar .char ca)), (.int (nar .char cb))]), (f15, own_ar Z .byte [(.int 0), (.int 0)])]) rfl
      refine k_staticW (vm0 := s.vm) (G := []) C X own_W.start (fun _ _ => trivial) at_122 rfl (hw _ (List.mem_of_getElem? (i := 23) rfl)) (hw _ (List.mem_of_getElem? (i := 24) rfl)) (hw _ (List.mem_of_getElem? (i := 25) rfl)) (hw _ (List.mem_of_getElem? (i := 26) rfl)) (by decide) (own_oof l Z a0 hw o68 f14 (1) cs fm hS hcs hAD hHI hLO hFM hfc ([(f14, own_ar Z .byte [(.int (nar .byte (((nar .char ca) >>> ((0) &&& 31 : Int32) : Int32).toInt8.toInt32))), (.int (nar .byte (((nar .char ca) >>> ((8) &&& 31 : Int32) : Int32).toInt8.toInt32))), (.int (nar .byte (((nar .char cb) >>> ((0) &&& 31 : Int32) : Int32).toInt8.toInt32))), (.int (nar .byte (((nar .char cb) >>> ((8) &&& 31 : Int32) : Int32).toInt8.toInt32)))]), (o73, own_ar Z .char [(.int (nar .char ca)), (.int (nar .char cb))]), (f15, own_ar Z .byte [(.int 0), (.int 0)])])) (W := 0) (argsL := [(.ref o68)]) (rest := []) rfl rfl rfl own_pd6 rfl (Nat.le_of_eq rfl) (by decide) (by decide) (by decide) (by decide) (fun v T M vmw17 Gw17 hQ C Ww17 X => ?_)
      replace Ww17 : own_W s vmw17 Gw17 := Ww17
      obtain ⟨f16, rfl, rfl⟩ := hQ
      replace X : own_S p l e room_1 (s.setVm vmw17) m #[(.int x0), (.int x1), (.int x2), (.int x3)] below meth c Z T ((f16, own_ob Z "com/example/cradle/cradle/Origin" [("file", "Ljava/nio/file/Path;", .null), ("line", "I", (.int (0))), ("description", "Ljava/lang/String;", (.ref o68))]) :: (o68, own_ob Z "java/lang/String" [("value", "[B", (.ref f14)), ("coder", "B", (.int (1)))]) :: (f14, own_ar Z .byte [(.int (nar .byte (((nar .char ca) >>> ((0) &&& 31 : Int32) : Int32).toInt8.toInt32))), (.int (nar .byte (((nar .char ca) >>> ((8) &&& 31 : Int32) : Int32).toInt8.toInt32))), (.int (nar .byte (((nar .char cb) >>> ((0) &&& 31 : Int32) : Int32).toInt8.toInt32))), (.int (nar .byte (((nar .char cb) >>> ((8) &&& 31 : Int32) : Int32).toInt8.toInt32)))]) :: (o73, own_ar Z .char [(.int (nar .char ca)), (.int (nar .char cb))]) :: (f15, own_ar Z .byte [(.int 0), (.int 0)]) :: Gw17) 7 43 := X
      refine k_astore C X at_125 rfl rfl (l' := #[.val (.int x0), .val (.int x1), .val (.int x2), .val (.int x3), .val (.int (2)), .val (.int ca), .val (.int cb), .val (.int cc), .val (.ref o68), .val (.ref f16), .unset]) rfl ?_
      refine k_aload C X at_127 rfl rfl rfl ?_
      refine k_ifnonnull_y C X at_129 (tpc := 134) rfl ?_
      refine k_aload C X at_134 rfl rfl rfl ?_
      refine k_virtual C X at_136 rfl (hw _ (List.mem_of_getElem? (i := 45) rfl)) (hw _ (List.mem_of_getElem? (i := 46) rfl)) (hw _ (List.mem_of_getElem? (i := 25) rfl)) (hw _ (List.mem_of_getElem? (i := 49) rfl)) (hw _ (List.mem_of_getElem? (i := 48) rfl)) (hw _ (List.mem_of_getElem? (i := 47) rfl)) (by decide) (own_nf C.2.2.2.1 (hw _ (List.mem_of_getElem? (i := 48) rfl))) (own_eL (ix := 0) rfl) (own_ots l Z a0 hw f16 o68 cs fm hS hcs hAD hHI hLO hFM hfc ((o68, own_ob Z "java/lang/String" [("value", "[B", (.ref f14)), ("coder", "B", (.int (1)))]) :: (f14, own_ar Z .byte [(.int (nar .byte (((nar .char ca) >>> ((0) &&& 31 : Int32) : Int32).toInt8.toInt32))), (.int (nar .byte (((nar .char ca) >>> ((8) &&& 31 : Int32) : Int32).toInt8.toInt32))), (.int (nar .byte (((nar .char cb) >>> ((0) &&& 31 : Int32) : Int32).toInt8.toInt32))), (.int (nar .byte (((nar .char cb) >>> ((8) &&& 31 : Int32) : Int32).toInt8.toInt32)))]) :: (o73, own_ar Z .char [(.int (nar .char ca)), (.int (nar .char cb))]) :: (f15, own_ar Z .byte [(.int 0), (.int 0)]) :: Gw17)) (W := 0) (argsL := []) (rest := []) rfl rfl rfl own_pd7 rfl (Nat.le_of_eq rfl) (by decide) (by decide) (by decide) (by decide) (fun v T M hQ X => ?_)
      obtain ⟨rfl, rfl⟩ := hQ
      refine k_astore C X at_139 rfl rfl (l' := #[.val (.int x0), .val (.int x1), .val (.int x2), .val (.int x3), .val (.int (2)), .val (.int ca), .val (.int cb), .val (.int cc), .val (.ref o68), .val (.ref f16), .val (.ref o68)]) rfl ?_
      refine k_aload C X at_141 rfl rfl rfl ?_
      refine k_ifnonnull_y C X at_143 (tpc := 148) rfl ?_
      refine k_aload C X at_148 rfl rfl rfl ?_
      replace X := X.bring (i := 2) rfl (M := (f14, own_ar Z .byte [(.int (nar .byte (((nar .char ca) >>> ((0) &&& 31 : Int32) : Int32).toInt8.toInt32))), (.int (nar .byte (((nar .char ca) >>> ((8) &&& 31 : Int32) : Int32).toInt8.toInt32))), (.int (nar .byte (((nar .char cb) >>> ((0) &&& 31 : Int32) : Int32).toInt8.toInt32))), (.int (nar .byte (((nar .char cb) >>> ((8) &&& 31 : Int32) : Int32).toInt8.toInt32)))]) :: (f16, own_ob Z "com/example/cradle/cradle/Origin" [("file", "Ljava/nio/file/Path;", .null), ("line", "I", (.int (0))), ("description", "Ljava/lang/String;", (.ref o68))]) :: (o68, own_ob Z "java/lang/String" [("value", "[B", (.ref f14)), ("coder", "B", (.int (1)))]) :: (o73, own_ar Z .char [(.int (nar .char ca)), (.int (nar .char cb))]) :: (f15, own_ar Z .byte [(.int 0), (.int 0)]) :: Gw17) rfl
      replace X := X.bring (i := 2) rfl (M := (o68, own_ob Z "java/lang/String" [("value", "[B", (.ref f14)), ("coder", "B", (.int (1)))]) :: (f14, own_ar Z .byte [(.int (nar .byte (((nar .char ca) >>> ((0) &&& 31 : Int32) : Int32).toInt8.toInt32))), (.int (nar .byte (((nar .char ca) >>> ((8) &&& 31 : Int32) : Int32).toInt8.toInt32))), (.int (nar .byte (((nar .char cb) >>> ((0) &&& 31 : Int32) : Int32).toInt8.toInt32))), (.int (nar .byte (((nar .char cb) >>> ((8) &&& 31 : Int32) : Int32).toInt8.toInt32)))]) :: (f16, own_ob Z "com/example/cradle/cradle/Origin" [("file", "Ljava/nio/file/Path;", .null), ("line", "I", (.int (0))), ("description", "Ljava/lang/String;", (.ref o68))]) :: (o73, own_ar Z .char [(.int (nar .char ca)), (.int (nar .char cb))]) :: (f15, own_ar Z .byte [(.int 0), (.int 0)]) :: Gw17) rfl
      refine k_virtual C X at_150 rfl (hw _ (List.mem_of_getElem? (i := 50) rfl)) (hw _ (List.mem_of_getElem? (i := 51) rfl)) (hw _ (List.mem_of_getElem? (i := 3) rfl)) (hw _ (List.mem_of_getElem? (i := 54) rfl)) (hw _ (List.mem_of_getElem? (i := 53) rfl)) (hw _ (List.mem_of_getElem? (i := 52) rfl)) (by decide) (own_nf C.2.2.2.1 (hw _ (List.mem_of_getElem? (i := 53) rfl))) (own_eL (ix := 0) rfl) (own_len21 l Z a0 hw o68 f14 (nar .byte (((nar .char ca) >>> ((0) &&& 31 : Int32) : Int32).toInt8.toInt32)) (nar .byte (((nar .char ca) >>> ((8) &&& 31 : Int32) : Int32).toInt8.toInt32)) (nar .byte (((nar .char cb) >>> ((0) &&& 31 : Int32) : Int32).toInt8.toInt32)) (nar .byte (((nar .char cb) >>> ((8) &&& 31 : Int32) : Int32).toInt8.toInt32)) cs fm hS hcs hAD hHI hLO hFM hfc ((f16, own_ob Z "com/example/cradle/cradle/Origin" [("file", "Ljava/nio/file/Path;", .null), ("line", "I", (.int (0))), ("description", "Ljava/lang/String;", (.ref o68))]) :: (o73, own_ar Z .char [(.int (nar .char ca)), (.int (nar .char cb))]) :: (f15, own_ar Z .byte [(.int 0), (.int 0)]) :: Gw17)) (W := 0) (argsL := []) (rest := []) rfl rfl rfl own_pd8 rfl (Nat.le_of_eq rfl) (by decide) (by decide) (by decide) (by decide) (fun v T M hQ X => ?_)
      obtain ⟨rfl, rfl⟩ := hQ
      refine k_iload C X at_153 rfl rfl ?_
      refine k_icmp_eq C X at_155 rfl (tpc := 160) rfl (fun _ => ?_) (fun hc => (absurd hc (by decide) : False).elim)
      refine k_iload C X at_160 rfl rfl ?_
      refine k_iconst C X at_162 rfl (v := 1) rfl ?_
      refine k_icmp_lt C X at_163 rfl (tpc := 179) rfl (fun hc => (absurd hc (by decide) : False).elim) (fun _ => ?_)
      refine k_aload C X at_166 rfl rfl rfl ?_
      refine k_iconst C X at_168 rfl (v := 0) rfl ?_
      replace X := X.bring (i := 1) rfl (M := (f14, own_ar Z .byte [(.int (nar .byte (((nar .char ca) >>> ((0) &&& 31 : Int32) : Int32).toInt8.toInt32))), (.int (nar .byte (((nar .char ca) >>> ((8) &&& 31 : Int32) : Int32).toInt8.toInt32))), (.int (nar .byte (((nar .char cb) >>> ((0) &&& 31 : Int32) : Int32).toInt8.toInt32))), (.int (nar .byte (((nar .char cb) >>> ((8) &&& 31 : Int32) : Int32).toInt8.toInt32)))]) :: (o68, own_ob Z "java/lang/String" [("value", "[B", (.ref f14)), ("coder", "B", (.int (1)))]) :: (f16, own_ob Z "com/example/cradle/cradle/Origin" [("file", "Ljava/nio/file/Path;", .null), ("line", "I", (.int (0))), ("description", "Ljava/lang/String;", (.ref o68))]) :: (o73, own_ar Z .char [(.int (nar .char ca)), (.int (nar .char cb))]) :: (f15, own_ar Z .byte [(.int 0), (.int 0)]) :: Gw17) rfl
      replace X := X.bring (i := 1) rfl (M := (o68, own_ob Z "java/lang/String" [("value", "[B", (.ref f14)), ("coder", "B", (.int (1)))]) :: (f14, own_ar Z .byte [(.int (nar .byte (((nar .char ca) >>> ((0) &&& 31 : Int32) : Int32).toInt8.toInt32))), (.int (nar .byte (((nar .char ca) >>> ((8) &&& 31 : Int32) : Int32).toInt8.toInt32))), (.int (nar .byte (((nar .char cb) >>> ((0) &&& 31 : Int32) : Int32).toInt8.toInt32))), (.int (nar .byte (((nar .char cb) >>> ((8) &&& 31 : Int32) : Int32).toInt8.toInt32)))]) :: (f16, own_ob Z "com/example/cradle/cradle/Origin" [("file", "Ljava/nio/file/Path;", .null), ("line", "I", (.int (0))), ("description", "Ljava/lang/String;", (.ref o68))]) :: (o73, own_ar Z .char [(.int (nar .char ca)), (.int (nar .char cb))]) :: (f15, own_ar Z .byte [(.int 0), (.int 0)]) :: Gw17) rfl
      refine k_virtual C X at_169 rfl (hw _ (List.mem_of_getElem? (i := 76) rfl)) (hw _ (List.mem_of_getElem? (i := 77) rfl)) (hw _ (List.mem_of_getElem? (i := 3) rfl)) (hw _ (List.mem_of_getElem? (i := 80) rfl)) (hw _ (List.mem_of_getElem? (i := 79) rfl)) (hw _ (List.mem_of_getElem? (i := 78) rfl)) (by decide) (own_nf C.2.2.2.1 (hw _ (List.mem_of_getElem? (i := 79) rfl))) (own_eL (ix := 0) rfl) (own_cha210 l Z a0 hw o68 f14 (nar .byte (((nar .char ca) >>> ((0) &&& 31 : Int32) : Int32).toInt8.toInt32)) (nar .byte (((nar .char ca) >>> ((8) &&& 31 : Int32) : Int32).toInt8.toInt32)) (nar .byte (((nar .char cb) >>> ((0) &&& 31 : Int32) : Int32).toInt8.toInt32)) (nar .byte (((nar .char cb) >>> ((8) &&& 31 : Int32) : Int32).toInt8.toInt32)) cs fm hS hcs hAD hHI hLO hFM hfc ((f16, own_ob Z "com/example/cradle/cradle/Origin" [("file", "Ljava/nio/file/Path;", .null), ("line", "I", (.int (0))), ("description", "Ljava/lang/String;", (.ref o68))]) :: (o73, own_ar Z .char [(.int (nar .char ca)), (.int (nar .char cb))]) :: (f15, own_ar Z .byte [(.int 0), (.int 0)]) :: Gw17)) (W := 0) (argsL := [(.int (0))]) (rest := []) rfl rfl rfl own_pd20 rfl (Nat.le_of_eq rfl) (by decide) (by decide) (by decide) (by decide) (fun v T M hQ X => ?_)
      obtain ⟨rfl, rfl⟩ := hQ
      refine k_iload C X at_172 rfl rfl ?_
      refine k_icmp_eq C X at_174 rfl (tpc := 179) rfl (fun _ => ?_) (fun hc => (hc ((own_u16 (own_chn _)).trans (own_chs hca)) : False).elim)
      refine k_iload C X at_179 rfl rfl ?_
      refine k_iconst C X at_181 rfl (v := 2) rfl ?_
      refine k_icmp_lt C X at_182 rfl (tpc := 198) rfl (fun hc => (absurd hc (by decide) : False).elim) (fun _ => ?_)
      refine k_aload C X at_185 rfl rfl rfl ?_
      refine k_iconst C X at_187 rfl (v := 1) rfl ?_
      replace X := X.bring (i := 1) rfl (M := (o68, own_ob Z "java/lang/String" [("value", "[B", (.ref f14)), ("coder", "B", (.int (1)))]) :: (f14, own_ar Z .byte [(.int (nar .byte (((nar .char ca) >>> ((0) &&& 31 : Int32) : Int32).toInt8.toInt32))), (.int (nar .byte (((nar .char ca) >>> ((8) &&& 31 : Int32) : Int32).toInt8.toInt32))), (.int (nar .byte (((nar .char cb) >>> ((0) &&& 31 : Int32) : Int32).toInt8.toInt32))), (.int (nar .byte (((nar .char cb) >>> ((8) &&& 31 : Int32) : Int32).toInt8.toInt32)))]) :: (f16, own_ob Z "com/example/cradle/cradle/Origin" [("file", "Ljava/nio/file/Path;", .null), ("line", "I", (.int (0))), ("description", "Ljava/lang/String;", (.ref o68))]) :: (o73, own_ar Z .char [(.int (nar .char ca)), (.int (nar .char cb))]) :: (f15, own_ar Z .byte [(.int 0), (.int 0)]) :: Gw17) rfl
      refine k_virtual C X at_188 rfl (hw _ (List.mem_of_getElem? (i := 76) rfl)) (hw _ (List.mem_of_getElem? (i := 77) rfl)) (hw _ (List.mem_of_getElem? (i := 3) rfl)) (hw _ (List.mem_of_getElem? (i := 80) rfl)) (hw _ (List.mem_of_getElem? (i := 79) rfl)) (hw _ (List.mem_of_getElem? (i := 78) rfl)) (by decide) (own_nf C.2.2.2.1 (hw _ (List.mem_of_getElem? (i := 79) rfl))) (own_eL (ix := 0) rfl) (own_cha211 l Z a0 hw o68 f14 (nar .byte (((nar .char ca) >>> ((0) &&& 31 : Int32) : Int32).toInt8.toInt32)) (nar .byte (((nar .char ca) >>> ((8) &&& 31 : Int32) : Int32).toInt8.toInt32)) (nar .byte (((nar .char cb) >>> ((0) &&& 31 : Int32) : Int32).toInt8.toInt32)) (nar .byte (((nar .char cb) >>> ((8) &&& 31 : Int32) : Int32).toInt8.toInt32)) cs fm hS hcs hAD hHI hLO hFM hfc ((f16, own_ob Z "com/example/cradle/cradle/Origin" [("file", "Ljava/nio/file/Path;", .null), ("line", "I", (.int (0))), ("description", "Ljava/lang/String;", (.ref o68))]) :: (o73, own_ar Z .char [(.int (nar .char ca)), (.int (nar .char cb))]) :: (f15, own_ar Z .byte [(.int 0), (.int 0)]) :: Gw17)) (W := 0) (argsL := [(.int (1))]) (rest := []) rfl rfl rfl own_pd20 rfl (Nat.le_of_eq rfl) (by decide) (by decide) (by decide) (by decide) (fun v T M hQ X => ?_)
      obtain ⟨rfl, rfl⟩ := hQ
      refine k_iload C X at_191 rfl rfl ?_
      refine k_icmp_eq C X at_193 rfl (tpc := 198) rfl (fun _ => ?_) (fun hc => (hc ((own_u16 (own_chn _)).trans (own_chs hcb)) : False).elim)
      refine k_iload C X at_198 rfl rfl ?_
      refine k_iconst C X at_200 rfl (v := 3) rfl ?_
      refine k_icmp_lt C X at_201 rfl (tpc := 217) rfl (fun _ => ?_) (fun hc => (absurd hc (by decide) : False).elim)
      refine k_aload C X at_217 rfl rfl rfl ?_
      refine k_aload C X at_219 rfl rfl rfl ?_
      refine k_virtual C X at_221 rfl (hw _ (List.mem_of_getElem? (i := 61) rfl)) (hw _ (List.mem_of_getElem? (i := 62) rfl)) (hw _ (List.mem_of_getElem? (i := 3) rfl)) (hw _ (List.mem_of_getElem? (i := 65) rfl)) (hw _ (List.mem_of_getElem? (i := 64) rfl)) (hw _ (List.mem_of_getElem? (i := 63) rfl)) (by decide) (own_nf C.2.2.2.1 (hw _ (List.mem_of_getElem? (i := 64) rfl))) (own_eL (ix := 1) rfl) (own_eqs l Z a0 hw o68 cs fm hS hcs hAD hHI hLO hFM hfc ((f14, own_ar Z .byte [(.int (nar .byte (((nar .char ca) >>> ((0) &&& 31 : Int32) : Int32).toInt8.toInt32))), (.int (nar .byte (((nar .char ca) >>> ((8) &&& 31 : Int32) : Int32).toInt8.toInt32))), (.int (nar .byte (((nar .char cb) >>> ((0) &&& 31 : Int32) : Int32).toInt8.toInt32))), (.int (nar .byte (((nar .char cb) >>> ((8) &&& 31 : Int32) : Int32).toInt8.toInt32)))]) :: (o68, own_ob Z "java/lang/String" [("value", "[B", (.ref f14)), ("coder", "B", (.int (1)))]) :: (f16, own_ob Z "com/example/cradle/cradle/Origin" [("file", "Ljava/nio/file/Path;", .null), ("line", "I", (.int (0))), ("description", "Ljava/lang/String;", (.ref o68))]) :: (o73, own_ar Z .char [(.int (nar .char ca)), (.int (nar .char cb))]) :: (f15, own_ar Z .byte [(.int 0), (.int 0)]) :: Gw17)) (W := 0) (argsL := [(.ref o68)]) (rest := []) rfl rfl rfl own_pd9 rfl (Nat.le_of_eq rfl) (by decide) (by decide) (by decide) (by decide) (fun v T M hQ X => ?_)
      obtain ⟨rfl, rfl⟩ := hQ
      exact k_ireturnW (M := ([(f14, own_ar Z .byte [(.int (nar .byte (((nar .char ca) >>> ((0) &&& 31 : Int32) : Int32).toInt8.toInt32))), (.int (nar .byte (((nar .char ca) >>> ((8) &&& 31 : Int32) : Int32).toInt8.toInt32))), (.int (nar .byte (((nar .char cb) >>> ((0) &&& 31 : Int32) : Int32).toInt8.toInt32))), (.int (nar .byte (((nar .char cb) >>> ((8) &&& 31 : Int32) : Int32).toInt8.toInt32)))]), (o68, own_ob Z "java/lang/String" [("value", "[B", (.ref f14)), ("coder", "B", (.int (1)))]), (f16, own_ob Z "com/example/cradle/cradle/Origin" [("file", "Ljava/nio/file/Path;", .null), ("line", "I", (.int (0))), ("description", "Ljava/lang/String;", (.ref o68))]), (o73, own_ar Z .char [(.int (nar .char ca)), (.int (nar .char cb))]), (f15, own_ar Z .byte [(.int 0), (.int 0)])])) (G := Gw17) C X rfl Ww17 at_224 (by simp) rfl rfl (by decide) (by decide)
    · skip
      by_cases hg1 : (255) < (nar .char cb)
      · skip
        refine k_iload C X at_26 rfl rfl ?_
        refine k_if_ne C X at_28 rfl (tpc := 46) rfl (fun _ => ?_) (fun hc => (absurd hc (by decide) : False).elim)
        refine k_iload C X at_46 rfl rfl ?_
        refine k_iconst C X at_48 rfl (v := 1) rfl ?_
        refine k_icmp_ne C X at_49 rfl (tpc := 62) rfl (fun _ => ?_) (fun hc => (absurd hc (by decide) : False).elim)
        refine k_iload C X at_62 rfl rfl ?_
        refine k_iconst C X at_64 rfl (v := 2) rfl ?_
        refine k_icmp_ne C X at_65 rfl (tpc := 93) rfl (fun hc => (absurd hc (by decide) : False).elim) (fun _ => ?_)
        refine k_new C X at_68 rfl (hw _ (List.mem_of_getElem? (i := 1) rfl)) (hw _ (List.mem_of_getElem? (i := 2) rfl)) (hw _ (List.mem_of_getElem? (i := 3) rfl)) (own_lay_String hw) (fs := [("value", "[B", .null), ("coder", "B", (.int (0)))]) rfl (by decide) (by decide) (fun T o68 X => ?_)
        refine k_dup C X at_71 rfl rfl ?_
        refine k_iconst C X at_72 rfl (v := 2) rfl ?_
        refine k_newarray C X at_73 rfl (ty := .char) rfl (hw _ (List.mem_of_getElem? (i := 4) rfl)) (by decide) (cap := 2) (by decide) (by decide) (by decide) (by decide) (vs := [(.int 0), (.int 0)]) rfl (fun T o73 X => ?_)
        refine k_dup C X at_75 rfl rfl ?_
        refine k_iconst C X at_76 rfl (v := 0) rfl ?_
        refine k_iload C X at_77 rfl rfl ?_
        refine k_castore C X at_79 rfl (ix := 0) (i := 0) rfl (by decide) (by decide) (Nat.le_of_ble_eq_true rfl) (vs' := [(.int (nar .char ca)), (.int 0)]) rfl (L' := [(o73, own_ar Z .char [(.int (nar .char ca)), (.int 0)]), (o68, own_ob Z "java/lang/String" [("value", "[B", .null), ("coder", "B", (.int (0)))])]) rfl (fun T X => ?_)
        refine k_dup C X at_80 rfl rfl ?_
        refine k_iconst C X at_81 rfl (v := 1) rfl ?_
        refine k_iload C X at_82 rfl rfl ?_
        refine k_castore C X at_84 rfl (ix := 0) (i := 1) rfl (by decide) (by decide) (Nat.le_of_ble_eq_true rfl) (vs' := [(.int (nar .char ca)), (.int (nar .char cb))]) rfl (L' := [(o73, own_ar Z .char [(.int (nar .char ca)), (.int (nar .char cb))]), (o68, own_ob Z "java/lang/String" [("value", "[B", .null), ("coder", "B", (.int (0)))])]) rfl (fun T X => ?_)
        replace X := X.bring (i := 1) rfl (M := [(o68, own_ob Z "java/lang/String" [("value", "[B", .null), ("coder", "B", (.int (0)))]), (o73, own_ar Z .char [(.int (nar .char ca)), (.int (nar .char cb))])]) rfl
        refine k_init C X at_85 rfl rfl (hw _ (List.mem_of_getElem? (i := 5) rfl)) (hw _ (List.mem_of_getElem? (i := 6) rfl)) (hw _ (List.mem_of_getElem? (i := 3) rfl)) (hw _ (List.mem_of_getElem? (i := 7) rfl)) (by decide) (own_si1_21 l Z a0 hw o68 o73 (nar .char ca) (nar .char cb) cs fm hS hcs hAD hHI hLO hFM hfc (own_chn _) (own_chn _) hg0 hg1 ([])) (W := 1) (argsL := [(.ref o73)]) (rest := [(.ref o68)]) rfl rfl rfl own_pd5 rfl (Nat.le_of_eq rfl) (by decide) (by decide) (by decide) (by decide) (fun v T M hQ X => ?_)
        obtain ⟨f18, f19, rfl, rfl⟩ := hQ
        refine k_astore C X at_88 rfl rfl (l' := #[.val (.int x0), .val (.int x1), .val (.int x2), .val (.int x3), .val (.int (2)), .val (.int ca), .val (.int cb), .val (.int cc), .val (.ref o68), .unset, .unset]) rfl ?_
        refine k_goto C X at_90 (tpc := 120) rfl ?_
        refine k_aload C X at_120 rfl rfl rfl ?_
        replace X := X.bring (i := 3) rfl (M := [(o68, own_ob Z "java/lang/String" [("value", "[B", (.ref f18)), ("coder", "B", (.int (1)))]), (f18, own_ar Z .byte [(.int (nar .byte (((nar .char ca) >>> ((0) &&& 31 : Int32) : Int32).toInt8.toInt32))), (.int (nar .byte (((nar .char ca) >>> ((8) &&& 31 : Int32) : Int32).toInt8.toInt32))), (.int (nar .byte (((nar .char cb) >>> ((0) &&& 31 : Int32) : Int32).toInt8.toInt32))), (.int (nar .byte (((nar .char cb) >>> ((8) &&& 31 : Int32) : Int32).toInt8.toInt32)))]), (o73, own_ar Z .char [(.int (nar .char ca)), (.int (nar .char cb))]), (f19, own_ar Z .byte [(.int (nar .byte (nar .char ca).toInt8.toInt32)), (.int 0)])]) rfl
        refine k_staticW (vm0 := s.vm) (G := []) C X own_W.start (fun _ _ => trivial) at_122 rfl (hw _ (List.mem_of_getElem? (i := 23) rfl)) (hw _ (List.mem_of_getElem? (i := 24) rfl)) (hw _ (List.mem_of_getElem? (i := 25) rfl)) (hw _ (List.mem_of_getElem? (i := 26) rfl)) (by decide) (own_oof l Z a0 hw o68 f18 (1) cs fm hS hcs hAD hHI hLO hFM hfc ([(f18, own_ar Z .byte [(.int (nar .byte (((nar .char ca) >>> ((0) &&& 31 : Int32) : Int32).toInt8.toInt32))), (.int (nar .byte (((nar .char ca) >>> ((8) &&& 31 : Int32) : Int32).toInt8.toInt32))), (.int (nar .byte (((nar .char cb) >>> ((0) &&& 31 : Int32) : Int32).toInt8.toInt32))), (.int (nar .byte (((nar .char cb) >>> ((8) &&& 31 : Int32) : Int32).toInt8.toInt32)))]), (o73, own_ar Z .char [(.int (nar .char ca)), (.int (nar .char cb))]), (f19, own_ar Z .byte [(.int (nar .byte (nar .char ca).toInt8.toInt32)), (.int 0)])])) (W := 0) (argsL := [(.ref o68)]) (rest := []) rfl rfl rfl own_pd6 rfl (Nat.le_of_eq rfl) (by decide) (by decide) (by decide) (by decide) (fun v T M vmw21 Gw21 hQ C Ww21 X => ?_)
        replace Ww21 : own_W s vmw21 Gw21 := Ww21
        obtain ⟨f20, rfl, rfl⟩ := hQ
        replace X : own_S p l e room_1 (s.setVm vmw21) m #[(.int x0), (.int x1), (.int x2), (.int x3)] below meth c Z T ((f20, own_ob Z "com/example/cradle/cradle/Origin" [("file", "Ljava/nio/file/Path;", .null), ("line", "I", (.int (0))), ("description", "Ljava/lang/String;", (.ref o68))]) :: (o68, own_ob Z "java/lang/String" [("value", "[B", (.ref f18)), ("coder", "B", (.int (1)))]) :: (f18, own_ar Z .byte [(.int (nar .byte (((nar .char ca) >>> ((0) &&& 31 : Int32) : Int32).toInt8.toInt32))), (.int (nar .byte (((nar .char ca) >>> ((8) &&& 31 : Int32) : Int32).toInt8.toInt32))), (.int (nar .byte (((nar .char cb) >>> ((0) &&& 31 : Int32) : Int32).toInt8.toInt32))), (.int (nar .byte (((nar .char cb) >>> ((8) &&& 31 : Int32) : Int32).toInt8.toInt32)))]) :: (o73, own_ar Z .char [(.int (nar .char ca)), (.int (nar .char cb))]) :: (f19, own_ar Z .byte [(.int (nar .byte (nar .char ca).toInt8.toInt32)), (.int 0)]) :: Gw21) 7 43 := X
        refine k_astore C X at_125 rfl rfl (l' := #[.val (.int x0), .val (.int x1), .val (.int x2), .val (.int x3), .val (.int (2)), .val (.int ca), .val (.int cb), .val (.int cc), .val (.ref o68), .val (.ref f20), .unset]) rfl ?_
        refine k_aload C X at_127 rfl rfl rfl ?_
        refine k_ifnonnull_y C X at_129 (tpc := 134) rfl ?_
        refine k_aload C X at_134 rfl rfl rfl ?_
        refine k_virtual C X at_136 rfl (hw _ (List.mem_of_getElem? (i := 45) rfl)) (hw _ (List.mem_of_getElem? (i := 46) rfl)) (hw _ (List.mem_of_getElem? (i := 25) rfl)) (hw _ (List.mem_of_getElem? (i := 49) rfl)) (hw _ (List.mem_of_getElem? (i := 48) rfl)) (hw _ (List.mem_of_getElem? (i := 47) rfl)) (by decide) (own_nf C.2.2.2.1 (hw _ (List.mem_of_getElem? (i := 48) rfl))) (own_eL (ix := 0) rfl) (own_ots l Z a0 hw f20 o68 cs fm hS hcs hAD hHI hLO hFM hfc ((o68, own_ob Z "java/lang/String" [("value", "[B", (.ref f18)), ("coder", "B", (.int (1)))]) :: (f18, own_ar Z .byte [(.int (nar .byte (((nar .char ca) >>> ((0) &&& 31 : Int32) : Int32).toInt8.toInt32))), (.int (nar .byte (((nar .char ca) >>> ((8) &&& 31 : Int32) : Int32).toInt8.toInt32))), (.int (nar .byte (((nar .char cb) >>> ((0) &&& 31 : Int32) : Int32).toInt8.toInt32))), (.int (nar .byte (((nar .char cb) >>> ((8) &&& 31 : Int32) : Int32).toInt8.toInt32)))]) :: (o73, own_ar Z .char [(.int (nar .char ca)), (.int (nar .char cb))]) :: (f19, own_ar Z .byte [(.int (nar .byte (nar .char ca).toInt8.toInt32)), (.int 0)]) :: Gw21)) (W := 0) (argsL := []) (rest := []) rfl rfl rfl own_pd7 rfl (Nat.le_of_eq rfl) (by decide) (by decide) (by decide) (by decide) (fun v T M hQ X => ?_)
        obtain ⟨rfl, rfl⟩ := hQ
        refine k_astore C X at_139 rfl rfl (l' := #[.val (.int x0), .val (.int x1), .val (.int x2), .val (.int x3), .val (.int (2)), .val (.int ca), .val (.int cb), .val (.int cc), .val (.ref o68), .val (.ref f20), .val (.ref o68)]) rfl ?_
        refine k_aload C X at_141 rfl rfl rfl ?_
        refine k_ifnonnull_y C X at_143 (tpc := 148) rfl ?_
        refine k_aload C X at_148 rfl rfl rfl ?_
        replace X := X.bring (i := 2) rfl (M := (f18, own_ar Z .byte [(.int (nar .byte (((nar .char ca) >>> ((0) &&& 31 : Int32) : Int32).toInt8.toInt32))), (.int (nar .byte (((nar .char ca) >>> ((8) &&& 31 : Int32) : Int32).toInt8.toInt32))), (.int (nar .byte (((nar .char cb) >>> ((0) &&& 31 : Int32) : Int32).toInt8.toInt32))), (.int (nar .byte (((nar .char cb) >>> ((8) &&& 31 : Int32) : Int32).toInt8.toInt32)))]) :: (f20, own_ob Z "com/example/cradle/cradle/Origin" [("file", "Ljava/nio/file/Path;", .null), ("line", "I", (.int (0))), ("description", "Ljava/lang/String;", (.ref o68))]) :: (o68, own_ob Z "java/lang/String" [("value", "[B", (.ref f18)), ("coder", "B", (.int (1)))]) :: (o73, own_ar Z .char [(.int (nar .char ca)), (.int (nar .char cb))]) :: (f19, own_ar Z .byte [(.int (nar .byte (nar .char ca).toInt8.toInt32)), (.int 0)]) :: Gw21) rfl
        replace X := X.bring (i := 2) rfl (M := (o68, own_ob Z "java/lang/String" [("value", "[B", (.ref f18)), ("coder", "B", (.int (1)))]) :: (f18, own_ar Z .byte [(.int (nar .byte (((nar .char ca) >>> ((0) &&& 31 : Int32) : Int32).toInt8.toInt32))), (.int (nar .byte (((nar .char ca) >>> ((8) &&& 31 : Int32) : Int32).toInt8.toInt32))), (.int (nar .byte (((nar .char cb) >>> ((0) &&& 31 : Int32) : Int32).toInt8.toInt32))), (.int (nar .byte (((nar .char cb) >>> ((8) &&& 31 : Int32) : Int32).toInt8.toInt32)))]) :: (f20, own_ob Z "com/example/cradle/cradle/Origin" [("file", "Ljava/nio/file/Path;", .null), ("line", "I", (.int (0))), ("description", "Ljava/lang/String;", (.ref o68))]) :: (o73, own_ar Z .char [(.int (nar .char ca)), (.int (nar .char cb))]) :: (f19, own_ar Z .byte [(.int (nar .byte (nar .char ca).toInt8.toInt32)), (.int 0)]) :: Gw21) rfl
        refine k_virtual C X at_150 rfl (hw _ (List.mem_of_getElem? (i := 50) rfl)) (hw _ (List.mem_of_getElem? (i := 51) rfl)) (hw _ (List.mem_of_getElem? (i := 3) rfl)) (hw _ (List.mem_of_getElem? (i := 54) rfl)) (hw _ (List.mem_of_getElem? (i := 53) rfl)) (hw _ (List.mem_of_getElem? (i := 52) rfl)) (by decide) (own_nf C.2.2.2.1 (hw _ (List.mem_of_getElem? (i := 53) rfl))) (own_eL (ix := 0) rfl) (own_len21 l Z a0 hw o68 f18 (nar .byte (((nar .char ca) >>> ((0) &&& 31 : Int32) : Int32).toInt8.toInt32)) (nar .byte (((nar .char ca) >>> ((8) &&& 31 : Int32) : Int32).toInt8.toInt32)) (nar .byte (((nar .char cb) >>> ((0) &&& 31 : Int32) : Int32).toInt8.toInt32)) (nar .byte (((nar .char cb) >>> ((8) &&& 31 : Int32) : Int32).toInt8.toInt32)) cs fm hS hcs hAD hHI hLO hFM hfc ((f20, own_ob Z "com/example/cradle/cradle/Origin" [("file", "Ljava/nio/file/Path;", .null), ("line", "I", (.int (0))), ("description", "Ljava/lang/String;", (.ref o68))]) :: (o73, own_ar Z .char [(.int (nar .char ca)), (.int (nar .char cb))]) :: (f19, own_ar Z .byte [(.int (nar .byte (nar .char ca).toInt8.toInt32)), (.int 0)]) :: Gw21)) (W := 0) (argsL := []) (rest := []) rfl rfl rfl own_pd8 rfl (Nat.le_of_eq rfl) (by decide) (by decide) (by decide) (by decide) (fun v T M hQ X => ?_)
        obtain ⟨rfl, rfl⟩ := hQ
        refine k_iload C X at_153 rfl rfl ?_
        refine k_icmp_eq C X at_155 rfl (tpc := 160) rfl (fun _ => ?_) (fun hc => (absurd hc (by decide) : False).elim)
        refine k_iload C X at_160 rfl rfl ?_
        refine k_iconst C X at_162 rfl (v := 1) rfl ?_
        refine k_icmp_lt C X at_163 rfl (tpc := 179) rfl (fun hc => (absurd hc (by decide) : False).elim) (fun _ => ?_)
        refine k_aload C X at_166 rfl rfl rfl ?_
        refine k_iconst C X at_168 rfl (v := 0) rfl ?_
        replace X := X.bring (i := 1) rfl (M := (f18, own_ar Z .byte [(.int (nar .byte (((nar .char ca) >>> ((0) &&& 31 : Int32) : Int32).toInt8.toInt32))), (.int (nar .byte (((nar .char ca) >>> ((8) &&& 31 : Int32) : Int32).toInt8.toInt32))), (.int (nar .byte (((nar .char cb) >>> ((0) &&& 31 : Int32) : Int32).toInt8.toInt32))), (.int (nar .byte (((nar .char cb) >>> ((8) &&& 31 : Int32) : Int32).toInt8.toInt32)))]) :: (o68, own_ob Z "java/lang/String" [("value", "[B", (.ref f18)), ("coder", "B", (.int (1)))]) :: (f20, own_ob Z "com/example/cradle/cradle/Origin" [("file", "Ljava/nio/file/Path;", .null), ("line", "I", (.int (0))), ("description", "Ljava/lang/String;", (.ref o68))]) :: (o73, own_ar Z .char [(.int (nar .char ca)), (.int (nar .char cb))]) :: (f19, own_ar Z .byte [(.int (nar .byte (nar .char ca).toInt8.toInt32)), (.int 0)]) :: Gw21) rfl
        replace X := X.bring (i := 1) rfl (M := (o68, own_ob Z "java/lang/String" [("value", "[B", (.ref f18)), ("coder", "B", (.int (1)))]) :: (f18, own_ar Z .byte [(.int (nar .byte (((nar .char ca) >>> ((0) &&& 31 : Int32) : Int32).toInt8.toInt32))), (.int (nar .byte (((nar .char ca) >>> ((8) &&& 31 : Int32) : Int32).toInt8.toInt32))), (.int (nar .byte (((nar .char cb) >>> ((0) &&& 31 : Int32) : Int32).toInt8.toInt32))), (.int (nar .byte (((nar .char cb) >>> ((8) &&& 31 : Int32) : Int32).toInt8.toInt32)))]) :: (f20, own_ob Z "com/example/cradle/cradle/Origin" [("file", "Ljava/nio/file/Path;", .null), ("line", "I", (.int (0))), ("description", "Ljava/lang/String;", (.ref o68))]) :: (o73, own_ar Z .char [(.int (nar .char ca)), (.int (nar .char cb))]) :: (f19, own_ar Z .byte [(.int (nar .byte (nar .char ca).toInt8.toInt32)), (.int 0)]) :: Gw21) rfl
        refine k_virtual C X at_169 rfl (hw _ (List.mem_of_getElem? (i := 76) rfl)) (hw _ (List.mem_of_getElem? (i := 77) rfl)) (hw _ (List.mem_of_getElem? (i := 3) rfl)) (hw _ (List.mem_of_getElem? (i := 80) rfl)) (hw _ (List.mem_of_getElem? (i := 79) rfl)) (hw _ (List.mem_of_getElem? (i := 78) rfl)) (by decide) (own_nf C.2.2.2.1 (hw _ (List.mem_of_getElem? (i := 79) rfl))) (own_eL (ix := 0) rfl) (own_cha210 l Z a0 hw o68 f18 (nar .byte (((nar .char ca) >>> ((0) &&& 31 : Int32) : Int32).toInt8.toInt32)) (nar .byte (((nar .char ca) >>> ((8) &&& 31 : Int32) : Int32).toInt8.toInt32)) (nar .byte (((nar .char cb) >>> ((0) &&& 31 : Int32) : Int32).toInt8.toInt32)) (nar .byte (((nar .char cb) >>> ((8) &&& 31 : Int32) : Int32).toInt8.toInt32)) cs fm hS hcs hAD hHI hLO hFM hfc ((f20, own_ob Z "com/example/cradle/cradle/Origin" [("file", "Ljava/nio/file/Path;", .null), ("line", "I", (.int (0))), ("description", "Ljava/lang/String;", (.ref o68))]) :: (o73, own_ar Z .char [(.int (nar .char ca)), (.int (nar .char cb))]) :: (f19, own_ar Z .byte [(.int (nar .byte (nar .char ca).toInt8.toInt32)), (.int 0)]) :: Gw21)) (W := 0) (argsL := [(.int (0))]) (rest := []) rfl rfl rfl own_pd20 rfl (Nat.le_of_eq rfl) (by decide) (by decide) (by decide) (by decide) (fun v T M hQ X => ?_)
        obtain ⟨rfl, rfl⟩ := hQ
        refine k_iload C X at_172 rfl rfl ?_
        refine k_icmp_eq C X at_174 rfl (tpc := 179) rfl (fun _ => ?_) (fun hc => (hc ((own_u16 (own_chn _)).trans (own_chs hca)) : False).elim)
        refine k_iload C X at_179 rfl rfl ?_
        refine k_iconst C X at_181 rfl (v := 2) rfl ?_
        refine k_icmp_lt C X at_182 rfl (tpc := 198) rfl (fun hc => (absurd hc (by decide) : False).elim) (fun _ => ?_)
        refine k_aload C X at_185 rfl rfl rfl ?_
        refine k_iconst C X at_187 rfl (v := 1) rfl ?_
        replace X := X.bring (i := 1) rfl (M := (o68, own_ob Z "java/lang/String" [("value", "[B", (.ref f18)), ("coder", "B", (.int (1)))]) :: (f18, own_ar Z .byte [(.int (nar .byte (((nar .char ca) >>> ((0) &&& 31 : Int32) : Int32).toInt8.toInt32))), (.int (nar .byte (((nar .char ca) >>> ((8) &&& 31 : Int32) : Int32).toInt8.toInt32))), (.int (nar .byte (((nar .char cb) >>> ((0) &&& 31 : Int32) : Int32).toInt8.toInt32))), (.int (nar .byte (((nar .char cb) >>> ((8) &&& 31 : Int32) : Int32).toInt8.toInt32)))]) :: (f20, own_ob Z "com/example/cradle/cradle/Origin" [("file", "Ljava/nio/file/Path;", .null), ("line", "I", (.int (0))), ("description", "Ljava/lang/String;", (.ref o68))]) :: (o73, own_ar Z .char [(.int (nar .char ca)), (.int (nar .char cb))]) :: (f19, own_ar Z .byte [(.int (nar .byte (nar .char ca).toInt8.toInt32)), (.int 0)]) :: Gw21) rfl
        refine k_virtual C X at_188 rfl (hw _ (List.mem_of_getElem? (i := 76) rfl)) (hw _ (List.mem_of_getElem? (i := 77) rfl)) (hw _ (List.mem_of_getElem? (i := 3) rfl)) (hw _ (List.mem_of_getElem? (i := 80) rfl)) (hw _ (List.mem_of_getElem? (i := 79) rfl)) (hw _ (List.mem_of_getElem? (i := 78) rfl)) (by decide) (own_nf C.2.2.2.1 (hw _ (List.mem_of_getElem? (i := 79) rfl))) (own_eL (ix := 0) rfl) (own_cha211 l Z a0 hw o68 f18 (nar .byte (((nar .char ca) >>> ((0) &&& 31 : Int32) : Int32).toInt8.toInt32)) (nar .byte (((nar .char ca) >>> ((8) &&& 31 : Int32) : Int32).toInt8.toInt32)) (nar .byte (((nar .char cb) >>> ((0) &&& 31 : Int32) : Int32).toInt8.toInt32)) (nar .byte (((nar .char cb) >>> ((8) &&& 31 : Int32) : Int32).toInt8.toInt32)) cs fm hS hcs hAD hHI hLO hFM hfc ((f20, own_ob Z "com/example/cradle/cradle/Origin" [("file", "Ljava/nio/file/Path;", .null), ("line", "I", (.int (0))), ("description", "Ljava/lang/String;", (.ref o68))]) :: (o73, own_ar Z .char [(.int (nar .char ca)), (.int (nar .char cb))]) :: (f19, own_ar Z .byte [(.int (nar .byte (nar .char ca).toInt8.toInt32)), (.int 0)]) :: Gw21)) (W := 0) (argsL := [(.int (1))]) (rest := []) rfl rfl rfl own_pd20 rfl (Nat.le_of_eq rfl) (by decide) (by decide) (by decide) (by decide) (fun v T M hQ X => ?_)
        obtain ⟨rfl, rfl⟩ := hQ
        refine k_iload C X at_191 rfl rfl ?_
        refine k_icmp_eq C X at_193 rfl (tpc := 198) rfl (fun _ => ?_) (fun hc => (hc ((own_u16 (own_chn _)).trans (own_chs hcb)) : False).elim)
        refine k_iload C X at_198 rfl rfl ?_
        refine k_iconst C X at_200 rfl (v := 3) rfl ?_
        refine k_icmp_lt C X at_201 rfl (tpc := 217) rfl (fun _ => ?_) (fun hc => (absurd hc (by decide) : False).elim)
        refine k_aload C X at_217 rfl rfl rfl ?_
        refine k_aload C X at_219 rfl rfl rfl ?_
        refine k_virtual C X at_221 rfl (hw _ (List.mem_of_getElem? (i := 61) rfl)) (hw _ (List.mem_of_getElem? (i := 62) rfl)) (hw _ (List.mem_of_getElem? (i := 3) rfl)) (hw _ (List.mem_of_getElem? (i := 65) rfl)) (hw _ (List.mem_of_getElem? (i := 64) rfl)) (hw _ (List.mem_of_getElem? (i := 63) rfl)) (by decide) (own_nf C.2.2.2.1 (hw _ (List.mem_of_getElem? (i := 64) rfl))) (own_eL (ix := 1) rfl) (own_eqs l Z a0 hw o68 cs fm hS hcs hAD hHI hLO hFM hfc ((f18, own_ar Z .byte [(.int (nar .byte (((nar .char ca) >>> ((0) &&& 31 : Int32) : Int32).toInt8.toInt32))), (.int (nar .byte (((nar .char ca) >>> ((8) &&& 31 : Int32) : Int32).toInt8.toInt32))), (.int (nar .byte (((nar .char cb) >>> ((0) &&& 31 : Int32) : Int32).toInt8.toInt32))), (.int (nar .byte (((nar .char cb) >>> ((8) &&& 31 : Int32) : Int32).toInt8.toInt32)))]) :: (o68, own_ob Z "java/lang/String" [("value", "[B", (.ref f18)), ("coder", "B", (.int (1)))]) :: (f20, own_ob Z "com/example/cradle/cradle/Origin" [("file", "Ljava/nio/file/Path;", .null), ("line", "I", (.int (0))), ("description", "Ljava/lang/String;", (.ref o68))]) :: (o73, own_ar Z .char [(.int (nar .char ca)), (.int (nar .char cb))]) :: (f19, own_ar Z .byte [(.int (nar .byte (nar .char ca).toInt8.toInt32)), (.int 0)]) :: Gw21)) (W := 0) (argsL := [(.ref o68)]) (rest := []) rfl rfl rfl own_pd9 rfl (Nat.le_of_eq rfl) (by decide) (by decide) (by decide) (by decide) (fun v T M hQ X => ?_)
        obtain ⟨rfl, rfl⟩ := hQ
        exact k_ireturnW (M := ([(f18, own_ar Z .byte [(.int (nar .byte (((nar .char ca) >>> ((0) &&& 31 : Int32) : Int32).toInt8.toInt32))), (.int (nar .byte (((nar .char ca) >>> ((8) &&& 31 : Int32) : Int32).toInt8.toInt32))), (.int (nar .byte (((nar .char cb) >>> ((0) &&& 31 : Int32) : Int32).toInt8.toInt32))), (.int (nar .byte (((nar .char cb) >>> ((8) &&& 31 : Int32) : Int32).toInt8.toInt32)))]), (o68, own_ob Z "java/lang/String" [("value", "[B", (.ref f18)), ("coder", "B", (.int (1)))]), (f20, own_ob Z "com/example/cradle/cradle/Origin" [("file", "Ljava/nio/file/Path;", .null), ("line", "I", (.int (0))), ("description", "Ljava/lang/String;", (.ref o68))]), (o73, own_ar Z .char [(.int (nar .char ca)), (.int (nar .char cb))]), (f19, own_ar Z .byte [(.int (nar .byte (nar .char ca).toInt8.toInt32)), (.int 0)])])) (G := Gw21) C X rfl Ww21 at_224 (by simp) rfl rfl (by decide) (by decide)
      · skip
        refine k_iload C X at_26 rfl rfl ?_
        refine k_if_ne C X at_28 rfl (tpc := 46) rfl (fun _ => ?_) (fun hc => (absurd hc (by decide) : False).elim)
        refine k_iload C X at_46 rfl rfl ?_
        refine k_iconst C X at_48 rfl (v := 1) rfl ?_
        refine k_icmp_ne C X at_49 rfl (tpc := 62) rfl (fun _ => ?_) (fun hc => (absurd hc (by decide) : False).elim)
        refine k_iload C X at_62 rfl rfl ?_
        refine k_iconst C X at_64 rfl (v := 2) rfl ?_
        refine k_icmp_ne C X at_65 rfl (tpc := 93) rfl (fun hc => (absurd hc (by decide) : False).elim) (fun _ => ?_)
        refine k_new C X at_68 rfl (hw _ (List.mem_of_getElem? (i := 1) rfl)) (hw _ (List.mem_of_getElem? (i := 2) rfl)) (hw _ (List.mem_of_getElem? (i := 3) rfl)) (own_lay_String hw) (fs := [("value", "[B", .null), ("coder", "B", (.int (0)))]) rfl (by decide) (by decide) (fun T o68 X => ?_)
        refine k_dup C X at_71 rfl rfl ?_
        refine k_iconst C X at_72 rfl (v := 2) rfl ?_
        refine k_newarray C X at_73 rfl (ty := .char) rfl (hw _ (List.mem_of_getElem? (i := 4) rfl)) (by decide) (cap := 2) (by decide) (by decide) (by decide) (by decide) (vs := [(.int 0), (.int 0)]) rfl (fun T o73 X => ?_)
        refine k_dup C X at_75 rfl rfl ?_
        refine k_iconst C X at_76 rfl (v := 0) rfl ?_
        refine k_iload C X at_77 rfl rfl ?_
        refine k_castore C X at_79 rfl (ix := 0) (i := 0) rfl (by decide) (by decide) (Nat.le_of_ble_eq_true rfl) (vs' := [(.int (nar .char ca)), (.int 0)]) rfl (L' := [(o73, own_ar Z .char [(.int (nar .char ca)), (.int 0)]), (o68, own_ob Z "java/lang/String" [("value", "[B", .null), ("coder", "B", (.int (0)))])]) rfl (fun T X => ?_)
        refine k_dup C X at_80 rfl rfl ?_
        refine k_iconst C X at_81 rfl (v := 1) rfl ?_
        refine k_iload C X at_82 rfl rfl ?_
        refine k_castore C X at_84 rfl (ix := 0) (i := 1) rfl (by decide) (by decide) (Nat.le_of_ble_eq_true rfl) (vs' := [(.int (nar .char ca)), (.int (nar .char cb))]) rfl (L' := [(o73, own_ar Z .char [(.int (nar .char ca)), (.int (nar .char cb))]), (o68, own_ob Z "java/lang/String" [("value", "[B", .null), ("coder", "B", (.int (0)))])]) rfl (fun T X => ?_)
        replace X := X.bring (i := 1) rfl (M := [(o68, own_ob Z "java/lang/String" [("value", "[B", .null), ("coder", "B", (.int (0)))]), (o73, own_ar Z .char [(.int (nar .char ca)), (.int (nar .char cb))])]) rfl
        refine k_init C X at_85 rfl rfl (hw _ (List.mem_of_getElem? (i := 5) rfl)) (hw _ (List.mem_of_getElem? (i := 6) rfl)) (hw _ (List.mem_of_getElem? (i := 3) rfl)) (hw _ (List.mem_of_getElem? (i := 7) rfl)) (by decide) (own_si1_22 l Z a0 hw o68 o73 (nar .char ca) (nar .char cb) cs fm hS hcs hAD hHI hLO hFM hfc (own_chn _) (own_chn _) hg0 hg1 ([])) (W := 1) (argsL := [(.ref o73)]) (rest := [(.ref o68)]) rfl rfl rfl own_pd5 rfl (Nat.le_of_eq rfl) (by decide) (by decide) (by decide) (by decide) (fun v T M hQ X => ?_)
        obtain ⟨f22, rfl, rfl⟩ := hQ
        refine k_astore C X at_88 rfl rfl (l' := #[.val (.int x0), .val (.int x1), .val (.int x2), .val (.int x3), .val (.int (2)), .val (.int ca), .val (.int cb), .val (.int cc), .val (.ref o68), .unset, .unset]) rfl ?_
        refine k_goto C X at_90 (tpc := 120) rfl ?_
        refine k_aload C X at_120 rfl rfl rfl ?_
        replace X := X.bring (i := 2) rfl (M := [(o68, own_ob Z "java/lang/String" [("value", "[B", (.ref f22)), ("coder", "B", (.int (0)))]), (f22, own_ar Z .byte [(.int (nar .byte (nar .char ca).toInt8.toInt32)), (.int (nar .byte (nar .char cb).toInt8.toInt32))]), (o73, own_ar Z .char [(.int (nar .char ca)), (.int (nar .char cb))])]) rfl
        refine k_staticW (vm0 := s.vm) (G := []) C X own_W.start (fun _ _ => trivial) at_122 rfl (hw _ (List.mem_of_getElem? (i := 23) rfl)) (hw _ (List.mem_of_getElem? (i := 24) rfl)) (hw _ (List.mem_of_getElem? (i := 25) rfl)) (hw _ (List.mem_of_getElem? (i := 26) rfl)) (by decide) (own_oof l Z a0 hw o68 f22 (0) cs fm hS hcs hAD hHI hLO hFM hfc ([(f22, own_ar Z .byte [(.int (nar .byte (nar .char ca).toInt8.toInt32)), (.int (nar .byte (nar .char cb).toInt8.toInt32))]), (o73, own_ar Z .char [(.int (nar .char ca)), (.int (nar .char cb))])])) (W := 0) (argsL := [(.ref o68)]) (rest := []) rfl rfl rfl own_pd6 rfl (Nat.le_of_eq rfl) (by decide) (by decide) (by decide) (by decide) (fun v T M vmw24 Gw24 hQ C Ww24 X => ?_)
        replace Ww24 : own_W s vmw24 Gw24 := Ww24
        obtain ⟨f23, rfl, rfl⟩ := hQ
        replace X : own_S p l e room_1 (s.setVm vmw24) m #[(.int x0), (.int x1), (.int x2), (.int x3)] below meth c Z T ((f23, own_ob Z "com/example/cradle/cradle/Origin" [("file", "Ljava/nio/file/Path;", .null), ("line", "I", (.int (0))), ("description", "Ljava/lang/String;", (.ref o68))]) :: (o68, own_ob Z "java/lang/String" [("value", "[B", (.ref f22)), ("coder", "B", (.int (0)))]) :: (f22, own_ar Z .byte [(.int (nar .byte (nar .char ca).toInt8.toInt32)), (.int (nar .byte (nar .char cb).toInt8.toInt32))]) :: (o73, own_ar Z .char [(.int (nar .char ca)), (.int (nar .char cb))]) :: Gw24) 6 39 := X
        refine k_astore C X at_125 rfl rfl (l' := #[.val (.int x0), .val (.int x1), .val (.int x2), .val (.int x3), .val (.int (2)), .val (.int ca), .val (.int cb), .val (.int cc), .val (.ref o68), .val (.ref f23), .unset]) rfl ?_
        refine k_aload C X at_127 rfl rfl rfl ?_
        refine k_ifnonnull_y C X at_129 (tpc := 134) rfl ?_
        refine k_aload C X at_134 rfl rfl rfl ?_
        refine k_virtual C X at_136 rfl (hw _ (List.mem_of_getElem? (i := 45) rfl)) (hw _ (List.mem_of_getElem? (i := 46) rfl)) (hw _ (List.mem_of_getElem? (i := 25) rfl)) (hw _ (List.mem_of_getElem? (i := 49) rfl)) (hw _ (List.mem_of_getElem? (i := 48) rfl)) (hw _ (List.mem_of_getElem? (i := 47) rfl)) (by decide) (own_nf C.2.2.2.1 (hw _ (List.mem_of_getElem? (i := 48) rfl))) (own_eL (ix := 0) rfl) (own_ots l Z a0 hw f23 o68 cs fm hS hcs hAD hHI hLO hFM hfc ((o68, own_ob Z "java/lang/String" [("value", "[B", (.ref f22)), ("coder", "B", (.int (0)))]) :: (f22, own_ar Z .byte [(.int (nar .byte (nar .char ca).toInt8.toInt32)), (.int (nar .byte (nar .char cb).toInt8.toInt32))]) :: (o73, own_ar Z .char [(.int (nar .char ca)), (.int (nar .char cb))]) :: Gw24)) (W := 0) (argsL := []) (rest := []) rfl rfl rfl own_pd7 rfl (Nat.le_of_eq rfl) (by decide) (by decide) (by decide) (by decide) (fun v T M hQ X => ?_)
        obtain ⟨rfl, rfl⟩ := hQ
        refine k_astore C X at_139 rfl rfl (l' := #[.val (.int x0), .val (.int x1), .val (.int x2), .val (.int x3), .val (.int (2)), .val (.int ca), .val (.int cb), .val (.int cc), .val (.ref o68), .val (.ref f23), .val (.ref o68)]) rfl ?_
        refine k_aload C X at_141 rfl rfl rfl ?_
        refine k_ifnonnull_y C X at_143 (tpc := 148) rfl ?_
        refine k_aload C X at_148 rfl rfl rfl ?_
        replace X := X.bring (i := 2) rfl (M := (f22, own_ar Z .byte [(.int (nar .byte (nar .char ca).toInt8.toInt32)), (.int (nar .byte (nar .char cb).toInt8.toInt32))]) :: (f23, own_ob Z "com/example/cradle/cradle/Origin" [("file", "Ljava/nio/file/Path;", .null), ("line", "I", (.int (0))), ("description", "Ljava/lang/String;", (.ref o68))]) :: (o68, own_ob Z "java/lang/String" [("value", "[B", (.ref f22)), ("coder", "B", (.int (0)))]) :: (o73, own_ar Z .char [(.int (nar .char ca)), (.int (nar .char cb))]) :: Gw24) rfl
        replace X := X.bring (i := 2) rfl (M := (o68, own_ob Z "java/lang/String" [("value", "[B", (.ref f22)), ("coder", "B", (.int (0)))]) :: (f22, own_ar Z .byte [(.int (nar .byte (nar .char ca).toInt8.toInt32)), (.int (nar .byte (nar .char cb).toInt8.toInt32))]) :: (f23, own_ob Z "com/example/cradle/cradle/Origin" [("file", "Ljava/nio/file/Path;", .null), ("line", "I", (.int (0))), ("description", "Ljava/lang/String;", (.ref o68))]) :: (o73, own_ar Z .char [(.int (nar .char ca)), (.int (nar .char cb))]) :: Gw24) rfl
        refine k_virtual C X at_150 rfl (hw _ (List.mem_of_getElem? (i := 50) rfl)) (hw _ (List.mem_of_getElem? (i := 51) rfl)) (hw _ (List.mem_of_getElem? (i := 3) rfl)) (hw _ (List.mem_of_getElem? (i := 54) rfl)) (hw _ (List.mem_of_getElem? (i := 53) rfl)) (hw _ (List.mem_of_getElem? (i := 52) rfl)) (by decide) (own_nf C.2.2.2.1 (hw _ (List.mem_of_getElem? (i := 53) rfl))) (own_eL (ix := 0) rfl) (own_len20 l Z a0 hw o68 f22 (nar .byte (nar .char ca).toInt8.toInt32) (nar .byte (nar .char cb).toInt8.toInt32) cs fm hS hcs hAD hHI hLO hFM hfc ((f23, own_ob Z "com/example/cradle/cradle/Origin" [("file", "Ljava/nio/file/Path;", .null), ("line", "I", (.int (0))), ("description", "Ljava/lang/String;", (.ref o68))]) :: (o73, own_ar Z .char [(.int (nar .char ca)), (.int (nar .char cb))]) :: Gw24)) (W := 0) (argsL := []) (rest := []) rfl rfl rfl own_pd8 rfl (Nat.le_of_eq rfl) (by decide) (by decide) (by decide) (by decide) (fun v T M hQ X => ?_)
        obtain ⟨rfl, rfl⟩ := hQ
        refine k_iload C X at_153 rfl rfl ?_
        refine k_icmp_eq C X at_155 rfl (tpc := 160) rfl (fun _ => ?_) (fun hc => (absurd hc (by decide) : False).elim)
        refine k_iload C X at_160 rfl rfl ?_
        refine k_iconst C X at_162 rfl (v := 1) rfl ?_
        refine k_icmp_lt C X at_163 rfl (tpc := 179) rfl (fun hc => (absurd hc (by decide) : False).elim) (fun _ => ?_)
        refine k_aload C X at_166 rfl rfl rfl ?_
        refine k_iconst C X at_168 rfl (v := 0) rfl ?_
        replace X := X.bring (i := 1) rfl (M := (f22, own_ar Z .byte [(.int (nar .byte (nar .char ca).toInt8.toInt32)), (.int (nar .byte (nar .char cb).toInt8.toInt32))]) :: (o68, own_ob Z "java/lang/String" [("value", "[B", (.ref f22)), ("coder", "B", (.int (0)))]) :: (f23, own_ob Z "com/example/cradle/cradle/Origin" [("file", "Ljava/nio/file/Path;", .null), ("line", "I", (.int (0))), ("description", "Ljava/lang/String;", (.ref o68))]) :: (o73, own_ar Z .char [(.int (nar .char ca)), (.int (nar .char cb))]) :: Gw24) rfl
        replace X := X.bring (i := 1) rfl (M := (o68, own_ob Z "java/lang/String" [("value", "[B", (.ref f22)), ("coder", "B", (.int (0)))]) :: (f22, own_ar Z .byte [(.int (nar .byte (nar .char ca).toInt8.toInt32)), (.int (nar .byte (nar .char cb).toInt8.toInt32))]) :: (f23, own_ob Z "com/example/cradle/cradle/Origin" [("file", "Ljava/nio/file/Path;", .null), ("line", "I", (.int (0))), ("description", "Ljava/lang/String;", (.ref o68))]) :: (o73, own_ar Z .char [(.int (nar .char ca)), (.int (nar .char cb))]) :: Gw24) rfl
        refine k_virtual C X at_169 rfl (hw _ (List.mem_of_getElem? (i := 76) rfl)) (hw _ (List.mem_of_getElem? (i := 77) rfl)) (hw _ (List.mem_of_getElem? (i := 3) rfl)) (hw _ (List.mem_of_getElem? (i := 80) rfl)) (hw _ (List.mem_of_getElem? (i := 79) rfl)) (hw _ (List.mem_of_getElem? (i := 78) rfl)) (by decide) (own_nf C.2.2.2.1 (hw _ (List.mem_of_getElem? (i := 79) rfl))) (own_eL (ix := 0) rfl) (own_cha200 l Z a0 hw o68 f22 (nar .byte (nar .char ca).toInt8.toInt32) (nar .byte (nar .char cb).toInt8.toInt32) cs fm hS hcs hAD hHI hLO hFM hfc ((f23, own_ob Z "com/example/cradle/cradle/Origin" [("file", "Ljava/nio/file/Path;", .null), ("line", "I", (.int (0))), ("description", "Ljava/lang/String;", (.ref o68))]) :: (o73, own_ar Z .char [(.int (nar .char ca)), (.int (nar .char cb))]) :: Gw24)) (W := 0) (argsL := [(.int (0))]) (rest := []) rfl rfl rfl own_pd20 rfl (Nat.le_of_eq rfl) (by decide) (by decide) (by decide) (by decide) (fun v T M hQ X => ?_)
        obtain ⟨rfl, rfl⟩ := hQ
        refine k_iload C X at_172 rfl rfl ?_
        refine k_icmp_eq C X at_174 rfl (tpc := 179) rfl (fun _ => ?_) (fun hc => (hc ((own_lat (own_chn _) hg0).trans (own_chs hca)) : False).elim)
        refine k_iload C X at_179 rfl rfl ?_
        refine k_iconst C X at_181 rfl (v := 2) rfl ?_
        refine k_icmp_lt C X at_182 rfl (tpc := 198) rfl (fun hc => (absurd hc (by decide) : False).elim) (fun _ => ?_)
        refine k_aload C X at_185 rfl rfl rfl ?_
        refine k_iconst C X at_187 rfl (v := 1) rfl ?_
        replace X := X.bring (i := 1) rfl (M := (o68, own_ob Z "java/lang/String" [("value", "[B", (.ref f22)), ("coder", "B", (.int (0)))]) :: (f22, own_ar Z .byte [(.int (nar .byte (nar .char ca).toInt8.toInt32)), (.int (nar .byte (nar .char cb).toInt8.toInt32))]) :: (f23, own_ob Z "com/example/cradle/cradle/Origin" [("file", "Ljava/nio/file/Path;", .null), ("line", "I", (.int (0))), ("description", "Ljava/lang/String;", (.ref o68))]) :: (o73, own_ar Z .char [(.int (nar .char ca)), (.int (nar .char cb))]) :: Gw24) rfl
        refine k_virtual C X at_188 rfl (hw _ (List.mem_of_getElem? (i := 76) rfl)) (hw _ (List.mem_of_getElem? (i := 77) rfl)) (hw _ (List.mem_of_getElem? (i := 3) rfl)) (hw _ (List.mem_of_getElem? (i := 80) rfl)) (hw _ (List.mem_of_getElem? (i := 79) rfl)) (hw _ (List.mem_of_getElem? (i := 78) rfl)) (by decide) (own_nf C.2.2.2.1 (hw _ (List.mem_of_getElem? (i := 79) rfl))) (own_eL (ix := 0) rfl) (own_cha201 l Z a0 hw o68 f22 (nar .byte (nar .char ca).toInt8.toInt32) (nar .byte (nar .char cb).toInt8.toInt32) cs fm hS hcs hAD hHI hLO hFM hfc ((f23, own_ob Z "com/example/cradle/cradle/Origin" [("file", "Ljava/nio/file/Path;", .null), ("line", "I", (.int (0))), ("description", "Ljava/lang/String;", (.ref o68))]) :: (o73, own_ar Z .char [(.int (nar .char ca)), (.int (nar .char cb))]) :: Gw24)) (W := 0) (argsL := [(.int (1))]) (rest := []) rfl rfl rfl own_pd20 rfl (Nat.le_of_eq rfl) (by decide) (by decide) (by decide) (by decide) (fun v T M hQ X => ?_)
        obtain ⟨rfl, rfl⟩ := hQ
        refine k_iload C X at_191 rfl rfl ?_
        refine k_icmp_eq C X at_193 rfl (tpc := 198) rfl (fun _ => ?_) (fun hc => (hc ((own_lat (own_chn _) hg1).trans (own_chs hcb)) : False).elim)
        refine k_iload C X at_198 rfl rfl ?_
        refine k_iconst C X at_200 rfl (v := 3) rfl ?_
        refine k_icmp_lt C X at_201 rfl (tpc := 217) rfl (fun _ => ?_) (fun hc => (absurd hc (by decide) : False).elim)
        refine k_aload C X at_217 rfl rfl rfl ?_
        refine k_aload C X at_219 rfl rfl rfl ?_
        refine k_virtual C X at_221 rfl (hw _ (List.mem_of_getElem? (i := 61) rfl)) (hw _ (List.mem_of_getElem? (i := 62) rfl)) (hw _ (List.mem_of_getElem? (i := 3) rfl)) (hw _ (List.mem_of_getElem? (i := 65) rfl)) (hw _ (List.mem_of_getElem? (i := 64) rfl)) (hw _ (List.mem_of_getElem? (i := 63) rfl)) (by decide) (own_nf C.2.2.2.1 (hw _ (List.mem_of_getElem? (i := 64) rfl))) (own_eL (ix := 1) rfl) (own_eqs l Z a0 hw o68 cs fm hS hcs hAD hHI hLO hFM hfc ((f22, own_ar Z .byte [(.int (nar .byte (nar .char ca).toInt8.toInt32)), (.int (nar .byte (nar .char cb).toInt8.toInt32))]) :: (o68, own_ob Z "java/lang/String" [("value", "[B", (.ref f22)), ("coder", "B", (.int (0)))]) :: (f23, own_ob Z "com/example/cradle/cradle/Origin" [("file", "Ljava/nio/file/Path;", .null), ("line", "I", (.int (0))), ("description", "Ljava/lang/String;", (.ref o68))]) :: (o73, own_ar Z .char [(.int (nar .char ca)), (.int (nar .char cb))]) :: Gw24)) (W := 0) (argsL := [(.ref o68)]) (rest := []) rfl rfl rfl own_pd9 rfl (Nat.le_of_eq rfl) (by decide) (by decide) (by decide) (by decide) (fun v T M hQ X => ?_)
        obtain ⟨rfl, rfl⟩ := hQ
        exact k_ireturnW (M := ([(f22, own_ar Z .byte [(.int (nar .byte (nar .char ca).toInt8.toInt32)), (.int (nar .byte (nar .char cb).toInt8.toInt32))]), (o68, own_ob Z "java/lang/String" [("value", "[B", (.ref f22)), ("coder", "B", (.int (0)))]), (f23, own_ob Z "com/example/cradle/cradle/Origin" [("file", "Ljava/nio/file/Path;", .null), ("line", "I", (.int (0))), ("description", "Ljava/lang/String;", (.ref o68))]), (o73, own_ar Z .char [(.int (nar .char ca)), (.int (nar .char cb))])])) (G := Gw24) C X rfl Ww24 at_224 (by simp) rfl rfl (by decide) (by decide)
  · rw [hk]
    have hca := own_chi e_ca
    have hcb := own_chi e_cb
    have hcc := own_chi e_cc
    by_cases hg0 : (255) < (nar .char ca)
    · skip
      refine k_iload C X at_26 rfl rfl ?_
      refine k_if_ne C X at_28 rfl (tpc := 46) rfl (fun _ => ?_) (fun hc => (absurd hc (by decide) : False).elim)
      refine k_iload C X at_46 rfl rfl ?_
      refine k_iconst C X at_48 rfl (v := 1) rfl ?_
      refine k_icmp_ne C X at_49 rfl (tpc := 62) rfl (fun _ => ?_) (fun hc => (absurd hc (by decide) : False).elim)
      refine k_iload C X at_62 rfl rfl ?_
      refine k_iconst C X at_64 rfl (v := 2) rfl ?_
      refine k_icmp_ne C X at_65 rfl (tpc := 93) rfl (fun _ => ?_) (fun hc => (absurd hc (by decide) : False).elim)
      refine k_new C X at_93 rfl (hw _ (List.mem_of_getElem? (i := 1) rfl)) (hw _ (List.mem_of_getElem? (i := 2) rfl)) (hw _ (List.mem_of_getElem? (i := 3) rfl)) (own_lay_String hw) (fs := [("value", "[B", .null), ("coder", "B", (.int (0)))]) rfl (by decide) (by decide) (fun T o93 X => ?_)
      refine k_dup C X at_96 rfl rfl ?_
      refine k_iconst C X at_97 rfl (v := 3) rfl ?_
      refine k_newarray C X at_98 rfl (ty := .char) rfl (hw _ (List.mem_of_getElem? (i := 4) rfl)) (by decide) (cap := 3) (by decide) (by decide) (by decide) (by decide) (vs := [(.int 0), (.int 0), (.int 0)]) rfl (fun T o98 X => ?_)
      refine k_dup C X at_100 rfl rfl ?_
      refine k_iconst C X at_101 rfl (v := 0) rfl ?_
      refine k_iload C X at_102 rfl rfl ?_
      refine k_castore C X at_104 rfl (ix := 0) (i := 0) rfl (by decide) (by decide) (Nat.le_of_ble_eq_true rfl) (vs' := [(.int (nar .char ca)), (.int 0), (.int 0)]) rfl (L' := [(o98, own_ar Z .char [(.int (nar .char ca)), (.int 0), (.int 0)]), (o93, own_ob Z "java/lang/String" [("value", "[B", .null), ("coder", "B", (.int (0)))])]) rfl (fun T X => ?_)
      refine k_dup C X at_105 rfl rfl ?_
      refine k_iconst C X at_106 rfl (v := 1) rfl ?_
      refine k_iload C X at_107 rfl rfl ?_
      refine k_castore C X at_109 rfl (ix := 0) (i := 1) rfl (by decide) (by decide) (Nat.le_of_ble_eq_true rfl) (vs' := [(.int (nar .char ca)), (.int (nar .char cb)), (.int 0)]) rfl (L' := [(o98, own_ar Z .char [(.int (nar .char ca)), (.int (nar .char cb)), (.int 0)]), (o93, own_ob Z "java/lang/String" [("value", "[B", .null), ("coder", "B", (.int (0)))])]) rfl (fun T X => ?_)
      refine k_dup C X at_110 rfl rfl ?_
      refine k_iconst C X at_111 rfl (v := 2) rfl ?_
      refine k_iload C X at_112 rfl rfl ?_
      refine k_castore C X at_114 rfl (ix := 0) (i := 2) rfl (by decide) (by decide) (Nat.le_of_ble_eq_true rfl) (vs' := [(.int (nar .char ca)), (.int (nar .char cb)), (.int (nar .char cc))]) rfl (L' := [(o98, own_ar Z .char [(.int (nar .char ca)), (.int (nar .char cb)), (.int (nar .char cc))]), (o93, own_ob Z "java/lang/String" [("value", "[B", .null), ("coder", "B", (.int (0)))])]) rfl (fun T X => ?_)
      replace X := X.bring (i := 1) rfl (M := [(o93, own_ob Z "java/lang/String" [("value", "[B", .null), ("coder", "B", (.int (0)))]), (o98, own_ar Z .char [(.int (nar .char ca)), (.int (nar .char cb)), (.int (nar .char cc))])]) rfl
      refine k_init C X at_115 rfl rfl (hw _ (List.mem_of_getElem? (i := 5) rfl)) (hw _ (List.mem_of_getElem? (i := 6) rfl)) (hw _ (List.mem_of_getElem? (i := 3) rfl)) (hw _ (List.mem_of_getElem? (i := 7) rfl)) (by decide) (own_si1_30 l Z a0 hw o93 o98 (nar .char ca) (nar .char cb) (nar .char cc) cs fm hS hcs hAD hHI hLO hFM hfc (own_chn _) (own_chn _) (own_chn _) hg0 ([])) (W := 1) (argsL := [(.ref o98)]) (rest := [(.ref o93)]) rfl rfl rfl own_pd5 rfl (Nat.le_of_eq rfl) (by decide) (by decide) (by decide) (by decide) (fun v T M hQ X => ?_)
      obtain ⟨f25, f26, rfl, rfl⟩ := hQ
      refine k_astore C X at_118 rfl rfl (l' := #[.val (.int x0), .val (.int x1), .val (.int x2), .val (.int x3), .val (.int (3)), .val (.int ca), .val (.int cb), .val (.int cc), .val (.ref o93), .unset, .unset]) rfl ?_
      refine k_aload C X at_120 rfl rfl rfl ?_
      replace X := X.bring (i := 3) rfl (M := [(o93, own_ob Z "java/lang/String" [("value", "[B", (.ref f25)), ("coder", "B", (.int (1)))]), (f25, own_ar Z .byte [(.int (nar .byte (((nar .char ca) >>> ((0) &&& 31 : Int32) : Int32).toInt8.toInt32))), (.int (nar .byte (((nar .char ca) >>> ((8) &&& 31 : Int32) : Int32).toInt8.toInt32))), (.int (nar .byte (((nar .char cb) >>> ((0) &&& 31 : Int32) : Int32).toInt8.toInt32))), (.int (nar .byte (((nar .char cb) >>> ((8) &&& 31 : Int32) : Int32).toInt8.toInt32))), (.int (nar .byte (((nar .char cc) >>> ((0) &&& 31 : Int32) : Int32).toInt8.toInt32))), (.int (nar .byte (((nar .char cc) >>> ((8) &&& 31 : Int32) : Int32).toInt8.toInt32)))]), (o98, own_ar Z .char [(.int (nar .char ca)), (.int (nar .char cb)), (.int (nar .char cc))]), (f26, own_ar Z .byte [(.int 0), (.int 0), (.int 0)])]) rfl
      refine k_staticW (vm0 := s.vm) (G := []) C X own_W.start (fun _ _ => trivial) at_122 rfl (hw _ (List.mem_of_getElem? (i := 23) rfl)) (hw _ (List.mem_of_getElem? (i := 24) rfl)) (hw _ (List.mem_of_getElem? (i := 25) rfl)) (hw _ (List.mem_of_getElem? (i := 26) rfl)) (by decide) (own_oof l Z a0 hw o93 f25 (1) cs fm hS hcs hAD hHI hLO hFM hfc ([(f25, own_ar Z .byte [(.int (nar .byte (((nar .char ca) >>> ((0) &&& 31 : Int32) : Int32).toInt8.toInt32))), (.int (nar .byte (((nar .char ca) >>> ((8) &&& 31 : Int32) : Int32).toInt8.toInt32))), (.int (nar .byte (((nar .char cb) >>> ((0) &&& 31 : Int32) : Int32).toInt8.toInt32))), (.int (nar .byte (((nar .char cb) >>> ((8) &&& 31 : Int32) : Int32).toInt8.toInt32))), (.int (nar .byte (((nar .char cc) >>> ((0) &&& 31 : Int32) : Int32).toInt8.toInt32))), (.int (nar .byte (((nar .char cc) >>> ((8) &&& 31 : Int32) : Int32).toInt8.toInt32)))]), (o98, own_ar Z .char [(.int (nar .char ca)), (.int (nar .char cb)), (.int (nar .char cc))]), (f26, own_ar Z .byte [(.int 0), (.int 0), (.int 0)])])) (W := 0) (argsL := [(.ref o93)]) (rest := []) rfl rfl rfl own_pd6 rfl (Nat.le_of_eq rfl) (by decide) (by decide) (by decide) (by decide) (fun v T M vmw28 Gw28 hQ C Ww28 X => ?_)
      replace Ww28 : own_W s vmw28 Gw28 := Ww28
      obtain ⟨f27, rfl, rfl⟩ := hQ
      replace X : own_S p l e room_1 (s.setVm vmw28) m #[(.int x0), (.int x1), (.int x2), (.int x3)] below meth c Z T ((f27, own_ob Z "com/example/cradle/cradle/Origin" [("file", "Ljava/nio/file/Path;", .null), ("line", "I", (.int (0))), ("description", "Ljava/lang/String;", (.ref o93))]) :: (o93, own_ob Z "java/lang/String" [("value", "[B", (.ref f25)), ("coder", "B", (.int (1)))]) :: (f25, own_ar Z .byte [(.int (nar .byte (((nar .char ca) >>> ((0) &&& 31 : Int32) : Int32).toInt8.toInt32))), (.int (nar .byte (((nar .char ca) >>> ((8) &&& 31 : Int32) : Int32).toInt8.toInt32))), (.int (nar .byte (((nar .char cb) >>> ((0) &&& 31 : Int32) : Int32).toInt8.toInt32))), (.int (nar .byte (((nar .char cb) >>> ((8) &&& 31 : Int32) : Int32).toInt8.toInt32))), (.int (nar .byte (((nar .char cc) >>> ((0) &&& 31 : Int32) : Int32).toInt8.toInt32))), (.int (nar .byte (((nar .char cc) >>> ((8) &&& 31 : Int32) : Int32).toInt8.toInt32)))]) :: (o98, own_ar Z .char [(.int (nar .char ca)), (.int (nar .char cb)), (.int (nar .char cc))]) :: (f26, own_ar Z .byte [(.int 0), (.int 0), (.int 0)]) :: Gw28) 7 47 := X
      refine k_astore C X at_125 rfl rfl (l' := #[.val (.int x0), .val (.int x1), .val (.int x2), .val (.int x3), .val (.int (3)), .val (.int ca), .val (.int cb), .val (.int cc), .val (.ref o93), .val (.ref f27), .unset]) rfl ?_
      refine k_aload C X at_127 rfl rfl rfl ?_
      refine k_ifnonnull_y C X at_129 (tpc := 134) rfl ?_
      refine k_aload C X at_134 rfl rfl rfl ?_
      refine k_virtual C X at_136 rfl (hw _ (List.mem_of_getElem? (i := 45) rfl)) (hw _ (List.mem_of_getElem? (i := 46) rfl)) (hw _ (List.mem_of_getElem? (i := 25) rfl)) (hw _ (List.mem_of_getElem? (i := 49) rfl)) (hw _ (List.mem_of_getElem? (i := 48) rfl)) (hw _ (List.mem_of_getElem? (i := 47) rfl)) (by decide) (own_nf C.2.2.2.1 (hw _ (List.mem_of_getElem? (i := 48) rfl))) (own_eL (ix := 0) rfl) (own_ots l Z a0 hw f27 o93 cs fm hS hcs hAD hHI hLO hFM hfc ((o93, own_ob Z "java/lang/String" [("value", "[B", (.ref f25)), ("coder", "B", (.int (1)))]) :: (f25, own_ar Z .byte [(.int (nar .byte (((nar .char ca) >>> ((0) &&& 31 : Int32) : Int32).toInt8.toInt32))), (.int (nar .byte (((nar .char ca) >>> ((8) &&& 31 : Int32) : Int32).toInt8.toInt32))), (.int (nar .byte (((nar .char cb) >>> ((0) &&& 31 : Int32) : Int32).toInt8.toInt32))), (.int (nar .byte (((nar .char cb) >>> ((8) &&& 31 : Int32) : Int32).toInt8.toInt32))), (.int (nar .byte (((nar .char cc) >>> ((0) &&& 31 : Int32) : Int32).toInt8.toInt32))), (.int (nar .byte (((nar .char cc) >>> ((8) &&& 31 : Int32) : Int32).toInt8.toInt32)))]) :: (o98, own_ar Z .char [(.int (nar .char ca)), (.int (nar .char cb)), (.int (nar .char cc))]) :: (f26, own_ar Z .byte [(.int 0), (.int 0), (.int 0)]) :: Gw28)) (W := 0) (argsL := []) (rest := []) rfl rfl rfl own_pd7 rfl (Nat.le_of_eq rfl) (by decide) (by decide) (by decide) (by decide) (fun v T M hQ X => ?_)
      obtain ⟨rfl, rfl⟩ := hQ
      refine k_astore C X at_139 rfl rfl (l' := #[.val (.int x0), .val (.int x1), .val (.int x2), .val (.int x3), .val (.int (3)), .val (.int ca), .val (.int cb), .val (.int cc), .val (.ref o93), .val (.ref f27), .val (.ref o93)]) rfl ?_
      refine k_aload C X at_141 rfl rfl rfl ?_
      refine k_ifnonnull_y C X at_143 (tpc := 148) rfl ?_
      refine k_aload C X at_148 rfl rfl rfl ?_
      replace X := X.bring (i := 2) rfl (M := (f25, own_ar Z .byte [(.int (nar .byte (((nar .char ca) >>> ((0) &&& 31 : Int32) : Int32).toInt8.toInt32))), (.int (nar .byte (((nar .char ca) >>> ((8) &&& 31 : Int32) : Int32).toInt8.toInt32))), (.int (nar .byte (((nar .char cb) >>> ((0) &&& 31 : Int32) : Int32).toInt8.toInt32))), (.int (nar .byte (((nar .char cb) >>> ((8) &&& 31 : Int32) : Int32).toInt8.toInt32))), (.int (nar .byte (((nar .char cc) >>> ((0) &&& 31 : Int32) : Int32).toInt8.toInt32))), (.int (nar .byte (((nar .char cc) >>> ((8) &&& 31 : Int32) : Int32).toInt8.toInt32)))]) :: (f27, own_ob Z "com/example/cradle/cradle/Origin" [("file", "Ljava/nio/file/Path;", .null), ("line", "I", (.int (0))), ("description", "Ljava/lang/String;", (.ref o93))]) :: (o93, own_ob Z "java/lang/String" [("value", "[B", (.ref f25)), ("coder", "B", (.int (1)))]) :: (o98, own_ar Z .char [(.int (nar .char ca)), (.int (nar .char cb)), (.int (nar .char cc))]) :: (f26, own_ar Z .byte [(.int 0), (.int 0), (.int 0)]) :: Gw28) rfl
      replace X := X.bring (i := 2) rfl (M := (o93, own_ob Z "java/lang/String" [("value", "[B", (.ref f25)), ("coder", "B", (.int (1)))]) :: (f25, own_ar Z .byte [(.int (nar .byte (((nar .char ca) >>> ((0) &&& 31 : Int32) : Int32).toInt8.toInt32))), (.int (nar .byte (((nar .char ca) >>> ((8) &&& 31 : Int32) : Int32).toInt8.toInt32))), (.int (nar .byte (((nar .char cb) >>> ((0) &&& 31 : Int32) : Int32).toInt8.toInt32))), (.int (nar .byte (((nar .char cb) >>> ((8) &&& 31 : Int32) : Int32).toInt8.toInt32))), (.int (nar .byte (((nar .char cc) >>> ((0) &&& 31 : Int32) : Int32).toInt8.toInt32))), (.int (nar .byte (((nar .char cc) >>> ((8) &&& 31 : Int32) : Int32).toInt8.toInt32)))]) :: (f27, own_ob Z "com/example/cradle/cradle/Origin" [("file", "Ljava/nio/file/Path;", .null), ("line", "I", (.int (0))), ("description", "Ljava/lang/String;", (.ref o93))]) :: (o98, own_ar Z .char [(.int (nar .char ca)), (.int (nar .char cb)), (.int (nar .char cc))]) :: (f26, own_ar Z .byte [(.int 0), (.int 0), (.int 0)]) :: Gw28) rfl
      refine k_virtual C X at_150 rfl (hw _ (List.mem_of_getElem? (i := 50) rfl)) (hw _ (List.mem_of_getElem? (i := 51) rfl)) (hw _ (List.mem_of_getElem? (i := 3) rfl)) (hw _ (List.mem_of_getElem? (i := 54) rfl)) (hw _ (List.mem_of_getElem? (i := 53) rfl)) (hw _ (List.mem_of_getElem? (i := 52) rfl)) (by decide) (own_nf C.2.2.2.1 (hw _ (List.mem_of_getElem? (i := 53) rfl))) (own_eL (ix := 0) rfl) (own_len31 l Z a0 hw o93 f25 (nar .byte (((nar .char ca) >>> ((0) &&& 31 : Int32) : Int32).toInt8.toInt32)) (nar .byte (((nar .char ca) >>> ((8) &&& 31 : Int32) : Int32).toInt8.toInt32)) (nar .byte (((nar .char cb) >>> ((0) &&& 31 : Int32) : Int32).toInt8.toInt32)) (nar .byte (((nar .char cb) >>> ((8) &&& 31 : Int32) : Int32).toInt8.toInt32)) (nar .byte (((nar .char cc) >>> ((0) &&& 31 : Int32) : Int32).toInt8.toInt32)) (nar .byte (((nar .char cc) >>> ((8) &&& 31 : Int32) : Int32).toInt8.toInt32)) cs fm hS hcs hAD hHI hLO hFM hfc ((f27, own_ob Z "com/example/cradle/cradle/Origin" [("file", "Ljava/nio/file/Path;", .null), ("line", "I", (.int (0))), ("description", "Ljava/lang/String;", (.ref o93))]) :: (o98, own_ar Z .char [(.int (nar .char ca)), (.int (nar .char cb)), (.int (nar .char cc))]) :: (f26, own_ar Z .byte [(.int 0), (.int 0), (.int 0)]) :: Gw28)) (W := 0) (argsL := []) (rest := []) rfl rfl rfl own_pd8 rfl (Nat.le_of_eq rfl) (by decide) (by decide) (by decide) (by decide) (fun v T M hQ X => ?_)
      obtain ⟨rfl, rfl⟩ := hQ
      refine k_iload C X at_153 rfl rfl ?_
      refine k_icmp_eq C X at_155 rfl (tpc := 160) rfl (fun _ => ?_) (fun hc => (absurd hc (by decide) : False).elim)
      refine k_iload C X at_160 rfl rfl ?_
      refine k_iconst C X at_162 rfl (v := 1) rfl ?_
      refine k_icmp_lt C X at_163 rfl (tpc := 179) rfl (fun hc => (absurd hc (by decide) : False).elim) (fun _ => ?_)
      refine k_aload C X at_166 rfl rfl rfl ?_
      refine k_iconst C X at_168 rfl (v := 0) rfl ?_
      replace X := X.bring (i := 1) rfl (M := (f25, own_ar Z .byte [(.int (nar .byte (((nar .char ca) >>> ((0) &&& 31 : Int32) : Int32).toInt8.toInt32))), (.int (nar .byte (((nar .char ca) >>> ((8) &&& 31 : Int32) : Int32).toInt8.toInt32))), (.int (nar .byte (((nar .char cb) >>> ((0) &&& 31 : Int32) : Int32).toInt8.toInt32))), (.int (nar .byte (((nar .char cb) >>> ((8) &&& 31 : Int32) : Int32).toInt8.toInt32))), (.int (nar .byte (((nar .char cc) >>> ((0) &&& 31 : Int32) : Int32).toInt8.toInt32))), (.int (nar .byte (((nar .char cc) >>> ((8) &&& 31 : Int32) : Int32).toInt8.toInt32)))]) :: (o93, own_ob Z "java/lang/String" [("value", "[B", (.ref f25)), ("coder", "B", (.int (1)))]) :: (f27, own_ob Z "com/example/cradle/cradle/Origin" [("file", "Ljava/nio/file/Path;", .null), ("line", "I", (.int (0))), ("description", "Ljava/lang/String;", (.ref o93))]) :: (o98, own_ar Z .char [(.int (nar .char ca)), (.int (nar .char cb)), (.int (nar .char cc))]) :: (f26, own_ar Z .byte [(.int 0), (.int 0), (.int 0)]) :: Gw28) rfl
      replace X := X.bring (i := 1) rfl (M := (o93, own_ob Z "java/lang/String" [("value", "[B", (.ref f25)), ("coder", "B", (.int (1)))]) :: (f25, own_ar Z .byte [(.int (nar .byte (((nar .char ca) >>> ((0) &&& 31 : Int32) : Int32).toInt8.toInt32))), (.int (nar .byte (((nar .char ca) >>> ((8) &&& 31 : Int32) : Int32).toInt8.toInt32))), (.int (nar .byte (((nar .char cb) >>> ((0) &&& 31 : Int32) : Int32).toInt8.toInt32))), (.int (nar .byte (((nar .char cb) >>> ((8) &&& 31 : Int32) : Int32).toInt8.toInt32))), (.int (nar .byte (((nar .char cc) >>> ((0) &&& 31 : Int32) : Int32).toInt8.toInt32))), (.int (nar .byte (((nar .char cc) >>> ((8) &&& 31 : Int32) : Int32).toInt8.toInt32)))]) :: (f27, own_ob Z "com/example/cradle/cradle/Origin" [("file", "Ljava/nio/file/Path;", .null), ("line", "I", (.int (0))), ("description", "Ljava/lang/String;", (.ref o93))]) :: (o98, own_ar Z .char [(.int (nar .char ca)), (.int (nar .char cb)), (.int (nar .char cc))]) :: (f26, own_ar Z .byte [(.int 0), (.int 0), (.int 0)]) :: Gw28) rfl
      refine k_virtual C X at_169 rfl (hw _ (List.mem_of_getElem? (i := 76) rfl)) (hw _ (List.mem_of_getElem? (i := 77) rfl)) (hw _ (List.mem_of_getElem? (i := 3) rfl)) (hw _ (List.mem_of_getElem? (i := 80) rfl)) (hw _ (List.mem_of_getElem? (i := 79) rfl)) (hw _ (List.mem_of_getElem? (i := 78) rfl)) (by decide) (own_nf C.2.2.2.1 (hw _ (List.mem_of_getElem? (i := 79) rfl))) (own_eL (ix := 0) rfl) (own_cha310 l Z a0 hw o93 f25 (nar .byte (((nar .char ca) >>> ((0) &&& 31 : Int32) : Int32).toInt8.toInt32)) (nar .byte (((nar .char ca) >>> ((8) &&& 31 : Int32) : Int32).toInt8.toInt32)) (nar .byte (((nar .char cb) >>> ((0) &&& 31 : Int32) : Int32).toInt8.toInt32)) (nar .byte (((nar .char cb) >>> ((8) &&& 31 : Int32) : Int32).toInt8.toInt32)) (nar .byte (((nar .char cc) >>> ((0) &&& 31 : Int32) : Int32).toInt8.toInt32)) (nar .byte (((nar .char cc) >>> ((8) &&& 31 : Int32) : Int32).toInt8.toInt32)) cs fm hS hcs hAD hHI hLO hFM hfc ((f27, own_ob Z "com/example/cradle/cradle/Origin" [("file", "Ljava/nio/file/Path;", .null), ("line", "I", (.int (0))), ("description", "Ljava/lang/String;", (.ref o93))]) :: (o98, own_ar Z .char [(.int (nar .char ca)), (.int (nar .char cb)), (.int (nar .char cc))]) :: (f26, own_ar Z .byte [(.int 0), (.int 0), (.int 0)]) :: Gw28)) (W := 0) (argsL := [(.int (0))]) (rest := []) rfl rfl rfl own_pd20 rfl (Nat.le_of_eq rfl) (by decide) (by decide) (by decide) (by decide) (fun v T M hQ X => ?_)
      obtain ⟨rfl, rfl⟩ := hQ
      refine k_iload C X at_172 rfl rfl ?_
      refine k_icmp_eq C X at_174 rfl (tpc := 179) rfl (fun _ => ?_) (fun hc => (hc ((own_u16 (own_chn _)).trans (own_chs hca)) : False).elim)
      refine k_iload C X at_179 rfl rfl ?_
      refine k_iconst C X at_181 rfl (v := 2) rfl ?_
      refine k_icmp_lt C X at_182 rfl (tpc := 198) rfl (fun hc => (absurd hc (by decide) : False).elim) (fun _ => ?_)
      refine k_aload C X at_185 rfl rfl rfl ?_
      refine k_iconst C X at_187 rfl (v := 1) rfl ?_
      replace X := X.bring (i := 1) rfl (M := (o93, own_ob Z "java/lang/String" [("value", "[B", (.ref f25)), ("coder", "B", (.int (1)))]) :: (f25, own_ar Z .byte [(.int (nar .byte (((nar .char ca) >>> ((0) &&& 31 : Int32) : Int32).toInt8.toInt32))), (.int (nar .byte (((nar .char ca) >>> ((8) &&& 31 : Int32) : Int32).toInt8.toInt32))), (.int (nar .byte (((nar .char cb) >>> ((0) &&& 31 : Int32) : Int32).toInt8.toInt32))), (.int (nar .byte (((nar .char cb) >>> ((8) &&& 31 : Int32) : Int32).toInt8.toInt32))), (.int (nar .byte (((nar .char cc) >>> ((0) &&& 31 : Int32) : Int32).toInt8.toInt32))), (.int (nar .byte (((nar .char cc) >>> ((8) &&& 31 : Int32) : Int32).toInt8.toInt32)))]) :: (f27, own_ob Z "com/example/cradle/cradle/Origin" [("file", "Ljava/nio/file/Path;", .null), ("line", "I", (.int (0))), ("description", "Ljava/lang/String;", (.ref o93))]) :: (o98, own_ar Z .char [(.int (nar .char ca)), (.int (nar .char cb)), (.int (nar .char cc))]) :: (f26, own_ar Z .byte [(.int 0), (.int 0), (.int 0)]) :: Gw28) rfl
      refine k_virtual C X at_188 rfl (hw _ (List.mem_of_getElem? (i := 76) rfl)) (hw _ (List.mem_of_getElem? (i := 77) rfl)) (hw _ (List.mem_of_getElem? (i := 3) rfl)) (hw _ (List.mem_of_getElem? (i := 80) rfl)) (hw _ (List.mem_of_getElem? (i := 79) rfl)) (hw _ (List.mem_of_getElem? (i := 78) rfl)) (by decide) (own_nf C.2.2.2.1 (hw _ (List.mem_of_getElem? (i := 79) rfl))) (own_eL (ix := 0) rfl) (own_cha311 l Z a0 hw o93 f25 (nar .byte (((nar .char ca) >>> ((0) &&& 31 : Int32) : Int32).toInt8.toInt32)) (nar .byte (((nar .char ca) >>> ((8) &&& 31 : Int32) : Int32).toInt8.toInt32)) (nar .byte (((nar .char cb) >>> ((0) &&& 31 : Int32) : Int32).toInt8.toInt32)) (nar .byte (((nar .char cb) >>> ((8) &&& 31 : Int32) : Int32).toInt8.toInt32)) (nar .byte (((nar .char cc) >>> ((0) &&& 31 : Int32) : Int32).toInt8.toInt32)) (nar .byte (((nar .char cc) >>> ((8) &&& 31 : Int32) : Int32).toInt8.toInt32)) cs fm hS hcs hAD hHI hLO hFM hfc ((f27, own_ob Z "com/example/cradle/cradle/Origin" [("file", "Ljava/nio/file/Path;", .null), ("line", "I", (.int (0))), ("description", "Ljava/lang/String;", (.ref o93))]) :: (o98, own_ar Z .char [(.int (nar .char ca)), (.int (nar .char cb)), (.int (nar .char cc))]) :: (f26, own_ar Z .byte [(.int 0), (.int 0), (.int 0)]) :: Gw28)) (W := 0) (argsL := [(.int (1))]) (rest := []) rfl rfl rfl own_pd20 rfl (Nat.le_of_eq rfl) (by decide) (by decide) (by decide) (by decide) (fun v T M hQ X => ?_)
      obtain ⟨rfl, rfl⟩ := hQ
      refine k_iload C X at_191 rfl rfl ?_
      refine k_icmp_eq C X at_193 rfl (tpc := 198) rfl (fun _ => ?_) (fun hc => (hc ((own_u16 (own_chn _)).trans (own_chs hcb)) : False).elim)
      refine k_iload C X at_198 rfl rfl ?_
      refine k_iconst C X at_200 rfl (v := 3) rfl ?_
      refine k_icmp_lt C X at_201 rfl (tpc := 217) rfl (fun hc => (absurd hc (by decide) : False).elim) (fun _ => ?_)
      refine k_aload C X at_204 rfl rfl rfl ?_
      refine k_iconst C X at_206 rfl (v := 2) rfl ?_
      replace X := X.bring (i := 1) rfl (M := (o93, own_ob Z "java/lang/String" [("value", "[B", (.ref f25)), ("coder", "B", (.int (1)))]) :: (f25, own_ar Z .byte [(.int (nar .byte (((nar .char ca) >>> ((0) &&& 31 : Int32) : Int32).toInt8.toInt32))), (.int (nar .byte (((nar .char ca) >>> ((8) &&& 31 : Int32) : Int32).toInt8.toInt32))), (.int (nar .byte (((nar .char cb) >>> ((0) &&& 31 : Int32) : Int32).toInt8.toInt32))), (.int (nar .byte (((nar .char cb) >>> ((8) &&& 31 : Int32) : Int32).toInt8.toInt32))), (.int (nar .byte (((nar .char cc) >>> ((0) &&& 31 : Int32) : Int32).toInt8.toInt32))), (.int (nar .byte (((nar .char cc) >>> ((8) &&& 31 : Int32) : Int32).toInt8.toInt32)))]) :: (f27, own_ob Z "com/example/cradle/cradle/Origin" [("file", "Ljava/nio/file/Path;", .null), ("line", "I", (.int (0))), ("description", "Ljava/lang/String;", (.ref o93))]) :: (o98, own_ar Z .char [(.int (nar .char ca)), (.int (nar .char cb)), (.int (nar .char cc))]) :: (f26, own_ar Z .byte [(.int 0), (.int 0), (.int 0)]) :: Gw28) rfl
      refine k_virtual C X at_207 rfl (hw _ (List.mem_of_getElem? (i := 76) rfl)) (hw _ (List.mem_of_getElem? (i := 77) rfl)) (hw _ (List.mem_of_getElem? (i := 3) rfl)) (hw _ (List.mem_of_getElem? (i := 80) rfl)) (hw _ (List.mem_of_getElem? (i := 79) rfl)) (hw _ (List.mem_of_getElem? (i := 78) rfl)) (by decide) (own_nf C.2.2.2.1 (hw _ (List.mem_of_getElem? (i := 79) rfl))) (own_eL (ix := 0) rfl) (own_cha312 l Z a0 hw o93 f25 (nar .byte (((nar .char ca) >>> ((0) &&& 31 : Int32) : Int32).toInt8.toInt32)) (nar .byte (((nar .char ca) >>> ((8) &&& 31 : Int32) : Int32).toInt8.toInt32)) (nar .byte (((nar .char cb) >>> ((0) &&& 31 : Int32) : Int32).toInt8.toInt32)) (nar .byte (((nar .char cb) >>> ((8) &&& 31 : Int32) : Int32).toInt8.toInt32)) (nar .byte (((nar .char cc) >>> ((0) &&& 31 : Int32) : Int32).toInt8.toInt32)) (nar .byte (((nar .char cc) >>> ((8) &&& 31 : Int32) : Int32).toInt8.toInt32)) cs fm hS hcs hAD hHI hLO hFM hfc ((f27, own_ob Z "com/example/cradle/cradle/Origin" [("file", "Ljava/nio/file/Path;", .null), ("line", "I", (.int (0))), ("description", "Ljava/lang/String;", (.ref o93))]) :: (o98, own_ar Z .char [(.int (nar .char ca)), (.int (nar .char cb)), (.int (nar .char cc))]) :: (f26, own_ar Z .byte [(.int 0), (.int 0), (.int 0)]) :: Gw28)) (W := 0) (argsL := [(.int (2))]) (rest := []) rfl rfl rfl own_pd20 rfl (Nat.le_of_eq rfl) (by decide) (by decide) (by decide) (by decide) (fun v T M hQ X => ?_)
      obtain ⟨rfl, rfl⟩ := hQ
      refine k_iload C X at_210 rfl rfl ?_
      refine k_icmp_eq C X at_212 rfl (tpc := 217) rfl (fun _ => ?_) (fun hc => (hc ((own_u16 (own_chn _)).trans (own_chs hcc)) : False).elim)
      refine k_aload C X at_217 rfl rfl rfl ?_
      refine k_aload C X at_219 rfl rfl rfl ?_
      refine k_virtual C X at_221 rfl (hw _ (List.mem_of_getElem? (i := 61) rfl)) (hw _ (List.mem_of_getElem? (i := 62) rfl)) (hw _ (List.mem_of_getElem? (i := 3) rfl)) (hw _ (List.mem_of_getElem? (i := 65) rfl)) (hw _ (List.mem_of_getElem? (i := 64) rfl)) (hw _ (List.mem_of_getElem? (i := 63) rfl)) (by decide) (own_nf C.2.2.2.1 (hw _ (List.mem_of_getElem? (i := 64) rfl))) (own_eL (ix := 1) rfl) (own_eqs l Z a0 hw o93 cs fm hS hcs hAD hHI hLO hFM hfc ((f25, own_ar Z .byte [(.int (nar .byte (((nar .char ca) >>> ((0) &&& 31 : Int32) : Int32).toInt8.toInt32))), (.int (nar .byte (((nar .char ca) >>> ((8) &&& 31 : Int32) : Int32).toInt8.toInt32))), (.int (nar .byte (((nar .char cb) >>> ((0) &&& 31 : Int32) : Int32).toInt8.toInt32))), (.int (nar .byte (((nar .char cb) >>> ((8) &&& 31 : Int32) : Int32).toInt8.toInt32))), (.int (nar .byte (((nar .char cc) >>> ((0) &&& 31 : Int32) : Int32).toInt8.toInt32))), (.int (nar .byte (((nar .char cc) >>> ((8) &&& 31 : Int32) : Int32).toInt8.toInt32)))]) :: (o93, own_ob Z "java/lang/String" [("value", "[B", (.ref f25)), ("coder", "B", (.int (1)))]) :: (f27, own_ob Z "com/example/cradle/cradle/Origin" [("file", "Ljava/nio/file/Path;", .null), ("line", "I", (.int (0))), ("description", "Ljava/lang/String;", (.ref o93))]) :: (o98, own_ar Z .char [(.int (nar .char ca)), (.int (nar .char cb)), (.int (nar .char cc))]) :: (f26, own_ar Z .byte [(.int 0), (.int 0), (.int 0)]) :: Gw28)) (W := 0) (argsL := [(.ref o93)]) (rest := []) rfl rfl rfl own_pd9 rfl (Nat.le_of_eq rfl) (by decide) (by decide) (by decide) (by decide) (fun v T M hQ X => ?_)
      obtain ⟨rfl, rfl⟩ := hQ
      exact k_ireturnW (M := ([(f25, own_ar Z .byte [(.int (nar .byte (((nar .char ca) >>> ((0) &&& 31 : Int32) : Int32).toInt8.toInt32))), (.int (nar .byte (((nar .char ca) >>> ((8) &&& 31 : Int32) : Int32).toInt8.toInt32))), (.int (nar .byte (((nar .char cb) >>> ((0) &&& 31 : Int32) : Int32).toInt8.toInt32))), (.int (nar .byte (((nar .char cb) >>> ((8) &&& 31 : Int32) : Int32).toInt8.toInt32))), (.int (nar .byte (((nar .char cc) >>> ((0) &&& 31 : Int32) : Int32).toInt8.toInt32))), (.int (nar .byte (((nar .char cc) >>> ((8) &&& 31 : Int32) : Int32).toInt8.toInt32)))]), (o93, own_ob Z "java/lang/String" [("value", "[B", (.ref f25)), ("coder", "B", (.int (1)))]), (f27, own_ob Z "com/example/cradle/cradle/Origin" [("file", "Ljava/nio/file/Path;", .null), ("line", "I", (.int (0))), ("description", "Ljava/lang/String;", (.ref o93))]), (o98, own_ar Z .char [(.int (nar .char ca)), (.int (nar .char cb)), (.int (nar .char cc))]), (f26, own_ar Z .byte [(.int 0), (.int 0), (.int 0)])])) (G := Gw28) C X rfl Ww28 at_224 (by simp) rfl rfl (by decide) (by decide)
    · skip
      by_cases hg1 : (255) < (nar .char cb)
      · skip
        refine k_iload C X at_26 rfl rfl ?_
        refine k_if_ne C X at_28 rfl (tpc := 46) rfl (fun _ => ?_) (fun hc => (absurd hc (by decide) : False).elim)
        refine k_iload C X at_46 rfl rfl ?_
        refine k_iconst C X at_48 rfl (v := 1) rfl ?_
        refine k_icmp_ne C X at_49 rfl (tpc := 62) rfl (fun _ => ?_) (fun hc => (absurd hc (by decide) : False).elim)
        refine k_iload C X at_62 rfl rfl ?_
        refine k_iconst C X at_64 rfl (v := 2) rfl ?_
        refine k_icmp_ne C X at_65 rfl (tpc := 93) rfl (fun _ => ?_) (fun hc => (absurd hc (by decide) : False).elim)
        refine k_new C X at_93 rfl (hw _ (List.mem_of_getElem? (i := 1) rfl)) (hw _ (List.mem_of_getElem? (i := 2) rfl)) (hw _ (List.mem_of_getElem? (i := 3) rfl)) (own_lay_String hw) (fs := [("value", "[B", .null), ("coder", "B", (.int (0)))]) rfl (by decide) (by decide) (fun T o93 X => ?_)
        refine k_dup C X at_96 rfl rfl ?_
        refine k_iconst C X at_97 rfl (v := 3) rfl ?_
        refine k_newarray C X at_98 rfl (ty := .char) rfl (hw _ (List.mem_of_getElem? (i := 4) rfl)) (by decide) (cap := 3) (by decide) (by decide) (by decide) (by decide) (vs := [(.int 0), (.int 0), (.int 0)]) rfl (fun T o98 X => ?_)
        refine k_dup C X at_100 rfl rfl ?_
        refine k_iconst C X at_101 rfl (v := 0) rfl ?_
        refine k_iload C X at_102 rfl rfl ?_
        refine k_castore C X at_104 rfl (ix := 0) (i := 0) rfl (by decide) (by decide) (Nat.le_of_ble_eq_true rfl) (vs' := [(.int (nar .char ca)), (.int 0), (.int 0)]) rfl (L' := [(o98, own_ar Z .char [(.int (nar .char ca)), (.int 0), (.int 0)]), (o93, own_ob Z "java/lang/String" [("value", "[B", .null), ("coder", "B", (.int (0)))])]) rfl (fun T X => ?_)
        refine k_dup C X at_105 rfl rfl ?_
        refine k_iconst C X at_106 rfl (v := 1) rfl ?_
        refine k_iload C X at_107 rfl rfl ?_
        refine k_castore C X at_109 rfl (ix := 0) (i := 1) rfl (by decide) (by decide) (Nat.le_of_ble_eq_true rfl) (vs' := [(.int (nar .char ca)), (.int (nar .char cb)), (.int 0)]) rfl (L' := [(o98, own_ar Z .char [(.int (nar .char ca)), (.int (nar .char cb)), (.int 0)]), (o93, own_ob Z "java/lang/String" [("value", "[B", .null), ("coder", "B", (.int (0)))])]) rfl (fun T X => ?_)
        refine k_dup C X at_110 rfl rfl ?_
        refine k_iconst C X at_111 rfl (v := 2) rfl ?_
        refine k_iload C X at_112 rfl rfl ?_
        refine k_castore C X at_114 rfl (ix := 0) (i := 2) rfl (by decide) (by decide) (Nat.le_of_ble_eq_true rfl) (vs' := [(.int (nar .char ca)), (.int (nar .char cb)), (.int (nar .char cc))]) rfl (L' := [(o98, own_ar Z .char [(.int (nar .char ca)), (.int (nar .char cb)), (.int (nar .char cc))]), (o93, own_ob Z "java/lang/String" [("value", "[B", .null), ("coder", "B", (.int (0)))])]) rfl (fun T X => ?_)
        replace X := X.bring (i := 1) rfl (M := [(o93, own_ob Z "java/lang/String" [("value", "[B", .null), ("coder", "B", (.int (0)))]), (o98, own_ar Z .char [(.int (nar .char ca)), (.int (nar .char cb)), (.int (nar .char cc))])]) rfl
        refine k_init C X at_115 rfl rfl (hw _ (List.mem_of_getElem? (i := 5) rfl)) (hw _ (List.mem_of_getElem? (i := 6) rfl)) (hw _ (List.mem_of_getElem? (i := 3) rfl)) (hw _ (List.mem_of_getElem? (i := 7) rfl)) (by decide) (own_si1_31 l Z a0 hw o93 o98 (nar .char ca) (nar .char cb) (nar .char cc) cs fm hS hcs hAD hHI hLO hFM hfc (own_chn _) (own_chn _) (own_chn _) hg0 hg1 ([])) (W := 1) (argsL := [(.ref o98)]) (rest := [(.ref o93)]) rfl rfl rfl own_pd5 rfl (Nat.le_of_eq rfl) (by decide) (by decide) (by decide) (by decide) (fun v T M hQ X => ?_)
        obtain ⟨f29, f30, rfl, rfl⟩ := hQ
        refine k_astore C X at_118 rfl rfl (l' := #[.val (.int x0), .val (.int x1), .val (.int x2), .val (.int x3), .val (.int (3)), .val (.int ca), .val (.int cb), .val (.int cc), .val (.ref o93), .unset, .unset]) rfl ?_
        refine k_aload C X at_120 rfl rfl rfl ?_
        replace X := X.bring (i := 3) rfl (M := [(o93, own_ob Z "java/lang/String" [("value", "[B", (.ref f29)), ("coder", "B", (.int (1)))]), (f29, own_ar Z .byte [(.int (nar .byte (((nar .char ca) >>> ((0) &&& 31 : Int32) : Int32).toInt8.toInt32))), (.int (nar .byte (((nar .char ca) >>> ((8) &&& 31 : Int32) : Int32).toInt8.toInt32))), (.int (nar .byte (((nar .char cb) >>> ((0) &&& 31 : Int32) : Int32).toInt8.toInt32))), (.int (nar .byte (((nar .char cb) >>> ((8) &&& 31 : Int32) : Int32).toInt8.toInt32))), (.int (nar .byte (((nar .char cc) >>> ((0) &&& 31 : Int32) : Int32).toInt8.toInt32))), (.int (nar .byte (((nar .char cc) >>> ((8) &&& 31 : Int32) : Int32).toInt8.toInt32)))]), (o98, own_ar Z .char [(.int (nar .char ca)), (.int (nar .char cb)), (.int (nar .char cc))]), (f30, own_ar Z .byte [(.int (nar .byte (nar .char ca).toInt8.toInt32)), (.int 0), (.int 0)])]) rfl
        refine k_staticW (vm0 := s.vm) (G := []) C X own_W.start (fun _ _ => trivial) at_122 rfl (hw _ (List.mem_of_getElem? (i := 23) rfl)) (hw _ (List.mem_of_getElem? (i := 24) rfl)) (hw _ (List.mem_of_getElem? (i := 25) rfl)) (hw _ (List.mem_of_getElem? (i := 26) rfl)) (by decide) (own_oof l Z a0 hw o93 f29 (1) cs fm hS hcs hAD hHI hLO hFM hfc ([(f29, own_ar Z .byte [(.int (nar .byte (((nar .char ca) >>> ((0) &&& 31 : Int32) : Int32).toInt8.toInt32))), (.int (nar .byte (((nar .char ca) >>> ((8) &&& 31 : Int32) : Int32).toInt8.toInt32))), (.int (nar .byte (((nar .char cb) >>> ((0) &&& 31 : Int32) : Int32).toInt8.toInt32))), (.int (nar .byte (((nar .char cb) >>> ((8) &&& 31 : Int32) : Int32).toInt8.toInt32))), (.int (nar .byte (((nar .char cc) >>> ((0) &&& 31 : Int32) : Int32).toInt8.toInt32))), (.int (nar .byte (((nar .char cc) >>> ((8) &&& 31 : Int32) : Int32).toInt8.toInt32)))]), (o98, own_ar Z .char [(.int (nar .char ca)), (.int (nar .char cb)), (.int (nar .char cc))]), (f30, own_ar Z .byte [(.int (nar .byte (nar .char ca).toInt8.toInt32)), (.int 0), (.int 0)])])) (W := 0) (argsL := [(.ref o93)]) (rest := []) rfl rfl rfl own_pd6 rfl (Nat.le_of_eq rfl) (by decide) (by decide) (by decide) (by decide) (fun v T M vmw32 Gw32 hQ C Ww32 X => ?_)
        replace Ww32 : own_W s vmw32 Gw32 := Ww32
        obtain ⟨f31, rfl, rfl⟩ := hQ
        replace X : own_S p l e room_1 (s.setVm vmw32) m #[(.int x0), (.int x1), (.int x2), (.int x3)] below meth c Z T ((f31, own_ob Z "com/example/cradle/cradle/Origin" [("file", "Ljava/nio/file/Path;", .null), ("line", "I", (.int (0))), ("description", "Ljava/lang/String;", (.ref o93))]) :: (o93, own_ob Z "java/lang/String" [("value", "[B", (.ref f29)), ("coder", "B", (.int (1)))]) :: (f29, own_ar Z .byte [(.int (nar .byte (((nar .char ca) >>> ((0) &&& 31 : Int32) : Int32).toInt8.toInt32))), (.int (nar .byte (((nar .char ca) >>> ((8) &&& 31 : Int32) : Int32).toInt8.toInt32))), (.int (nar .byte (((nar .char cb) >>> ((0) &&& 31 : Int32) : Int32).toInt8.toInt32))), (.int (nar .byte (((nar .char cb) >>> ((8) &&& 31 : Int32) : Int32).toInt8.toInt32))), (.int (nar .byte (((nar .char cc) >>> ((0) &&& 31 : Int32) : Int32).toInt8.toInt32))), (.int (nar .byte (((nar .char cc) >>> ((8) &&& 31 : Int32) : Int32).toInt8.toInt32)))]) :: (o98, own_ar Z .char [(.int (nar .char ca)), (.int (nar .char cb)), (.int (nar .char cc))]) :: (f30, own_ar Z .byte [(.int (nar .byte (nar .char ca).toInt8.toInt32)), (.int 0), (.int 0)]) :: Gw32) 7 47 := X
        refine k_astore C X at_125 rfl rfl (l' := #[.val (.int x0), .val (.int x1), .val (.int x2), .val (.int x3), .val (.int (3)), .val (.int ca), .val (.int cb), .val (.int cc), .val (.ref o93), .val (.ref f31), .unset]) rfl ?_
        refine k_aload C X at_127 rfl rfl rfl ?_
        refine k_ifnonnull_y C X at_129 (tpc := 134) rfl ?_
        refine k_aload C X at_134 rfl rfl rfl ?_
        refine k_virtual C X at_136 rfl (hw _ (List.mem_of_getElem? (i := 45) rfl)) (hw _ (List.mem_of_getElem? (i := 46) rfl)) (hw _ (List.mem_of_getElem? (i := 25) rfl)) (hw _ (List.mem_of_getElem? (i := 49) rfl)) (hw _ (List.mem_of_getElem? (i := 48) rfl)) (hw _ (List.mem_of_getElem? (i := 47) rfl)) (by decide) (own_nf C.2.2.2.1 (hw _ (List.mem_of_getElem? (i := 48) rfl))) (own_eL (ix := 0) rfl) (own_ots l Z a0 hw f31 o93 cs fm hS hcs hAD hHI hLO hFM hfc ((o93, own_ob Z "java/lang/String" [("value", "[B", (.ref f29)), ("coder", "B", (.int (1)))]) :: (f29, own_ar Z .byte [(.int (nar .byte (((nar .char ca) >>> ((0) &&& 31 : Int32) : Int32).toInt8.toInt32))), (.int (nar .byte (((nar .char ca) >>> ((8) &&& 31 : Int32) : Int32).toInt8.toInt32))), (.int (nar .byte (((nar .char cb) >>> ((0) &&& 31 : Int32) : Int32).toInt8.toInt32))), (.int (nar .byte (((nar .char cb) >>> ((8) &&& 31 : Int32) : Int32).toInt8.toInt32))), (.int (nar .byte (((nar .char cc) >>> ((0) &&& 31 : Int32) : Int32).toInt8.toInt32))), (.int (nar .byte (((nar .char cc) >>> ((8) &&& 31 : Int32) : Int32).toInt8.toInt32)))]) :: (o98, own_ar Z .char [(.int (nar .char ca)), (.int (nar .char cb)), (.int (nar .char cc))]) :: (f30, own_ar Z .byte [(.int (nar .byte (nar .char ca).toInt8.toInt32)), (.int 0), (.int 0)]) :: Gw32)) (W := 0) (argsL := []) (rest := []) rfl rfl rfl own_pd7 rfl (Nat.le_of_eq rfl) (by decide) (by decide) (by decide) (by decide) (fun v T M hQ X => ?_)
        obtain ⟨rfl, rfl⟩ := hQ
        refine k_astore C X at_139 rfl rfl (l' := #[.val (.int x0), .val (.int x1), .val (.int x2), .val (.int x3), .val (.int (3)), .val (.int ca), .val (.int cb), .val (.int cc), .val (.ref o93), .val (.ref f31), .val (.ref o93)]) rfl ?_
        refine k_aload C X at_141 rfl rfl rfl ?_
        refine k_ifnonnull_y C X at_143 (tpc := 148) rfl ?_
        refine k_aload C X at_148 rfl rfl rfl ?_
        replace X := X.bring (i := 2) rfl (M := (f29, own_ar Z .byte [(.int (nar .byte (((nar .char ca) >>> ((0) &&& 31 : Int32) : Int32).toInt8.toInt32))), (.int (nar .byte (((nar .char ca) >>> ((8) &&& 31 : Int32) : Int32).toInt8.toInt32))), (.int (nar .byte (((nar .char cb) >>> ((0) &&& 31 : Int32) : Int32).toInt8.toInt32))), (.int (nar .byte (((nar .char cb) >>> ((8) &&& 31 : Int32) : Int32).toInt8.toInt32))), (.int (nar .byte (((nar .char cc) >>> ((0) &&& 31 : Int32) : Int32).toInt8.toInt32))), (.int (nar .byte (((nar .char cc) >>> ((8) &&& 31 : Int32) : Int32).toInt8.toInt32)))]) :: (f31, own_ob Z "com/example/cradle/cradle/Origin" [("file", "Ljava/nio/file/Path;", .null), ("line", "I", (.int (0))), ("description", "Ljava/lang/String;", (.ref o93))]) :: (o93, own_ob Z "java/lang/String" [("value", "[B", (.ref f29)), ("coder", "B", (.int (1)))]) :: (o98, own_ar Z .char [(.int (nar .char ca)), (.int (nar .char cb)), (.int (nar .char cc))]) :: (f30, own_ar Z .byte [(.int (nar .byte (nar .char ca).toInt8.toInt32)), (.int 0), (.int 0)]) :: Gw32) rfl
        replace X := X.bring (i := 2) rfl (M := (o93, own_ob Z "java/lang/String" [("value", "[B", (.ref f29)), ("coder", "B", (.int (1)))]) :: (f29, own_ar Z .byte [(.int (nar .byte (((nar .char ca) >>> ((0) &&& 31 : Int32) : Int32).toInt8.toInt32))), (.int (nar .byte (((nar .char ca) >>> ((8) &&& 31 : Int32) : Int32).toInt8.toInt32))), (.int (nar .byte (((nar .char cb) >>> ((0) &&& 31 : Int32) : Int32).toInt8.toInt32))), (.int (nar .byte (((nar .char cb) >>> ((8) &&& 31 : Int32) : Int32).toInt8.toInt32))), (.int (nar .byte (((nar .char cc) >>> ((0) &&& 31 : Int32) : Int32).toInt8.toInt32))), (.int (nar .byte (((nar .char cc) >>> ((8) &&& 31 : Int32) : Int32).toInt8.toInt32)))]) :: (f31, own_ob Z "com/example/cradle/cradle/Origin" [("file", "Ljava/nio/file/Path;", .null), ("line", "I", (.int (0))), ("description", "Ljava/lang/String;", (.ref o93))]) :: (o98, own_ar Z .char [(.int (nar .char ca)), (.int (nar .char cb)), (.int (nar .char cc))]) :: (f30, own_ar Z .byte [(.int (nar .byte (nar .char ca).toInt8.toInt32)), (.int 0), (.int 0)]) :: Gw32) rfl
        refine k_virtual C X at_150 rfl (hw _ (List.mem_of_getElem? (i := 50) rfl)) (hw _ (List.mem_of_getElem? (i := 51) rfl)) (hw _ (List.mem_of_getElem? (i := 3) rfl)) (hw _ (List.mem_of_getElem? (i := 54) rfl)) (hw _ (List.mem_of_getElem? (i := 53) rfl)) (hw _ (List.mem_of_getElem? (i := 52) rfl)) (by decide) (own_nf C.2.2.2.1 (hw _ (List.mem_of_getElem? (i := 53) rfl))) (own_eL (ix := 0) rfl) (own_len31 l Z a0 hw o93 f29 (nar .byte (((nar .char ca) >>> ((0) &&& 31 : Int32) : Int32).toInt8.toInt32)) (nar .byte (((nar .char ca) >>> ((8) &&& 31 : Int32) : Int32).toInt8.toInt32)) (nar .byte (((nar .char cb) >>> ((0) &&& 31 : Int32) : Int32).toInt8.toInt32)) (nar .byte (((nar .char cb) >>> ((8) &&& 31 : Int32) : Int32).toInt8.toInt32)) (nar .byte (((nar .char cc) >>> ((0) &&& 31 : Int32) : Int32).toInt8.toInt32)) (nar .byte (((nar .char cc) >>> ((8) &&& 31 : Int32) : Int32).toInt8.toInt32)) cs fm hS hcs hAD hHI hLO hFM hfc ((f31, own_ob Z "com/example/cradle/cradle/Origin" [("file", "Ljava/nio/file/Path;", .null), ("line", "I", (.int (0))), ("description", "Ljava/lang/String;", (.ref o93))]) :: (o98, own_ar Z .char [(.int (nar .char ca)), (.int (nar .char cb)), (.int (nar .char cc))]) :: (f30, own_ar Z .byte [(.int (nar .byte (nar .char ca).toInt8.toInt32)), (.int 0), (.int 0)]) :: Gw32)) (W := 0) (argsL := []) (rest := []) rfl rfl rfl own_pd8 rfl (Nat.le_of_eq rfl) (by decide) (by decide) (by decide) (by decide) (fun v T M hQ X => ?_)
        obtain ⟨rfl, rfl⟩ := hQ
        refine k_iload C X at_153 rfl rfl ?_
        refine k_icmp_eq C X at_155 rfl (tpc := 160) rfl (fun _ => ?_) (fun hc => (absurd hc (by decide) : False).elim)
        refine k_iload C X at_160 rfl rfl ?_
        refine k_iconst C X at_162 rfl (v := 1) rfl ?_
        refine k_icmp_lt C X at_163 rfl (tpc := 179) rfl (fun hc => (absurd hc (by decide) : False).elim) (fun _ => ?_)
        refine k_aload C X at_166 rfl rfl rfl ?_
        refine k_iconst C X at_168 rfl (v := 0) rfl ?_
        replace X := X.bring (i := 1) rfl (M := (f29, own_ar Z .byte [(.int (nar .byte (((nar .char ca) >>> ((0) &&& 31 : Int32) : Int32).toInt8.toInt32))), (.int (nar .byte (((nar .char ca) >>> ((8) &&& 31 : Int32) : Int32).toInt8.toInt32))), (.int (nar .byte (((nar .char cb) >>> ((0) &&& 31 : Int32) : Int32).toInt8.toInt32))), (.int (nar .byte (((nar .char cb) >>> ((8) &&& 31 : Int32) : Int32).toInt8.toInt32))), (.int (nar .byte (((nar .char cc) >>> ((0) &&& 31 : Int32) : Int32).toInt8.toInt32))), (.int (nar .byte (((nar .char cc) >>> ((8) &&& 31 : Int32) : Int32).toInt8.toInt32)))]) :: (o93, own_ob Z "java/lang/String" [("value", "[B", (.ref f29)), ("coder", "B", (.int (1)))]) :: (f31, own_ob Z "com/example/cradle/cradle/Origin" [("file", "Ljava/nio/file/Path;", .null), ("line", "I", (.int (0))), ("description", "Ljava/lang/String;", (.ref o93))]) :: (o98, own_ar Z .char [(.int (nar .char ca)), (.int (nar .char cb)), (.int (nar .char cc))]) :: (f30, own_ar Z .byte [(.int (nar .byte (nar .char ca).toInt8.toInt32)), (.int 0), (.int 0)]) :: Gw32) rfl
        replace X := X.bring (i := 1) rfl (M := (o93, own_ob Z "java/lang/String" [("value", "[B", (.ref f29)), ("coder", "B", (.int (1)))]) :: (f29, own_ar Z .byte [(.int (nar .byte (((nar .char ca) >>> ((0) &&& 31 : Int32) : Int32).toInt8.toInt32))), (.int (nar .byte (((nar .char ca) >>> ((8) &&& 31 : Int32) : Int32).toInt8.toInt32))), (.int (nar .byte (((nar .char cb) >>> ((0) &&& 31 : Int32) : Int32).toInt8.toInt32))), (.int (nar .byte (((nar .char cb) >>> ((8) &&& 31 : Int32) : Int32).toInt8.toInt32))), (.int (nar .byte (((nar .char cc) >>> ((0) &&& 31 : Int32) : Int32).toInt8.toInt32))), (.int (nar .byte (((nar .char cc) >>> ((8) &&& 31 : Int32) : Int32).toInt8.toInt32)))]) :: (f31, own_ob Z "com/example/cradle/cradle/Origin" [("file", "Ljava/nio/file/Path;", .null), ("line", "I", (.int (0))), ("description", "Ljava/lang/String;", (.ref o93))]) :: (o98, own_ar Z .char [(.int (nar .char ca)), (.int (nar .char cb)), (.int (nar .char cc))]) :: (f30, own_ar Z .byte [(.int (nar .byte (nar .char ca).toInt8.toInt32)), (.int 0), (.int 0)]) :: Gw32) rfl
        refine k_virtual C X at_169 rfl (hw _ (List.mem_of_getElem? (i := 76) rfl)) (hw _ (List.mem_of_getElem? (i := 77) rfl)) (hw _ (List.mem_of_getElem? (i := 3) rfl)) (hw _ (List.mem_of_getElem? (i := 80) rfl)) (hw _ (List.mem_of_getElem? (i := 79) rfl)) (hw _ (List.mem_of_getElem? (i := 78) rfl)) (by decide) (own_nf C.2.2.2.1 (hw _ (List.mem_of_getElem? (i := 79) rfl))) (own_eL (ix := 0) rfl) (own_cha310 l Z a0 hw o93 f29 (nar .byte (((nar .char ca) >>> ((0) &&& 31 : Int32) : Int32).toInt8.toInt32)) (nar .byte (((nar .char ca) >>> ((8) &&& 31 : Int32) : Int32).toInt8.toInt32)) (nar .byte (((nar .char cb) >>> ((0) &&& 31 : Int32) : Int32).toInt8.toInt32)) (nar .byte (((nar .char cb) >>> ((8) &&& 31 : Int32) : Int32).toInt8.toInt32)) (nar .byte (((nar .char cc) >>> ((0) &&& 31 : Int32) : Int32).toInt8.toInt32)) (nar .byte (((nar .char cc) >>> ((8) &&& 31 : Int32) : Int32).toInt8.toInt32)) cs fm hS hcs hAD hHI hLO hFM hfc ((f31, own_ob Z "com/example/cradle/cradle/Origin" [("file", "Ljava/nio/file/Path;", .null), ("line", "I", (.int (0))), ("description", "Ljava/lang/String;", (.ref o93))]) :: (o98, own_ar Z .char [(.int (nar .char ca)), (.int (nar .char cb)), (.int (nar .char cc))]) :: (f30, own_ar Z .byte [(.int (nar .byte (nar .char ca).toInt8.toInt32)), (.int 0), (.int 0)]) :: Gw32)) (W := 0) (argsL := [(.int (0))]) (rest := []) rfl rfl rfl own_pd20 rfl (Nat.le_of_eq rfl) (by decide) (by decide) (by decide) (by decide) (fun v T M hQ X => ?_)
        obtain ⟨rfl, rfl⟩ := hQ
        refine k_iload C X at_172 rfl rfl ?_
        refine k_icmp_eq C X at_174 rfl (tpc := 179) rfl (fun _ => ?_) (fun hc => (hc ((own_u16 (own_chn _)).trans (own_chs hca)) : False).elim)
        refine k_iload C X at_179 rfl rfl ?_
        refine k_iconst C X at_181 rfl (v := 2) rfl ?_
        refine k_icmp_lt C X at_182 rfl (tpc := 198) rfl (fun hc => (absurd hc (by decide) : False).elim) (fun _ => ?_)
        refine k_aload C X at_185 rfl rfl rfl ?_
        refine k_iconst C X at_187 rfl (v := 1) rfl ?_
        replace X := X.bring (i := 1) rfl (M := (o93, own_ob Z "java/lang/String" [("value", "[B", (.ref f29)), ("coder", "B", (.int (1)))]) :: (f29, own_ar Z .byte [(.int (nar .byte (((nar .char ca) >>> ((0) &&& 31 : Int32) : Int32).toInt8.toInt32))), (.int (nar .byte (((nar .char ca) >>> ((8) &&& 31 : Int32) : Int32).toInt8.toInt32))), (.int (nar .byte (((nar .char cb) >>> ((0) &&& 31 : Int32) : Int32).toInt8.toInt32))), (.int (nar .byte (((nar .char cb) >>> ((8) &&& 31 : Int32) : Int32).toInt8.toInt32))), (.int (nar .byte (((nar .char cc) >>> ((0) &&& 31 : Int32) : Int32).toInt8.toInt32))), (.int (nar .byte (((nar .char cc) >>> ((8) &&& 31 : Int32) : Int32).toInt8.toInt32)))]) :: (f31, own_ob Z "com/example/cradle/cradle/Origin" [("file", "Ljava/nio/file/Path;", .null), ("line", "I", (.int (0))), ("description", "Ljava/lang/String;", (.ref o93))]) :: (o98, own_ar Z .char [(.int (nar .char ca)), (.int (nar .char cb)), (.int (nar .char cc))]) :: (f30, own_ar Z .byte [(.int (nar .byte (nar .char ca).toInt8.toInt32)), (.int 0), (.int 0)]) :: Gw32) rfl
        refine k_virtual C X at_188 rfl (hw _ (List.mem_of_getElem? (i := 76) rfl)) (hw _ (List.mem_of_getElem? (i := 77) rfl)) (hw _ (List.mem_of_getElem? (i := 3) rfl)) (hw _ (List.mem_of_getElem? (i := 80) rfl)) (hw _ (List.mem_of_getElem? (i := 79) rfl)) (hw _ (List.mem_of_getElem? (i := 78) rfl)) (by decide) (own_nf C.2.2.2.1 (hw _ (List.mem_of_getElem? (i := 79) rfl))) (own_eL (ix := 0) rfl) (own_cha311 l Z a0 hw o93 f29 (nar .byte (((nar .char ca) >>> ((0) &&& 31 : Int32) : Int32).toInt8.toInt32)) (nar .byte (((nar .char ca) >>> ((8) &&& 31 : Int32) : Int32).toInt8.toInt32)) (nar .byte (((nar .char cb) >>> ((0) &&& 31 : Int32) : Int32).toInt8.toInt32)) (nar .byte (((nar .char cb) >>> ((8) &&& 31 : Int32) : Int32).toInt8.toInt32)) (nar .byte (((nar .char cc) >>> ((0) &&& 31 : Int32) : Int32).toInt8.toInt32)) (nar .byte (((nar .char cc) >>> ((8) &&& 31 : Int32) : Int32).toInt8.toInt32)) cs fm hS hcs hAD hHI hLO hFM hfc ((f31, own_ob Z "com/example/cradle/cradle/Origin" [("file", "Ljava/nio/file/Path;", .null), ("line", "I", (.int (0))), ("description", "Ljava/lang/String;", (.ref o93))]) :: (o98, own_ar Z .char [(.int (nar .char ca)), (.int (nar .char cb)), (.int (nar .char cc))]) :: (f30, own_ar Z .byte [(.int (nar .byte (nar .char ca).toInt8.toInt32)), (.int 0), (.int 0)]) :: Gw32)) (W := 0) (argsL := [(.int (1))]) (rest := []) rfl rfl rfl own_pd20 rfl (Nat.le_of_eq rfl) (by decide) (by decide) (by decide) (by decide) (fun v T M hQ X => ?_)
        obtain ⟨rfl, rfl⟩ := hQ
        refine k_iload C X at_191 rfl rfl ?_
        refine k_icmp_eq C X at_193 rfl (tpc := 198) rfl (fun _ => ?_) (fun hc => (hc ((own_u16 (own_chn _)).trans (own_chs hcb)) : False).elim)
        refine k_iload C X at_198 rfl rfl ?_
        refine k_iconst C X at_200 rfl (v := 3) rfl ?_
        refine k_icmp_lt C X at_201 rfl (tpc := 217) rfl (fun hc => (absurd hc (by decide) : False).elim) (fun _ => ?_)
        refine k_aload C X at_204 rfl rfl rfl ?_
        refine k_iconst C X at_206 rfl (v := 2) rfl ?_
        replace X := X.bring (i := 1) rfl (M := (o93, own_ob Z "java/lang/String" [("value", "[B", (.ref f29)), ("coder", "B", (.int (1)))]) :: (f29, own_ar Z .byte [(.int (nar .byte (((nar .char ca) >>> ((0) &&& 31 : Int32) : Int32).toInt8.toInt32))), (.int (nar .byte (((nar .char ca) >>> ((8) &&& 31 : Int32) : Int32).toInt8.toInt32))), (.int (nar .byte (((nar .char cb) >>> ((0) &&& 31 : Int32) : Int32).toInt8.toInt32))), (.int (nar .byte (((nar .char cb) >>> ((8) &&& 31 : Int32) : Int32).toInt8.toInt32))), (.int (nar .byte (((nar .char cc) >>> ((0) &&& 31 : Int32) : Int32).toInt8.toInt32))), (.int (nar .byte (((nar .char cc) >>> ((8) &&& 31 : Int32) : Int32).toInt8.toInt32)))]) :: (f31, own_ob Z "com/example/cradle/cradle/Origin" [("file", "Ljava/nio/file/Path;", .null), ("line", "I", (.int (0))), ("description", "Ljava/lang/String;", (.ref o93))]) :: (o98, own_ar Z .char [(.int (nar .char ca)), (.int (nar .char cb)), (.int (nar .char cc))]) :: (f30, own_ar Z .byte [(.int (nar .byte (nar .char ca).toInt8.toInt32)), (.int 0), (.int 0)]) :: Gw32) rfl
        refine k_virtual C X at_207 rfl (hw _ (List.mem_of_getElem? (i := 76) rfl)) (hw _ (List.mem_of_getElem? (i := 77) rfl)) (hw _ (List.mem_of_getElem? (i := 3) rfl)) (hw _ (List.mem_of_getElem? (i := 80) rfl)) (hw _ (List.mem_of_getElem? (i := 79) rfl)) (hw _ (List.mem_of_getElem? (i := 78) rfl)) (by decide) (own_nf C.2.2.2.1 (hw _ (List.mem_of_getElem? (i := 79) rfl))) (own_eL (ix := 0) rfl) (own_cha312 l Z a0 hw o93 f29 (nar .byte (((nar .char ca) >>> ((0) &&& 31 : Int32) : Int32).toInt8.toInt32)) (nar .byte (((nar .char ca) >>> ((8) &&& 31 : Int32) : Int32).toInt8.toInt32)) (nar .byte (((nar .char cb) >>> ((0) &&& 31 : Int32) : Int32).toInt8.toInt32)) (nar .byte (((nar .char cb) >>> ((8) &&& 31 : Int32) : Int32).toInt8.toInt32)) (nar .byte (((nar .char cc) >>> ((0) &&& 31 : Int32) : Int32).toInt8.toInt32)) (nar .byte (((nar .char cc) >>> ((8) &&& 31 : Int32) : Int32).toInt8.toInt32)) cs fm hS hcs hAD hHI hLO hFM hfc ((f31, own_ob Z "com/example/cradle/cradle/Origin" [("file", "Ljava/nio/file/Path;", .null), ("line", "I", (.int (0))), ("description", "Ljava/lang/String;", (.ref o93))]) :: (o98, own_ar Z .char [(.int (nar .char ca)), (.int (nar .char cb)), (.int (nar .char cc))]) :: (f30, own_ar Z .byte [(.int (nar .byte (nar .char ca).toInt8.toInt32)), (.int 0), (.int 0)]) :: Gw32)) (W := 0) (argsL := [(.int (2))]) (rest := []) rfl rfl rfl own_pd20 rfl (Nat.le_of_eq rfl) (by decide) (by decide) (by decide) (by decide) (fun v T M hQ X => ?_)
        obtain ⟨rfl, rfl⟩ := hQ
        refine k_iload C X at_210 rfl rfl ?_
        refine k_icmp_eq C X at_212 rfl (tpc := 217) rfl (fun _ => ?_) (fun hc => (hc ((own_u16 (own_chn _)).trans (own_chs hcc)) : False).elim)
        refine k_aload C X at_217 rfl rfl rfl ?_
        refine k_aload C X at_219 rfl rfl rfl ?_
        refine k_virtual C X at_221 rfl (hw _ (List.mem_of_getElem? (i := 61) rfl)) (hw _ (List.mem_of_getElem? (i := 62) rfl)) (hw _ (List.mem_of_getElem? (i := 3) rfl)) (hw _ (List.mem_of_getElem? (i := 65) rfl)) (hw _ (List.mem_of_getElem? (i := 64) rfl)) (hw _ (List.mem_of_getElem? (i := 63) rfl)) (by decide) (own_nf C.2.2.2.1 (hw _ (List.mem_of_getElem? (i := 64) rfl))) (own_eL (ix := 1) rfl) (own_eqs l Z a0 hw o93 cs fm hS hcs hAD hHI hLO hFM hfc ((f29, own_ar Z .byte [(.int (nar .byte (((nar .char ca) >>> ((0) &&& 31 : Int32) : Int32).toInt8.toInt32))), (.int (nar .byte (((nar .char ca) >>> ((8) &&& 31 : Int32) : Int32).toInt8.toInt32))), (.int (nar .byte (((nar .char cb) >>> ((0) &&& 31 : Int32) : Int32).toInt8.toInt32))), (.int (nar .byte (((nar .char cb) >>> ((8) &&& 31 : Int32) : Int32).toInt8.toInt32))), (.int (nar .byte (((nar .char cc) >>> ((0) &&& 31 : Int32) : Int32).toInt8.toInt32))), (.int (nar .byte (((nar .char cc) >>> ((8) &&& 31 : Int32) : Int32).toInt8.toInt32)))]) :: (o93, own_ob Z "java/lang/String" [("value", "[B", (.ref f29)), ("coder", "B", (.int (1)))]) :: (f31, own_ob Z "com/example/cradle/cradle/Origin" [("file", "Ljava/nio/file/Path;", .null), ("line", "I", (.int (0))), ("description", "Ljava/lang/String;", (.ref o93))]) :: (o98, own_ar Z .char [(.int (nar .char ca)), (.int (nar .char cb)), (.int (nar .char cc))]) :: (f30, own_ar Z .byte [(.int (nar .byte (nar .char ca).toInt8.toInt32)), (.int 0), (.int 0)]) :: Gw32)) (W := 0) (argsL := [(.ref o93)]) (rest := []) rfl rfl rfl own_pd9 rfl (Nat.le_of_eq rfl) (by decide) (by decide) (by decide) (by decide) (fun v T M hQ X => ?_)
        obtain ⟨rfl, rfl⟩ := hQ
        exact k_ireturnW (M := ([(f29, own_ar Z .byte [(.int (nar .byte (((nar .char ca) >>> ((0) &&& 31 : Int32) : Int32).toInt8.toInt32))), (.int (nar .byte (((nar .char ca) >>> ((8) &&& 31 : Int32) : Int32).toInt8.toInt32))), (.int (nar .byte (((nar .char cb) >>> ((0) &&& 31 : Int32) : Int32).toInt8.toInt32))), (.int (nar .byte (((nar .char cb) >>> ((8) &&& 31 : Int32) : Int32).toInt8.toInt32))), (.int (nar .byte (((nar .char cc) >>> ((0) &&& 31 : Int32) : Int32).toInt8.toInt32))), (.int (nar .byte (((nar .char cc) >>> ((8) &&& 31 : Int32) : Int32).toInt8.toInt32)))]), (o93, own_ob Z "java/lang/String" [("value", "[B", (.ref f29)), ("coder", "B", (.int (1)))]), (f31, own_ob Z "com/example/cradle/cradle/Origin" [("file", "Ljava/nio/file/Path;", .null), ("line", "I", (.int (0))), ("description", "Ljava/lang/String;", (.ref o93))]), (o98, own_ar Z .char [(.int (nar .char ca)), (.int (nar .char cb)), (.int (nar .char cc))]), (f30, own_ar Z .byte [(.int (nar .byte (nar .char ca).toInt8.toInt32)), (.int 0), (.int 0)])])) (G := Gw32) C X rfl Ww32 at_224 (by simp) rfl rfl (by decide) (by decide)
      · skip
        by_cases hg2 : (255) < (nar .char cc)
        · skip
          refine k_iload C X at_26 rfl rfl ?_
          refine k_if_ne C X at_28 rfl (tpc := 46) rfl (fun _ => ?_) (fun hc => (absurd hc (by decide) : False).elim)
          refine k_iload C X at_46 rfl rfl ?_
          refine k_iconst C X at_48 rfl (v := 1) rfl ?_
          refine k_icmp_ne C X at_49 rfl (tpc := 62) rfl (fun _ => ?_) (fun hc => (absurd hc (by decide) : False).elim)
          refine k_iload C X at_62 rfl rfl ?_
          refine k_iconst C X at_64 rfl (v := 2) rfl ?_
          refine k_icmp_ne C X at_65 rfl (tpc := 93) rfl (fun _ => ?_) (fun hc => (absurd hc (by decide) : False).elim)
          refine k_new C X at_93 rfl (hw _ (List.mem_of_getElem? (i := 1) rfl)) (hw _ (List.mem_of_getElem? (i := 2) rfl)) (hw _ (List.mem_of_getElem? (i := 3) rfl)) (own_lay_String hw) (fs := [("value", "[B", .null), ("coder", "B", (.int (0)))]) rfl (by decide) (by decide) (fun T o93 X => ?_)
          refine k_dup C X at_96 rfl rfl ?_
          refine k_iconst C X at_97 rfl (v := 3) rfl ?_
          refine k_newarray C X at_98 rfl (ty := .char) rfl (hw _ (List.mem_of_getElem? (i := 4) rfl)) (by decide) (cap := 3) (by decide) (by decide) (by decide) (by decide) (vs := [(.int 0), (.int 0), (.int 0)]) rfl (fun T o98 X => ?_)
          refine k_dup C X at_100 rfl rfl ?_
          refine k_iconst C X at_101 rfl (v := 0) rfl ?_
          refine k_iload C X at_102 rfl rfl ?_
          refine k_castore C X at_104 rfl (ix := 0) (i := 0) rfl (by decide) (by decide) (Nat.le_of_ble_eq_true rfl) (vs' := [(.int (nar .char ca)), (.int 0), (.int 0)]) rfl (L' := [(o98, own_ar Z .char [(.int (nar .char ca)), (.int 0), (.int 0)]), (o93, own_ob Z "java/lang/String" [("value", "[B", .null), ("coder", "B", (.int (0)))])]) rfl (fun T X => ?_)
          refine k_dup C X at_105 rfl rfl ?_
          refine k_iconst C X at_106 rfl (v := 1) rfl ?_
          refine k_iload C X at_107 rfl rfl ?_
          refine k_castore C X at_109 rfl (ix := 0) (i := 1) rfl (by decide) (by decide) (Nat.le_of_ble_eq_true rfl) (vs' := [(.int (nar .char ca)), (.int (nar .char cb)), (.int 0)]) rfl (L' := [(o98, own_ar Z .char [(.int (nar .char ca)), (.int (nar .char cb)), (.int 0)]), (o93, own_ob Z "java/lang/String" [("value", "[B", .null), ("coder", "B", (.int (0)))])]) rfl (fun T X => ?_)
          refine k_dup C X at_110 rfl rfl ?_
          refine k_iconst C X at_111 rfl (v := 2) rfl ?_
          refine k_iload C X at_112 rfl rfl ?_
          refine k_castore C X at_114 rfl (ix := 0) (i := 2) rfl (by decide) (by decide) (Nat.le_of_ble_eq_true rfl) (vs' := [(.int (nar .char ca)), (.int (nar .char cb)), (.int (nar .char cc))]) rfl (L' := [(o98, own_ar Z .char [(.int (nar .char ca)), (.int (nar .char cb)), (.int (nar .char cc))]), (o93, own_ob Z "java/lang/String" [("value", "[B", .null), ("coder", "B", (.int (0)))])]) rfl (fun T X => ?_)
          replace X := X.bring (i := 1) rfl (M := [(o93, own_ob Z "java/lang/String" [("value", "[B", .null), ("coder", "B", (.int (0)))]), (o98, own_ar Z .char [(.int (nar .char ca)), (.int (nar .char cb)), (.int (nar .char cc))])]) rfl
          refine k_init C X at_115 rfl rfl (hw _ (List.mem_of_getElem? (i := 5) rfl)) (hw _ (List.mem_of_getElem? (i := 6) rfl)) (hw _ (List.mem_of_getElem? (i := 3) rfl)) (hw _ (List.mem_of_getElem? (i := 7) rfl)) (by decide) (own_si1_32 l Z a0 hw o93 o98 (nar .char ca) (nar .char cb) (nar .char cc) cs fm hS hcs hAD hHI hLO hFM hfc (own_chn _) (own_chn _) (own_chn _) hg0 hg1 hg2 ([])) (W := 1) (argsL := [(.ref o98)]) (rest := [(.ref o93)]) rfl rfl rfl own_pd5 rfl (Nat.le_of_eq rfl) (by decide) (by decide) (by decide) (by decide) (fun v T M hQ X => ?_)
          obtain ⟨f33, f34, rfl, rfl⟩ := hQ
          refine k_astore C X at_118 rfl rfl (l' := #[.val (.int x0), .val (.int x1), .val (.int x2), .val (.int x3), .val (.int (3)), .val (.int ca), .val (.int cb), .val (.int cc), .val (.ref o93), .unset, .unset]) rfl ?_
          refine k_aload C X at_120 rfl rfl rfl ?_
          replace X := X.bring (i := 3) rfl (M := [(o93, own_ob Z "java/lang/String" [("value", "[B", (.ref f33)), ("coder", "B", (.int (1)))]), (f33, own_ar Z .byte [(.int (nar .byte (((nar .char ca) >>> ((0) &&& 31 : Int32) : Int32).toInt8.toInt32))), (.int (nar .byte (((nar .char ca) >>> ((8) &&& 31 : Int32) : Int32).toInt8.toInt32))), (.int (nar .byte (((nar .char cb) >>> ((0) &&& 31 : Int32) : Int32).toInt8.toInt32))), (.int (nar .byte (((nar .char cb) >>> ((8) &&& 31 : Int32) : Int32).toInt8.toInt32))), (.int (nar .byte (((nar .char cc) >>> ((0) &&& 31 : Int32) : Int32).toInt8.toInt32))), (.int (nar .byte (((nar .char cc) >>> ((8) &&& 31 : Int32) : Int32).toInt8.toInt32)))]), (o98, own_ar Z .char [(.int (nar .char ca)), (.int (nar .char cb)), (.int (nar .char cc))]), (f34, own_ar Z .byte [(.int (nar .byte (nar .char ca).toInt8.toInt32)), (.int (nar .byte (nar .char cb).toInt8.toInt32)), (.int 0)])]) rfl
          refine k_staticW (vm0 := s.vm) (G := []) C X own_W.start (fun _ _ => trivial) at_122 rfl (hw _ (List.mem_of_getElem? (i := 23) rfl)) (hw _ (List.mem_of_getElem? (i := 24) rfl)) (hw _ (List.mem_of_getElem? (i := 25) rfl)) (hw _ (List.mem_of_getElem? (i := 26) rfl)) (by decide) (own_oof l Z a0 hw o93 f33 (1) cs fm hS hcs hAD hHI hLO hFM hfc ([(f33, own_ar Z .byte [(.int (nar .byte (((nar .char ca) >>> ((0) &&& 31 : Int32) : Int32).toInt8.toInt32))), (.int (nar .byte (((nar .char ca) >>> ((8) &&& 31 : Int32) : Int32).toInt8.toInt32))), (.int (nar .byte (((nar .char cb) >>> ((0) &&& 31 : Int32) : Int32).toInt8.toInt32))), (.int (nar .byte (((nar .char cb) >>> ((8) &&& 31 : Int32) : Int32).toInt8.toInt32))), (.int (nar .byte (((nar .char cc) >>> ((0) &&& 31 : Int32) : Int32).toInt8.toInt32))), (.int (nar .byte (((nar .char cc) >>> ((8) &&& 31 : Int32) : Int32).toInt8.toInt32)))]), (o98, own_ar Z .char [(.int (nar .char ca)), (.int (nar .char cb)), (.int (nar .char cc))]), (f34, own_ar Z .byte [(.int (nar .byte (nar .char ca).toInt8.toInt32)), (.int (nar .byte (nar .char cb).toInt8.toInt32)), (.int 0)])])) (W := 0) (argsL := [(.ref o93)]) (rest := []) rfl rfl rfl own_pd6 rfl (Nat.le_of_eq rfl) (by decide) (by decide) (by decide) (by decide) (fun v T M vmw36 Gw36 hQ C Ww36 X => ?_)
          replace Ww36 : own_W s vmw36 Gw36 := Ww36
          obtain ⟨f35, rfl, rfl⟩ := hQ
          replace X : own_S p l e room_1 (s.setVm vmw36) m #[(.int x0), (.int x1), (.int x2), (.int x3)] below meth c Z T ((f35, own_ob Z "com/example/cradle/cradle/Origin" [("file", "Ljava/nio/file/Path;", .null), ("line", "I", (.int (0))), ("description", "Ljava/lang/String;", (.ref o93))]) :: (o93, own_ob Z "java/lang/String" [("value", "[B", (.ref f33)), ("coder", "B", (.int (1)))]) :: (f33, own_ar Z .byte [(.int (nar .byte (((nar .char ca) >>> ((0) &&& 31 : Int32) : Int32).toInt8.toInt32))), (.int (nar .byte (((nar .char ca) >>> ((8) &&& 31 : Int32) : Int32).toInt8.toInt32))), (.int (nar .byte (((nar .char cb) >>> ((0) &&& 31 : Int32) : Int32).toInt8.toInt32))), (.int (nar .byte (((nar .char cb) >>> ((8) &&& 31 : Int32) : Int32).toInt8.toInt32))), (.int (nar .byte (((nar .char cc) >>> ((0) &&& 31 : Int32) : Int32).toInt8.toInt32))), (.int (nar .byte (((nar .char cc) >>> ((8) &&& 31 : Int32) : Int32).toInt8.toInt32)))]) :: (o98, own_ar Z .char [(.int (nar .char ca)), (.int (nar .char cb)), (.int (nar .char cc))]) :: (f34, own_ar Z .byte [(.int (nar .byte (nar .char ca).toInt8.toInt32)), (.int (nar .byte (nar .char cb).toInt8.toInt32)), (.int 0)]) :: Gw36) 7 47 := X
          refine k_astore C X at_125 rfl rfl (l' := #[.val (.int x0), .val (.int x1), .val (.int x2), .val (.int x3), .val (.int (3)), .val (.int ca), .val (.int cb), .val (.int cc), .val (.ref o93), .val (.ref f35), .unset]) rfl ?_
          refine k_aload C X at_127 rfl rfl rfl ?_
          refine k_ifnonnull_y C X at_129 (tpc := 134) rfl ?_
          refine k_aload C X at_134 rfl rfl rfl ?_
          refine k_virtual C X at_136 rfl (hw _ (List.mem_of_getElem? (i := 45) rfl)) (hw _ (List.mem_of_getElem? (i := 46) rfl)) (hw _ (List.mem_of_getElem? (i := 25) rfl)) (hw _ (List.mem_of_getElem? (i := 49) rfl)) (hw _ (List.mem_of_getElem? (i := 48) rfl)) (hw _ (List.mem_of_getElem? (i := 47) rfl)) (by decide) (own_nf C.2.2.2.1 (hw _ (List.mem_of_getElem? (i := 48) rfl))) (own_eL (ix := 0) rfl) (own_ots l Z a0 hw f35 o93 cs fm hS hcs hAD hHI hLO hFM hfc ((o93, own_ob Z "java/lang/String" [("value", "[B", (.ref f33)), ("coder", "B", (.int (1)))]) :: (f33, own_ar Z .byte [(.int (nar .byte (((nar .char ca) >>> ((0) &&& 31 : Int32) : Int32).toInt8.toInt32))), (.int (nar .byte (((nar .char ca) >>> ((8) &&& 31 : Int32) : Int32).toInt8.toInt32))), (.int (nar .byte (((nar .char cb) >>> ((0) &&& 31 : Int32) : Int32).toInt8.toInt32))), (.int (nar .byte (((nar .char cb) >>> ((8) &&& 31 : Int32) : Int32).toInt8.toInt32))), (.int (nar .byte (((nar .char cc) >>> ((0) &&& 31 : Int32) : Int32).toInt8.toInt32))), (.int (nar .byte (((nar .char cc) >>> ((8) &&& 31 : Int32) : Int32).toInt8.toInt32)))]) :: (o98, own_ar Z .char [(.int (nar .char ca)), (.int (nar .char cb)), (.int (nar .char cc))]) :: (f34, own_ar Z .byte [(.int (nar .byte (nar .char ca).toInt8.toInt32)), (.int (nar .byte (nar .char cb).toInt8.toInt32)), (.int 0)]) :: Gw36)) (W := 0) (argsL := []) (rest := []) rfl rfl rfl own_pd7 rfl (Nat.le_of_eq rfl) (by decide) (by decide) (by decide) (by decide) (fun v T M hQ X => ?_)
          obtain ⟨rfl, rfl⟩ := hQ
          refine k_astore C X at_139 rfl rfl (l' := #[.val (.int x0), .val (.int x1), .val (.int x2), .val (.int x3), .val (.int (3)), .val (.int ca), .val (.int cb), .val (.int cc), .val (.ref o93), .val (.ref f35), .val (.ref o93)]) rfl ?_
          refine k_aload C X at_141 rfl rfl rfl ?_
          refine k_ifnonnull_y C X at_143 (tpc := 148) rfl ?_
          refine k_aload C X at_148 rfl rfl rfl ?_
          replace X := X.bring (i := 2) rfl (M := (f33, own_ar Z .byte [(.int (nar .byte (((nar .char ca) >>> ((0) &&& 31 : Int32) : Int32).toInt8.toInt32))), (.int (nar .byte (((nar .char ca) >>> ((8) &&& 31 : Int32) : Int32).toInt8.toInt32))), (.int (nar .byte (((nar .char cb) >>> ((0) &&& 31 : Int32) : Int32).toInt8.toInt32))), (.int (nar .byte (((nar .char cb) >>> ((8) &&& 31 : Int32) : Int32).toInt8.toInt32))), (.int (nar .byte (((nar .char cc) >>> ((0) &&& 31 : Int32) : Int32).toInt8.toInt32))), (.int (nar .byte (((nar .char cc) >>> ((8) &&& 31 : Int32) : Int32).toInt8.toInt32)))]) :: (f35, own_ob Z "com/example/cradle/cradle/Origin" [("file", "Ljava/nio/file/Path;", .null), ("line", "I", (.int (0))), ("description", "Ljava/lang/String;", (.ref o93))]) :: (o93, own_ob Z "java/lang/String" [("value", "[B", (.ref f33)), ("coder", "B", (.int (1)))]) :: (o98, own_ar Z .char [(.int (nar .char ca)), (.int (nar .char cb)), (.int (nar .char cc))]) :: (f34, own_ar Z .byte [(.int (nar .byte (nar .char ca).toInt8.toInt32)), (.int (nar .byte (nar .char cb).toInt8.toInt32)), (.int 0)]) :: Gw36) rfl
          replace X := X.bring (i := 2) rfl (M := (o93, own_ob Z "java/lang/String" [("value", "[B", (.ref f33)), ("coder", "B", (.int (1)))]) :: (f33, own_ar Z .byte [(.int (nar .byte (((nar .char ca) >>> ((0) &&& 31 : Int32) : Int32).toInt8.toInt32))), (.int (nar .byte (((nar .char ca) >>> ((8) &&& 31 : Int32) : Int32).toInt8.toInt32))), (.int (nar .byte (((nar .char cb) >>> ((0) &&& 31 : Int32) : Int32).toInt8.toInt32))), (.int (nar .byte (((nar .char cb) >>> ((8) &&& 31 : Int32) : Int32).toInt8.toInt32))), (.int (nar .byte (((nar .char cc) >>> ((0) &&& 31 : Int32) : Int32).toInt8.toInt32))), (.int (nar .byte (((nar .char cc) >>> ((8) &&& 31 : Int32) : Int32).toInt8.toInt32)))]) :: (f35, own_ob Z "com/example/cradle/cradle/Origin" [("file", "Ljava/nio/file/Path;", .null), ("line", "I", (.int (0))), ("description", "Ljava/lang/String;", (.ref o93))]) :: (o98, own_ar Z .char [(.int (nar .char ca)), (.int (nar .char cb)), (.int (nar .char cc))]) :: (f34, own_ar Z .byte [(.int (nar .byte (nar .char ca).toInt8.toInt32)), (.int (nar .byte (nar .char cb).toInt8.toInt32)), (.int 0)]) :: Gw36) rfl
          refine k_virtual C X at_150 rfl (hw _ (List.mem_of_getElem? (i := 50) rfl)) (hw _ (List.mem_of_getElem? (i := 51) rfl)) (hw _ (List.mem_of_getElem? (i := 3) rfl)) (hw _ (List.mem_of_getElem? (i := 54) rfl)) (hw _ (List.mem_of_getElem? (i := 53) rfl)) (hw _ (List.mem_of_getElem? (i := 52) rfl)) (by decide) (own_nf C.2.2.2.1 (hw _ (List.mem_of_getElem? (i := 53) rfl))) (own_eL (ix := 0) rfl) (own_len31 l Z a0 hw o93 f33 (nar .byte (((nar .char ca) >>> ((0) &&& 31 : Int32) : Int32).toInt8.toInt32)) (nar .byte (((nar .char ca) >>> ((8) &&& 31 : Int32) : Int32).toInt8.toInt32)) (nar .byte (((nar .char cb) >>> ((0) &&& 31 : Int32) : Int32).toInt8.toInt32)) (nar .byte (((nar .char cb) >>> ((8) &&& 31 : Int32) : Int32).toInt8.toInt32)) (nar .byte (((nar .char cc) >>> ((0) &&& 31 : Int32) : Int32).toInt8.toInt32)) (nar .byte (((nar .char cc) >>> ((8) &&& 31 : Int32) : Int32).toInt8.toInt32)) cs fm hS hcs hAD hHI hLO hFM hfc ((f35, own_ob Z "com/example/cradle/cradle/Origin" [("file", "Ljava/nio/file/Path;", .null), ("line", "I", (.int (0))), ("description", "Ljava/lang/String;", (.ref o93))]) :: (o98, own_ar Z .char [(.int (nar .char ca)), (.int (nar .char cb)), (.int (nar .char cc))]) :: (f34, own_ar Z .byte [(.int (nar .byte (nar .char ca).toInt8.toInt32)), (.int (nar .byte (nar .char cb).toInt8.toInt32)), (.int 0)]) :: Gw36)) (W := 0) (argsL := []) (rest := []) rfl rfl rfl own_pd8 rfl (Nat.le_of_eq rfl) (by decide) (by decide) (by decide) (by decide) (fun v T M hQ X => ?_)
          obtain ⟨rfl, rfl⟩ := hQ
          refine k_iload C X at_153 rfl rfl ?_
          refine k_icmp_eq C X at_155 rfl (tpc := 160) rfl (fun _ => ?_) (fun hc => (absurd hc (by decide) : False).elim)
          refine k_iload C X at_160 rfl rfl ?_
          refine k_iconst C X at_162 rfl (v := 1) rfl ?_
          refine k_icmp_lt C X at_163 rfl (tpc := 179) rfl (fun hc => (absurd hc (by decide) : False).elim) (fun _ => ?_)
          refine k_aload C X at_166 rfl rfl rfl ?_
          refine k_iconst C X at_168 rfl (v := 0) rfl ?_
          replace X := X.bring (i := 1) rfl (M := (f33, own_ar Z .byte [(.int (nar .byte (((nar .char ca) >>> ((0) &&& 31 : Int32) : Int32).toInt8.toInt32))), (.int (nar .byte (((nar .char ca) >>> ((8) &&& 31 : Int32) : Int32).toInt8.toInt32))), (.int (nar .byte (((nar .char cb) >>> ((0) &&& 31 : Int32) : Int32).toInt8.toInt32))), (.int (nar .byte (((nar .char cb) >>> ((8) &&& 31 : Int32) : Int32).toInt8.toInt32))), (.int (nar .byte (((nar .char cc) >>> ((0) &&& 31 : Int32) : Int32).toInt8.toInt32))), (.int (nar .byte (((nar .char cc) >>> ((8) &&& 31 : Int32) : Int32).toInt8.toInt32)))]) :: (o93, own_ob Z "java/lang/String" [("value", "[B", (.ref f33)), ("coder", "B", (.int (1)))]) :: (f35, own_ob Z "com/example/cradle/cradle/Origin" [("file", "Ljava/nio/file/Path;", .null), ("line", "I", (.int (0))), ("description", "Ljava/lang/String;", (.ref o93))]) :: (o98, own_ar Z .char [(.int (nar .char ca)), (.int (nar .char cb)), (.int (nar .char cc))]) :: (f34, own_ar Z .byte [(.int (nar .byte (nar .char ca).toInt8.toInt32)), (.int (nar .byte (nar .char cb).toInt8.toInt32)), (.int 0)]) :: Gw36) rfl
          replace X := X.bring (i := 1) rfl (M := (o93, own_ob Z "java/lang/String" [("value", "[B", (.ref f33)), ("coder", "B", (.int (1)))]) :: (f33, own_ar Z .byte [(.int (nar .byte (((nar .char ca) >>> ((0) &&& 31 : Int32) : Int32).toInt8.toInt32))), (.int (nar .byte (((nar .char ca) >>> ((8) &&& 31 : Int32) : Int32).toInt8.toInt32))), (.int (nar .byte (((nar .char cb) >>> ((0) &&& 31 : Int32) : Int32).toInt8.toInt32))), (.int (nar .byte (((nar .char cb) >>> ((8) &&& 31 : Int32) : Int32).toInt8.toInt32))), (.int (nar .byte (((nar .char cc) >>> ((0) &&& 31 : Int32) : Int32).toInt8.toInt32))), (.int (nar .byte (((nar .char cc) >>> ((8) &&& 31 : Int32) : Int32).toInt8.toInt32)))]) :: (f35, own_ob Z "com/example/cradle/cradle/Origin" [("file", "Ljava/nio/file/Path;", .null), ("line", "I", (.int (0))), ("description", "Ljava/lang/String;", (.ref o93))]) :: (o98, own_ar Z .char [(.int (nar .char ca)), (.int (nar .char cb)), (.int (nar .char cc))]) :: (f34, own_ar Z .byte [(.int (nar .byte (nar .char ca).toInt8.toInt32)), (.int (nar .byte (nar .char cb).toInt8.toInt32)), (.int 0)]) :: Gw36) rfl
          refine k_virtual C X at_169 rfl (hw _ (List.mem_of_getElem? (i := 76) rfl)) (hw _ (List.mem_of_getElem? (i := 77) rfl)) (hw _ (List.mem_of_getElem? (i := 3) rfl)) (hw _ (List.mem_of_getElem? (i := 80) rfl)) (hw _ (List.mem_of_getElem? (i := 79) rfl)) (hw _ (List.mem_of_getElem? (i := 78) rfl)) (by decide) (own_nf C.2.2.2.1 (hw _ (List.mem_of_getElem? (i := 79) rfl))) (own_eL (ix := 0) rfl) (own_cha310 l Z a0 hw o93 f33 (nar .byte (((nar .char ca) >>> ((0) &&& 31 : Int32) : Int32).toInt8.toInt32)) (nar .byte (((nar .char ca) >>> ((8) &&& 31 : Int32) : Int32).toInt8.toInt32)) (nar .byte (((nar .char cb) >>> ((0) &&& 31 : Int32) : Int32).toInt8.toInt32)) (nar .byte (((nar .char cb) >>> ((8) &&& 31 : Int32) : Int32).toInt8.toInt32)) (nar .byte (((nar .char cc) >>> ((0) &&& 31 : Int32) : Int32).toInt8.toInt32)) (nar .byte (((nar .char cc) >>> ((8) &&& 31 : Int32) : Int32).toInt8.toInt32)) cs fm hS hcs hAD hHI hLO hFM hfc ((f35, own_ob Z "com/example/cradle/cradle/Origin" [("file", "Ljava/nio/file/Path;", .null), ("line", "I", (.int (0))), ("description", "Ljava/lang/String;", (.ref o93))]) :: (o98, own_ar Z .char [(.int (nar .char ca)), (.int (nar .char cb)), (.int (nar .char cc))]) :: (f34, own_ar Z .byte [(.int (nar .byte (nar .char ca).toInt8.toInt32)), (.int (nar .byte (nar .char cb).toInt8.toInt32)), (.int 0)]) :: Gw36)) (W := 0) (argsL := [(.int (0))]) (rest := []) rfl rfl rfl own_pd20 rfl (Nat.le_of_eq rfl) (by decide) (by decide) (by decide) (by decide) (fun v T M hQ X => ?_)
          obtain ⟨rfl, rfl⟩ := hQ
          refine k_iload C X at_172 rfl rfl ?_
          refine k_icmp_eq C X at_174 rfl (tpc := 179) rfl (fun _ => ?_) (fun hc => (hc ((own_u16 (own_chn _)).trans (own_chs hca)) : False).elim)
          refine k_iload C X at_179 rfl rfl ?_
          refine k_iconst C X at_181 rfl (v := 2) rfl ?_
          refine k_icmp_lt C X at_182 rfl (tpc := 198) rfl (fun hc => (absurd hc (by decide) : False).elim) (fun _ => ?_)
          refine k_aload C X at_185 rfl rfl rfl ?_
          refine k_iconst C X at_187 rfl (v := 1) rfl ?_
          replace X := X.bring (i := 1) rfl (M := (o93, own_ob Z "java/lang/String" [("value", "[B", (.ref f33)), ("coder", "B", (.int (1)))]) :: (f33, own_ar Z .byte [(.int (nar .byte (((nar .char ca) >>> ((0) &&& 31 : Int32) : Int32).toInt8.toInt32))), (.int (nar .byte (((nar .char ca) >>> ((8) &&& 31 : Int32) : Int32).toInt8.toInt32))), (.int (nar .byte (((nar .char cb) >>> ((0) &&& 31 : Int32) : Int32).toInt8.toInt32))), (.int (nar .byte (((nar .char cb) >>> ((8) &&& 31 : Int32) : Int32).toInt8.toInt32))), (.int (nar .byte (((nar .char cc) >>> ((0) &&& 31 : Int32) : Int32).toInt8.toInt32))), (.int (nar .byte (((nar .char cc) >>> ((8) &&& 31 : Int32) : Int32).toInt8.toInt32)))]) :: (f35, own_ob Z "com/example/cradle/cradle/Origin" [("file", "Ljava/nio/file/Path;", .null), ("line", "I", (.int (0))), ("description", "Ljava/lang/String;", (.ref o93))]) :: (o98, own_ar Z .char [(.int (nar .char ca)), (.int (nar .char cb)), (.int (nar .char cc))]) :: (f34, own_ar Z .byte [(.int (nar .byte (nar .char ca).toInt8.toInt32)), (.int (nar .byte (nar .char cb).toInt8.toInt32)), (.int 0)]) :: Gw36) rfl
          refine k_virtual C X at_188 rfl (hw _ (List.mem_of_getElem? (i := 76) rfl)) (hw _ (List.mem_of_getElem? (i := 77) rfl)) (hw _ (List.mem_of_getElem? (i := 3) rfl)) (hw _ (List.mem_of_getElem? (i := 80) rfl)) (hw _ (List.mem_of_getElem? (i := 79) rfl)) (hw _ (List.mem_of_getElem? (i := 78) rfl)) (by decide) (own_nf C.2.2.2.1 (hw _ (List.mem_of_getElem? (i := 79) rfl))) (own_eL (ix := 0) rfl) (own_cha311 l Z a0 hw o93 f33 (nar .byte (((nar .char ca) >>> ((0) &&& 31 : Int32) : Int32).toInt8.toInt32)) (nar .byte (((nar .char ca) >>> ((8) &&& 31 : Int32) : Int32).toInt8.toInt32)) (nar .byte (((nar .char cb) >>> ((0) &&& 31 : Int32) : Int32).toInt8.toInt32)) (nar .byte (((nar .char cb) >>> ((8) &&& 31 : Int32) : Int32).toInt8.toInt32)) (nar .byte (((nar .char cc) >>> ((0) &&& 31 : Int32) : Int32).toInt8.toInt32)) (nar .byte (((nar .char cc) >>> ((8) &&& 31 : Int32) : Int32).toInt8.toInt32)) cs fm hS hcs hAD hHI hLO hFM hfc ((f35, own_ob Z "com/example/cradle/cradle/Origin" [("file", "Ljava/nio/file/Path;", .null), ("line", "I", (.int (0))), ("description", "Ljava/lang/String;", (.ref o93))]) :: (o98, own_ar Z .char [(.int (nar .char ca)), (.int (nar .char cb)), (.int (nar .char cc))]) :: (f34, own_ar Z .byte [(.int (nar .byte (nar .char ca).toInt8.toInt32)), (.int (nar .byte (nar .char cb).toInt8.toInt32)), (.int 0)]) :: Gw36)) (W := 0) (argsL := [(.int (1))]) (rest := []) rfl rfl rfl own_pd20 rfl (Nat.le_of_eq rfl) (by decide) (by decide) (by decide) (by decide) (fun v T M hQ X => ?_)
          obtain ⟨rfl, rfl⟩ := hQ
          refine k_iload C X at_191 rfl rfl ?_
          refine k_icmp_eq C X at_193 rfl (tpc := 198) rfl (fun _ => ?_) (fun hc => (hc ((own_u16 (own_chn _)).trans (own_chs hcb)) : False).elim)
          refine k_iload C X at_198 rfl rfl ?_
          refine k_iconst C X at_200 rfl (v := 3) rfl ?_
          refine k_icmp_lt C X at_201 rfl (tpc := 217) rfl (fun hc => (absurd hc (by decide) : False).elim) (fun _ => ?_)
          refine k_aload C X at_204 rfl rfl rfl ?_
          refine k_iconst C X at_206 rfl (v := 2) rfl ?_
          replace X := X.bring (i := 1) rfl (M := (o93, own_ob Z "java/lang/String" [("value", "[B", (.ref f33)), ("coder", "B", (.int (1)))]) :: (f33, own_ar Z .byte [(.int (nar .byte (((nar .char ca) >>> ((0) &&& 31 : Int32) : Int32).toInt8.toInt32))), (.int (nar .byte (((nar .char ca) >>> ((8) &&& 31 : Int32) : Int32).toInt8.toInt32))), (.int (nar .byte (((nar .char cb) >>> ((0) &&& 31 : Int32) : Int32).toInt8.toInt32))), (.int (nar .byte (((nar .char cb) >>> ((8) &&& 31 : Int32) : Int32).toInt8.toInt32))), (.int (nar .byte (((nar .char cc) >>> ((0) &&& 31 : Int32) : Int32).toInt8.toInt32))), (.int (nar .byte (((nar .char cc) >>> ((8) &&& 31 : Int32) : Int32).toInt8.toInt32)))]) :: (f35, own_ob Z "com/example/cradle/cradle/Origin" [("file", "Ljava/nio/file/Path;", .null), ("line", "I", (.int (0))), ("description", "Ljava/lang/String;", (.ref o93))]) :: (o98, own_ar Z .char [(.int (nar .char ca)), (.int (nar .char cb)), (.int (nar .char cc))]) :: (f34, own_ar Z .byte [(.int (nar .byte (nar .char ca).toInt8.toInt32)), (.int (nar .byte (nar .char cb).toInt8.toInt32)), (.int 0)]) :: Gw36) rfl
          refine k_virtual C X at_207 rfl (hw _ (List.mem_of_getElem? (i := 76) rfl)) (hw _ (List.mem_of_getElem? (i := 77) rfl)) (hw _ (List.mem_of_getElem? (i := 3) rfl)) (hw _ (List.mem_of_getElem? (i := 80) rfl)) (hw _ (List.mem_of_getElem? (i := 79) rfl)) (hw _ (List.mem_of_getElem? (i := 78) rfl)) (by decide) (own_nf C.2.2.2.1 (hw _ (List.mem_of_getElem? (i := 79) rfl))) (own_eL (ix := 0) rfl) (own_cha312 l Z a0 hw o93 f33 (nar .byte (((nar .char ca) >>> ((0) &&& 31 : Int32) : Int32).toInt8.toInt32)) (nar .byte (((nar .char ca) >>> ((8) &&& 31 : Int32) : Int32).toInt8.toInt32)) (nar .byte (((nar .char cb) >>> ((0) &&& 31 : Int32) : Int32).toInt8.toInt32)) (nar .byte (((nar .char cb) >>> ((8) &&& 31 : Int32) : Int32).toInt8.toInt32)) (nar .byte (((nar .char cc) >>> ((0) &&& 31 : Int32) : Int32).toInt8.toInt32)) (nar .byte (((nar .char cc) >>> ((8) &&& 31 : Int32) : Int32).toInt8.toInt32)) cs fm hS hcs hAD hHI hLO hFM hfc ((f35, own_ob Z "com/example/cradle/cradle/Origin" [("file", "Ljava/nio/file/Path;", .null), ("line", "I", (.int (0))), ("description", "Ljava/lang/String;", (.ref o93))]) :: (o98, own_ar Z .char [(.int (nar .char ca)), (.int (nar .char cb)), (.int (nar .char cc))]) :: (f34, own_ar Z .byte [(.int (nar .byte (nar .char ca).toInt8.toInt32)), (.int (nar .byte (nar .char cb).toInt8.toInt32)), (.int 0)]) :: Gw36)) (W := 0) (argsL := [(.int (2))]) (rest := []) rfl rfl rfl own_pd20 rfl (Nat.le_of_eq rfl) (by decide) (by decide) (by decide) (by decide) (fun v T M hQ X => ?_)
          obtain ⟨rfl, rfl⟩ := hQ
          refine k_iload C X at_210 rfl rfl ?_
          refine k_icmp_eq C X at_212 rfl (tpc := 217) rfl (fun _ => ?_) (fun hc => (hc ((own_u16 (own_chn _)).trans (own_chs hcc)) : False).elim)
          refine k_aload C X at_217 rfl rfl rfl ?_
          refine k_aload C X at_219 rfl rfl rfl ?_
          refine k_virtual C X at_221 rfl (hw _ (List.mem_of_getElem? (i := 61) rfl)) (hw _ (List.mem_of_getElem? (i := 62) rfl)) (hw _ (List.mem_of_getElem? (i := 3) rfl)) (hw _ (List.mem_of_getElem? (i := 65) rfl)) (hw _ (List.mem_of_getElem? (i := 64) rfl)) (hw _ (List.mem_of_getElem? (i := 63) rfl)) (by decide) (own_nf C.2.2.2.1 (hw _ (List.mem_of_getElem? (i := 64) rfl))) (own_eL (ix := 1) rfl) (own_eqs l Z a0 hw o93 cs fm hS hcs hAD hHI hLO hFM hfc ((f33, own_ar Z .byte [(.int (nar .byte (((nar .char ca) >>> ((0) &&& 31 : Int32) : Int32).toInt8.toInt32))), (.int (nar .byte (((nar .char ca) >>> ((8) &&& 31 : Int32) : Int32).toInt8.toInt32))), (.int (nar .byte (((nar .char cb) >>> ((0) &&& 31 : Int32) : Int32).toInt8.toInt32))), (.int (nar .byte (((nar .char cb) >>> ((8) &&& 31 : Int32) : Int32).toInt8.toInt32))), (.int (nar .byte (((nar .char cc) >>> ((0) &&& 31 : Int32) : Int32).toInt8.toInt32))), (.int (nar .byte (((nar .char cc) >>> ((8) &&& 31 : Int32) : Int32).toInt8.toInt32)))]) :: (o93, own_ob Z "java/lang/String" [("value", "[B", (.ref f33)), ("coder", "B", (.int (1)))]) :: (f35, own_ob Z "com/example/cradle/cradle/Origin" [("file", "Ljava/nio/file/Path;", .null), ("line", "I", (.int (0))), ("description", "Ljava/lang/String;", (.ref o93))]) :: (o98, own_ar Z .char [(.int (nar .char ca)), (.int (nar .char cb)), (.int (nar .char cc))]) :: (f34, own_ar Z .byte [(.int (nar .byte (nar .char ca).toInt8.toInt32)), (.int (nar .byte (nar .char cb).toInt8.toInt32)), (.int 0)]) :: Gw36)) (W := 0) (argsL := [(.ref o93)]) (rest := []) rfl rfl rfl own_pd9 rfl (Nat.le_of_eq rfl) (by decide) (by decide) (by decide) (by decide) (fun v T M hQ X => ?_)
          obtain ⟨rfl, rfl⟩ := hQ
          exact k_ireturnW (M := ([(f33, own_ar Z .byte [(.int (nar .byte (((nar .char ca) >>> ((0) &&& 31 : Int32) : Int32).toInt8.toInt32))), (.int (nar .byte (((nar .char ca) >>> ((8) &&& 31 : Int32) : Int32).toInt8.toInt32))), (.int (nar .byte (((nar .char cb) >>> ((0) &&& 31 : Int32) : Int32).toInt8.toInt32))), (.int (nar .byte (((nar .char cb) >>> ((8) &&& 31 : Int32) : Int32).toInt8.toInt32))), (.int (nar .byte (((nar .char cc) >>> ((0) &&& 31 : Int32) : Int32).toInt8.toInt32))), (.int (nar .byte (((nar .char cc) >>> ((8) &&& 31 : Int32) : Int32).toInt8.toInt32)))]), (o93, own_ob Z "java/lang/String" [("value", "[B", (.ref f33)), ("coder", "B", (.int (1)))]), (f35, own_ob Z "com/example/cradle/cradle/Origin" [("file", "Ljava/nio/file/Path;", .null), ("line", "I", (.int (0))), ("description", "Ljava/lang/String;", (.ref o93))]), (o98, own_ar Z .char [(.int (nar .char ca)), (.int (nar .char cb)), (.int (nar .char cc))]), (f34, own_ar Z .byte [(.int (nar .byte (nar .char ca).toInt8.toInt32)), (.int (nar .byte (nar .char cb).toInt8.toInt32)), (.int 0)])])) (G := Gw36) C X rfl Ww36 at_224 (by simp) rfl rfl (by decide) (by decide)
        · skip
          refine k_iload C X at_26 rfl rfl ?_
          refine k_if_ne C X at_28 rfl (tpc := 46) rfl (fun _ => ?_) (fun hc => (absurd hc (by decide) : False).elim)
          refine k_iload C X at_46 rfl rfl ?_
          refine k_iconst C X at_48 rfl (v := 1) rfl ?_
          refine k_icmp_ne C X at_49 rfl (tpc := 62) rfl (fun _ => ?_) (fun hc => (absurd hc (by decide) : False).elim)
          refine k_iload C X at_62 rfl rfl ?_
          refine k_iconst C X at_64 rfl (v := 2) rfl ?_
          refine k_icmp_ne C X at_65 rfl (tpc := 93) rfl (fun _ => ?_) (fun hc => (absurd hc (by decide) : False).elim)
          refine k_new C X at_93 rfl (hw _ (List.mem_of_getElem? (i := 1) rfl)) (hw _ (List.mem_of_getElem? (i := 2) rfl)) (hw _ (List.mem_of_getElem? (i := 3) rfl)) (own_lay_String hw) (fs := [("value", "[B", .null), ("coder", "B", (.int (0)))]) rfl (by decide) (by decide) (fun T o93 X => ?_)
          refine k_dup C X at_96 rfl rfl ?_
          refine k_iconst C X at_97 rfl (v := 3) rfl ?_
          refine k_newarray C X at_98 rfl (ty := .char) rfl (hw _ (List.mem_of_getElem? (i := 4) rfl)) (by decide) (cap := 3) (by decide) (by decide) (by decide) (by decide) (vs := [(.int 0), (.int 0), (.int 0)]) rfl (fun T o98 X => ?_)
          refine k_dup C X at_100 rfl rfl ?_
          refine k_iconst C X at_101 rfl (v := 0) rfl ?_
          refine k_iload C X at_102 rfl rfl ?_
          refine k_castore C X at_104 rfl (ix := 0) (i := 0) rfl (by decide) (by decide) (Nat.le_of_ble_eq_true rfl) (vs' := [(.int (nar .char ca)), (.int 0), (.int 0)]) rfl (L' := [(o98, own_ar Z .char [(.int (nar .char ca)), (.int 0), (.int 0)]), (o93, own_ob Z "java/lang/String" [("value", "[B", .null), ("coder", "B", (.int (0)))])]) rfl (fun T X => ?_)
          refine k_dup C X at_105 rfl rfl ?_
          refine k_iconst C X at_106 rfl (v := 1) rfl ?_
          refine k_iload C X at_107 rfl rfl ?_
          refine k_castore C X at_109 rfl (ix := 0) (i := 1) rfl (by decide) (by decide) (Nat.le_of_ble_eq_true rfl) (vs' := [(.int (nar .char ca)), (.int (nar .char cb)), (.int 0)]) rfl (L' := [(o98, own_ar Z .char [(.int (nar .char ca)), (.int (nar .char cb)), (.int 0)]), (o93, own_ob Z "java/lang/String" [("value", "[B", .null), ("coder", "B", (.int (0)))])]) rfl (fun T X => ?_)
          refine k_dup C X at_110 rfl rfl ?_
          refine k_iconst C X at_111 rfl (v := 2) rfl ?_
          refine k_iload C X at_112 rfl rfl ?_
          refine k_castore C X at_114 rfl (ix := 0) (i := 2) rfl (by decide) (by decide) (Nat.le_of_ble_eq_true rfl) (vs' := [(.int (nar .char ca)), (.int (nar .char cb)), (.int (nar .char cc))]) rfl (L' := [(o98, own_ar Z .char [(.int (nar .char ca)), (.int (nar .char cb)), (.int (nar .char cc))]), (o93, own_ob Z "java/lang/String" [("value", "[B", .null), ("coder", "B", (.int (0)))])]) rfl (fun T X => ?_)
          replace X := X.bring (i := 1) rfl (M := [(o93, own_ob Z "java/lang/String" [("value", "[B", .null), ("coder", "B", (.int (0)))]), (o98, own_ar Z .char [(.int (nar .char ca)), (.int (nar .char cb)), (.int (nar .char cc))])]) rfl
          refine k_init C X at_115 rfl rfl (hw _ (List.mem_of_getElem? (i := 5) rfl)) (hw _ (List.mem_of_getElem? (i := 6) rfl)) (hw _ (List.mem_of_getElem? (i := 3) rfl)) (hw _ (List.mem_of_getElem? (i := 7) rfl)) (by decide) (own_si1_33 l Z a0 hw o93 o98 (nar .char ca) (nar .char cb) (nar .char cc) cs fm hS hcs hAD hHI hLO hFM hfc (own_chn _) (own_chn _) (own_chn _) hg0 hg1 hg2 ([])) (W := 1) (argsL := [(.ref o98)]) (rest := [(.ref o93)]) rfl rfl rfl own_pd5 rfl (Nat.le_of_eq rfl) (by decide) (by decide) (by decide) (by decide) (fun v T M hQ X => ?_)
          obtain ⟨f37, rfl, rfl⟩ := hQ
          refine k_astore C X at_118 rfl rfl (l' := #[.val (.int x0), .val (.int x1), .val (.int x2), .val (.int x3), .val (.int (3)), .val (.int ca), .val (.int cb), .val (.int cc), .val (.ref o93), .unset, .unset]) rfl ?_
          refine k_aload C X at_120 rfl rfl rfl ?_
          replace X := X.bring (i := 2) rfl (M := [(o93, own_ob Z "java/lang/String" [("value", "[B", (.ref f37)), ("coder", "B", (.int (0)))]), (f37, own_ar Z .byte [(.int (nar .byte (nar .char ca).toInt8.toInt32)), (.int (nar .byte (nar .char cb).toInt8.toInt32)), (.int (nar .byte (nar .char cc).toInt8.toInt32))]), (o98, own_ar Z .char [(.int (nar .char ca)), (.int (nar .char cb)), (.int (nar .char cc))])]) rfl
          refine k_staticW (vm0 := s.vm) (G := []) C X own_W.start (fun _ _ => trivial) at_122 rfl (hw _ (List.mem_of_getElem? (i := 23) rfl)) (hw _ (List.mem_of_getElem? (i := 24) rfl)) (hw _ (List.mem_of_getElem? (i := 25) rfl)) (hw _ (List.mem_of_getElem? (i := 26) rfl)) (by decide) (own_oof l Z a0 hw o93 f37 (0) cs fm hS hcs hAD hHI hLO hFM hfc ([(f37, own_ar Z .byte [(.int (nar .byte (nar .char ca).toInt8.toInt32)), (.int (nar .byte (nar .char cb).toInt8.toInt32)), (.int (nar .byte (nar .char cc).toInt8.toInt32))]), (o98, own_ar Z .char [(.int (nar .char ca)), (.int (nar .char cb)), (.int (nar .char cc))])])) (W := 0) (argsL := [(.ref o93)]) (rest := []) rfl rfl rfl own_pd6 rfl (Nat.le_of_eq rfl) (by decide) (by decide) (by decide) (by decide) (fun v T M vmw39 Gw39 hQ C Ww39 X => ?_)
          replace Ww39 : own_W s vmw39 Gw39 := Ww39
          obtain ⟨f38, rfl, rfl⟩ := hQ
          replace X : own_S p l e room_1 (s.setVm vmw39) m #[(.int x0), (.int x1), (.int x2), (.int x3)] below meth c Z T ((f38, own_ob Z "com/example/cradle/cradle/Origin" [("file", "Ljava/nio/file/Path;", .null), ("line", "I", (.int (0))), ("description", "Ljava/lang/String;", (.ref o93))]) :: (o93, own_ob Z "java/lang/String" [("value", "[B", (.ref f37)), ("coder", "B", (.int (0)))]) :: (f37, own_ar Z .byte [(.int (nar .byte (nar .char ca).toInt8.toInt32)), (.int (nar .byte (nar .char cb).toInt8.toInt32)), (.int (nar .byte (nar .char cc).toInt8.toInt32))]) :: (o98, own_ar Z .char [(.int (nar .char ca)), (.int (nar .char cb)), (.int (nar .char cc))]) :: Gw39) 6 41 := X
          refine k_astore C X at_125 rfl rfl (l' := #[.val (.int x0), .val (.int x1), .val (.int x2), .val (.int x3), .val (.int (3)), .val (.int ca), .val (.int cb), .val (.int cc), .val (.ref o93), .val (.ref f38), .unset]) rfl ?_
          refine k_aload C X at_127 rfl rfl rfl ?_
          refine k_ifnonnull_y C X at_129 (tpc := 134) rfl ?_
          refine k_aload C X at_134 rfl rfl rfl ?_
          refine k_virtual C X at_136 rfl (hw _ (List.mem_of_getElem? (i := 45) rfl)) (hw _ (List.mem_of_getElem? (i := 46) rfl)) (hw _ (List.mem_of_getElem? (i := 25) rfl)) (hw _ (List.mem_of_getElem? (i := 49) rfl)) (hw _ (List.mem_of_getElem? (i := 48) rfl)) (hw _ (List.mem_of_getElem? (i := 47) rfl)) (by decide) (own_nf C.2.2.2.1 (hw _ (List.mem_of_getElem? (i := 48) rfl))) (own_eL (ix := 0) rfl) (own_ots l Z a0 hw f38 o93 cs fm hS hcs hAD hHI hLO hFM hfc ((o93, own_ob Z "java/lang/String" [("value", "[B", (.ref f37)), ("coder", "B", (.int (0)))]) :: (f37, own_ar Z .byte [(.int (nar .byte (nar .char ca).toInt8.toInt32)), (.int (nar .byte (nar .char cb).toInt8.toInt32)), (.int (nar .byte (nar .char cc).toInt8.toInt32))]) :: (o98, own_ar Z .char [(.int (nar .char ca)), (.int (nar .char cb)), (.int (nar .char cc))]) :: Gw39)) (W := 0) (argsL := []) (rest := []) rfl rfl rfl own_pd7 rfl (Nat.le_of_eq rfl) (by decide) (by decide) (by decide) (by decide) (fun v T M hQ X => ?_)
          obtain ⟨rfl, rfl⟩ := hQ
          refine k_astore C X at_139 rfl rfl (l' := #[.val (.int x0), .val (.int x1), .val (.int x2), .val (.int x3), .val (.int (3)), .val (.int ca), .val (.int cb), .val (.int cc), .val (.ref o93), .val (.ref f38), .val (.ref o93)]) rfl ?_
          refine k_aload C X at_141 rfl rfl rfl ?_
          refine k_ifnonnull_y C X at_143 (tpc := 148) rfl ?_
          refine k_aload C X at_148 rfl rfl rfl ?_
          replace X := X.bring (i := 2) rfl (M := (f37, own_ar Z .byte [(.int (nar .byte (nar .char ca).toInt8.toInt32)), (.int (nar .byte (nar .char cb).toInt8.toInt32)), (.int (nar .byte (nar .char cc).toInt8.toInt32))]) :: (f38, own_ob Z "com/example/cradle/cradle/Origin" [("file", "Ljava/nio/file/Path;", .null), ("line", "I", (.int (0))), ("description", "Ljava/lang/String;", (.ref o93))]) :: (o93, own_ob Z "java/lang/String" [("value", "[B", (.ref f37)), ("coder", "B", (.int (0)))]) :: (o98, own_ar Z .char [(.int (nar .char ca)), (.int (nar .char cb)), (.int (nar .char cc))]) :: Gw39) rfl
          replace X := X.bring (i := 2) rfl (M := (o93, own_ob Z "java/lang/String" [("value", "[B", (.ref f37)), ("coder", "B", (.int (0)))]) :: (f37, own_ar Z .byte [(.int (nar .byte (nar .char ca).toInt8.toInt32)), (.int (nar .byte (nar .char cb).toInt8.toInt32)), (.int (nar .byte (nar .char cc).toInt8.toInt32))]) :: (f38, own_ob Z "com/example/cradle/cradle/Origin" [("file", "Ljava/nio/file/Path;", .null), ("line", "I", (.int (0))), ("description", "Ljava/lang/String;", (.ref o93))]) :: (o98, own_ar Z .char [(.int (nar .char ca)), (.int (nar .char cb)), (.int (nar .char cc))]) :: Gw39) rfl
          refine k_virtual C X at_150 rfl (hw _ (List.mem_of_getElem? (i := 50) rfl)) (hw _ (List.mem_of_getElem? (i := 51) rfl)) (hw _ (List.mem_of_getElem? (i := 3) rfl)) (hw _ (List.mem_of_getElem? (i := 54) rfl)) (hw _ (List.mem_of_getElem? (i := 53) rfl)) (hw _ (List.mem_of_getElem? (i := 52) rfl)) (by decide) (own_nf C.2.2.2.1 (hw _ (List.mem_of_getElem? (i := 53) rfl))) (own_eL (ix := 0) rfl) (own_len30 l Z a0 hw o93 f37 (nar .byte (nar .char ca).toInt8.toInt32) (nar .byte (nar .char cb).toInt8.toInt32) (nar .byte (nar .char cc).toInt8.toInt32) cs fm hS hcs hAD hHI hLO hFM hfc ((f38, own_ob Z "com/example/cradle/cradle/Origin" [("file", "Ljava/nio/file/Path;", .null), ("line", "I", (.int (0))), ("description", "Ljava/lang/String;", (.ref o93))]) :: (o98, own_ar Z .char [(.int (nar .char ca)), (.int (nar .char cb)), (.int (nar .char cc))]) :: Gw39)) (W := 0) (argsL := []) (rest := []) rfl rfl rfl own_pd8 rfl (Nat.le_of_eq rfl) (by decide) (by decide) (by decide) (by decide) (fun v T M hQ X => ?_)
          obtain ⟨rfl, rfl⟩ := hQ
          refine k_iload C X at_153 rfl rfl ?_
          refine k_icmp_eq C X at_155 rfl (tpc := 160) rfl (fun _ => ?_) (fun hc => (absurd hc (by decide) : False).elim)
          refine k_iload C X at_160 rfl rfl ?_
          refine k_iconst C X at_162 rfl (v := 1) rfl ?_
          refine k_icmp_lt C X at_163 rfl (tpc := 179) rfl (fun hc => (absurd hc (by decide) : False).elim) (fun _ => ?_)
          refine k_aload C X at_166 rfl rfl rfl ?_
          refine k_iconst C X at_168 rfl (v := 0) rfl ?_
          replace X := X.bring (i := 1) rfl (M := (f37, own_ar Z .byte [(.int (nar .byte (nar .char ca).toInt8.toInt32)), (.int (nar .byte (nar .char cb).toInt8.toInt32)), (.int (nar .byte (nar .char cc).toInt8.toInt32))]) :: (o93, own_ob Z "java/lang/String" [("value", "[B", (.ref f37)), ("coder", "B", (.int (0)))]) :: (f38, own_ob Z "com/example/cradle/cradle/Origin" [("file", "Ljava/nio/file/Path;", .null), ("line", "I", (.int (0))), ("description", "Ljava/lang/String;", (.ref o93))]) :: (o98, own_ar Z .char [(.int (nar .char ca)), (.int (nar .char cb)), (.int (nar .char cc))]) :: Gw39) rfl
          replace X := X.bring (i := 1) rfl (M := (o93, own_ob Z "java/lang/String" [("value", "[B", (.ref f37)), ("coder", "B", (.int (0)))]) :: (f37, own_ar Z .byte [(.int (nar .byte (nar .char ca).toInt8.toInt32)), (.int (nar .byte (nar .char cb).toInt8.toInt32)), (.int (nar .byte (nar .char cc).toInt8.toInt32))]) :: (f38, own_ob Z "com/example/cradle/cradle/Origin" [("file", "Ljava/nio/file/Path;", .null), ("line", "I", (.int (0))), ("description", "Ljava/lang/String;", (.ref o93))]) :: (o98, own_ar Z .char [(.int (nar .char ca)), (.int (nar .char cb)), (.int (nar .char cc))]) :: Gw39) rfl
          refine k_virtual C X at_169 rfl (hw _ (List.mem_of_getElem? (i := 76) rfl)) (hw _ (List.mem_of_getElem? (i := 77) rfl)) (hw _ (List.mem_of_getElem? (i := 3) rfl)) (hw _ (List.mem_of_getElem? (i := 80) rfl)) (hw _ (List.mem_of_getElem? (i := 79) rfl)) (hw _ (List.mem_of_getElem? (i := 78) rfl)) (by decide) (own_nf C.2.2.2.1 (hw _ (List.mem_of_getElem? (i := 79) rfl))) (own_eL (ix := 0) rfl) (own_cha300 l Z a0 hw o93 f37 (nar .byte (nar .char ca).toInt8.toInt32) (nar .byte (nar .char cb).toInt8.toInt32) (nar .byte (nar .char cc).toInt8.toInt32) cs fm hS hcs hAD hHI hLO hFM hfc ((f38, own_ob Z "com/example/cradle/cradle/Origin" [("file", "Ljava/nio/file/Path;", .null), ("line", "I", (.int (0))), ("description", "Ljava/lang/String;", (.ref o93))]) :: (o98, own_ar Z .char [(.int (nar .char ca)), (.int (nar .char cb)), (.int (nar .char cc))]) :: Gw39)) (W := 0) (argsL := [(.int (0))]) (rest := []) rfl rfl rfl own_pd20 rfl (Nat.le_of_eq rfl) (by decide) (by decide) (by decide) (by decide) (fun v T M hQ X => ?_)
          obtain ⟨rfl, rfl⟩ := hQ
          refine k_iload C X at_172 rfl rfl ?_
          refine k_icmp_eq C X at_174 rfl (tpc := 179) rfl (fun _ => ?_) (fun hc => (hc ((own_lat (own_chn _) hg0).trans (own_chs hca)) : False).elim)
          refine k_iload C X at_179 rfl rfl ?_
          refine k_iconst C X at_181 rfl (v := 2) rfl ?_
          refine k_icmp_lt C X at_182 rfl (tpc := 198) rfl (fun hc => (absurd hc (by decide) : False).elim) (fun _ => ?_)
          refine k_aload C X at_185 rfl rfl rfl ?_
          refine k_iconst C X at_187 rfl (v := 1) rfl ?_
          replace X := X.bring (i := 1) rfl (M := (o93, own_ob Z "java/lang/String" [("value", "[B", (.ref f37)), ("coder", "B", (.int (0)))]) :: (f37, own_ar Z .byte [(.int (nar .byte (nar .char ca).toInt8.toInt32)), (.int (nar .byte (nar .char cb).toInt8.toInt32)), (.int (nar .byte (nar .char cc).toInt8.toInt32))]) :: (f38, own_ob Z "com/example/cradle/cradle/Origin" [("file", "Ljava/nio/file/Path;", .null), ("line", "I", (.int (0))), ("description", "Ljava/lang/String;", (.ref o93))]) :: (o98, own_ar Z .char [(.int (nar .char ca)), (.int (nar .char cb)), (.int (nar .char cc))]) :: Gw39) rfl
          refine k_virtual C X at_188 rfl (hw _ (List.mem_of_getElem? (i := 76) rfl)) (hw _ (List.mem_of_getElem? (i := 77) rfl)) (hw _ (List.mem_of_getElem? (i := 3) rfl)) (hw _ (List.mem_of_getElem? (i := 80) rfl)) (hw _ (List.mem_of_getElem? (i := 79) rfl)) (hw _ (List.mem_of_getElem? (i := 78) rfl)) (by decide) (own_nf C.2.2.2.1 (hw _ (List.mem_of_getElem? (i := 79) rfl))) (own_eL (ix := 0) rfl) (own_cha301 l Z a0 hw o93 f37 (nar .byte (nar .char ca).toInt8.toInt32) (nar .byte (nar .char cb).toInt8.toInt32) (nar .byte (nar .char cc).toInt8.toInt32) cs fm hS hcs hAD hHI hLO hFM hfc ((f38, own_ob Z "com/example/cradle/cradle/Origin" [("file", "Ljava/nio/file/Path;", .null), ("line", "I", (.int (0))), ("description", "Ljava/lang/String;", (.ref o93))]) :: (o98, own_ar Z .char [(.int (nar .char ca)), (.int (nar .char cb)), (.int (nar .char cc))]) :: Gw39)) (W := 0) (argsL := [(.int (1))]) (rest := []) rfl rfl rfl own_pd20 rfl (Nat.le_of_eq rfl) (by decide) (by decide) (by decide) (by decide) (fun v T M hQ X => ?_)
          obtain ⟨rfl, rfl⟩ := hQ
          refine k_iload C X at_191 rfl rfl ?_
          refine k_icmp_eq C X at_193 rfl (tpc := 198) rfl (fun _ => ?_) (fun hc => (hc ((own_lat (own_chn _) hg1).trans (own_chs hcb)) : False).elim)
          refine k_iload C X at_198 rfl rfl ?_
          refine k_iconst C X at_200 rfl (v := 3) rfl ?_
          refine k_icmp_lt C X at_201 rfl (tpc := 217) rfl (fun hc => (absurd hc (by decide) : False).elim) (fun _ => ?_)
          refine k_aload C X at_204 rfl rfl rfl ?_
          refine k_iconst C X at_206 rfl (v := 2) rfl ?_
          replace X := X.bring (i := 1) rfl (M := (o93, own_ob Z "java/lang/String" [("value", "[B", (.ref f37)), ("coder", "B", (.int (0)))]) :: (f37, own_ar Z .byte [(.int (nar .byte (nar .char ca).toInt8.toInt32)), (.int (nar .byte (nar .char cb).toInt8.toInt32)), (.int (nar .byte (nar .char cc).toInt8.toInt32))]) :: (f38, own_ob Z "com/example/cradle/cradle/Origin" [("file", "Ljava/nio/file/Path;", .null), ("line", "I", (.int (0))), ("description", "Ljava/lang/String;", (.ref o93))]) :: (o98, own_ar Z .char [(.int (nar .char ca)), (.int (nar .char cb)), (.int (nar .char cc))]) :: Gw39) rfl
          refine k_virtual C X at_207 rfl (hw _ (List.mem_of_getElem? (i := 76) rfl)) (hw _ (List.mem_of_getElem? (i := 77) rfl)) (hw _ (List.mem_of_getElem? (i := 3) rfl)) (hw _ (List.mem_of_getElem? (i := 80) rfl)) (hw _ (List.mem_of_getElem? (i := 79) rfl)) (hw _ (List.mem_of_getElem? (i := 78) rfl)) (by decide) (own_nf C.2.2.2.1 (hw _ (List.mem_of_getElem? (i := 79) rfl))) (own_eL (ix := 0) rfl) (own_cha302 l Z a0 hw o93 f37 (nar .byte (nar .char ca).toInt8.toInt32) (nar .byte (nar .char cb).toInt8.toInt32) (nar .byte (nar .char cc).toInt8.toInt32) cs fm hS hcs hAD hHI hLO hFM hfc ((f38, own_ob Z "com/example/cradle/cradle/Origin" [("file", "Ljava/nio/file/Path;", .null), ("line", "I", (.int (0))), ("description", "Ljava/lang/String;", (.ref o93))]) :: (o98, own_ar Z .char [(.int (nar .char ca)), (.int (nar .char cb)), (.int (nar .char cc))]) :: Gw39)) (W := 0) (argsL := [(.int (2))]) (rest := []) rfl rfl rfl own_pd20 rfl (Nat.le_of_eq rfl) (by decide) (by decide) (by decide) (by decide) (fun v T M hQ X => ?_)
          obtain ⟨rfl, rfl⟩ := hQ
          refine k_iload C X at_210 rfl rfl ?_
          refine k_icmp_eq C X at_212 rfl (tpc := 217) rfl (fun _ => ?_) (fun hc => (hc ((own_lat (own_chn _) hg2).trans (own_chs hcc)) : False).elim)
          refine k_aload C X at_217 rfl rfl rfl ?_
          refine k_aload C X at_219 rfl rfl rfl ?_
          refine k_virtual C X at_221 rfl (hw _ (List.mem_of_getElem? (i := 61) rfl)) (hw _ (List.mem_of_getElem? (i := 62) rfl)) (hw _ (List.mem_of_getElem? (i := 3) rfl)) (hw _ (List.mem_of_getElem? (i := 65) rfl)) (hw _ (List.mem_of_getElem? (i := 64) rfl)) (hw _ (List.mem_of_getElem? (i := 63) rfl)) (by decide) (own_nf C.2.2.2.1 (hw _ (List.mem_of_getElem? (i := 64) rfl))) (own_eL (ix := 1) rfl) (own_eqs l Z a0 hw o93 cs fm hS hcs hAD hHI hLO hFM hfc ((f37, own_ar Z .byte [(.int (nar .byte (nar .char ca).toInt8.toInt32)), (.int (nar .byte (nar .char cb).toInt8.toInt32)), (.int (nar .byte (nar .char cc).toInt8.toInt32))]) :: (o93, own_ob Z "java/lang/String" [("value", "[B", (.ref f37)), ("coder", "B", (.int (0)))]) :: (f38, own_ob Z "com/example/cradle/cradle/Origin" [("file", "Ljava/nio/file/Path;", .null), ("line", "I", (.int (0))), ("description", "Ljava/lang/String;", (.ref o93))]) :: (o98, own_ar Z .char [(.int (nar .char ca)), (.int (nar .char cb)), (.int (nar .char cc))]) :: Gw39)) (W := 0) (argsL := [(.ref o93)]) (rest := []) rfl rfl rfl own_pd9 rfl (Nat.le_of_eq rfl) (by decide) (by decide) (by decide) (by decide) (fun v T M hQ X => ?_)
          obtain ⟨rfl, rfl⟩ := hQ
          exact k_ireturnW (M := ([(f37, own_ar Z .byte [(.int (nar .byte (nar .char ca).toInt8.toInt32)), (.int (nar .byte (nar .char cb).toInt8.toInt32)), (.int (nar .byte (nar .char cc).toInt8.toInt32))]), (o93, own_ob Z "java/lang/String" [("value", "[B", (.ref f37)), ("coder", "B", (.int (0)))]), (f38, own_ob Z "com/example/cradle/cradle/Origin" [("file", "Ljava/nio/file/Path;", .null), ("line", "I", (.int (0))), ("description", "Ljava/lang/String;", (.ref o93))]), (o98, own_ar Z .char [(.int (nar .char ca)), (.int (nar .char cb)), (.int (nar .char cc))])])) (G := Gw39) C X rfl Ww39 at_224 (by simp) rfl rfl (by decide) (by decide)
set_option maxRecDepth 65536 in
set_option maxHeartbeats 40000000 in
theorem comes_1 {Post : Tables → Env → Array Value → State → Outcome → State → Prop} (hpost : ∀ tb e args s v u, (limb_1_1.after args s (.returned v) u = true ∧ limb_1_2.after args s (.returned v) u = true ∧ True) → ReturnedEndW s (.returned v) u (Jvm.fieldLocs frame_1_writes args s ++ Jvm.arrayLocs frame_1_arrays args s ++ Jvm.staticLocs frame_1_statics s) 24 2176 → Post tb e args s (.returned v) u) :
    ArmFor flags0 classFile x code maxLocals ret World_1 tables_1 room_1 Calls_1 rest_1 Pre_1 Post := by
  intro l hfl _ _ p e ha hc hk s m args below hf hA hF happ hP
  obtain ⟨hcalls, hrest, hpre⟩ := hP
  obtain ⟨-, -, -, hnamed, -, -, -, hat⟩ := (Spec.applies_iff hf).mp happ
  obtain ⟨hg, hn⟩ := and_e (Cond.before_iff.mp (show (Jvm.Cond.and given_1 narrow_1).before args s = true from hpre))
  obtain ⟨hcount, hg⟩ := and_e hg
  obtain ⟨g0, hg⟩ := and_e hg
  obtain ⟨g1, hg⟩ := and_e hg
  obtain ⟨g2, hg⟩ := and_e hg
  have g3 := hg
  obtain ⟨w0, w1, w2, w3, rfl⟩ : ∃ w0 w1 w2 w3 : Value, args = #[w0, w1, w2, w3] := by
    have hs : args.size = 4 := by simpa [Cond.value, given_1] using hcount
    obtain ⟨L⟩ := args
    match L, hs with
    | [w0, w1, w2, w3], _ => exact ⟨w0, w1, w2, w3, rfl⟩
  have hw := fun d (hd : d ∈ tables_1) => atoms_spec (ws := Jvm.Cond.code x code maxLocals ret :: tables_1) hat d (List.mem_cons_of_mem _ hd)
  have hfit : Fit s := fun {y c} hc i hi => by
    obtain ⟨ha, rfl⟩ := Array.getElem?_eq_some_iff.mp hc
    have q := List.all_eq_true.mp ((Array.all_eq_true_iff_forall_mem.mp hF) _ (Array.getElem_mem ha)) i (List.mem_range.mpr hi)
    simpa [Array.getElem?_eq_getElem hi] using q
  obtain ⟨i0, e0⟩ := is_v g0
  obtain rfl : w0 = (.int i0) := Option.some.inj e0
  obtain ⟨i1, e1⟩ := is_v g1
  obtain rfl : w1 = (.int i1) := Option.some.inj e1
  obtain ⟨i2, e2⟩ := is_v g2
  obtain rfl : w2 = (.int i2) := Option.some.inj e2
  obtain ⟨i3, e3⟩ := is_v g3
  obtain rfl : w3 = (.int i3) := Option.some.inj e3
  have hr := Cond.before_iff.mp (show rest_1_c.before _ s = true from hrest)
  obtain ⟨r0, hr⟩ := and_e hr
  obtain ⟨r1, hr⟩ := and_e hr
  obtain ⟨r2, hr⟩ := and_e hr
  obtain ⟨r3, hr⟩ := and_e hr
  obtain ⟨r4, hr⟩ := and_e hr
  obtain ⟨r5, hr⟩ := and_e hr
  obtain ⟨r6, hr⟩ := and_e hr
  obtain ⟨r7, hr⟩ := and_e hr
  obtain ⟨r8, hr⟩ := and_e hr
  obtain ⟨r9, hr⟩ := and_e hr
  obtain ⟨r10, hr⟩ := and_e hr
  obtain ⟨r11, hr⟩ := and_e hr
  obtain ⟨r12, hr⟩ := and_e hr
  obtain ⟨r13, hr⟩ := and_e hr
  obtain ⟨r14, hr⟩ := and_e hr
  obtain ⟨r15, hr⟩ := and_e hr
  obtain ⟨r16, hr⟩ := and_e hr
  obtain ⟨r17, hr⟩ := and_e hr
  obtain ⟨r18, hr⟩ := and_e hr
  obtain ⟨cs, ecs⟩ := is_v r1
  have hS := Sta.start ecs (Or.inl (Cond.before_iff.mpr r0))
  have hcs : ¬ cs = 0 := own_neq ecs r2
  have hAD := Sta.start (eqv_i (F := Term.int 1) rfl r12) (Or.inl (Cond.before_iff.mpr r11))
  have hHI := Sta.start (eqv_i (F := Term.int 0) rfl r15) (Or.inl (Cond.before_iff.mpr r14))
  have hLO := Sta.start (eqv_i (F := Term.int 8) rfl r18) (Or.inl (Cond.before_iff.mpr r17))
  obtain ⟨fm, efm, hfr⟩ := isR_v r8
  have hFM := Sta.start efm (Or.inl (Cond.before_iff.mpr r7))
  have hfc := own_rcat hfr
  have hEL : EW s #[(.int i0), (.int i1), (.int i2), (.int i3)] [("java/lang/String", 7)] := EW.cons (text := "") (hw _ (List.mem_of_getElem? (i := 15) rfl)) (fun c hc => by simp at hc) EW.nil
  have H0 := CHv.start hEL (fun p hp => by obtain rfl := List.mem_singleton.mp hp; exact (show Jvm.Lit.constHeld s "java/lang/String" 7 from hcalls.1 ("java/lang/String", 7) (by simp [consts_1]))) (Cond.before_iff.mpr r2) (hw _ (List.mem_of_getElem? (i := 16) rfl)) (hw _ (List.mem_of_getElem? (i := 2) rfl))
  have hH : own_H s.heap s.heap [] := ⟨⟨Nat.le_refl _, fun _ _ q => q⟩, fun _ q => (nomatch q), List.nodup_nil⟩
  obtain ⟨n, o, h1, h2, h3, v, M, G, L, rfl, rfl, -, -, N, hq⟩ := (own_law l s _ hw i0 i1 i2 i3 cs fm hS hcs hAD hHI hLO hFM hfc hEL H0) tables_1 p e ha hc hk s m _ below hf ((Spec.applies_iff_loose hf).mp happ).1 ⟨rfl, State.Warmed39.refl s, hH, rfl⟩ trivial
  refine ⟨n, _, h1, h2, h3, hpost _ _ _ _ _ _ ⟨Cond.after_iff.mpr rfl, Cond.after_iff.mpr (eq_i res_at (Term.int_eval (1)) rfl), trivial⟩ ⟨hq.1, hq.2.1, hq.2.2.1, (hq.2.2.2.sift fun y hy => Or.inr (N y hy)).mono (by decide) (by decide)⟩⟩
theorem main_1_1 : Claimed_1_1 := comes_1 fun _ _ _ _ _ _ h hF => ⟨h.1, hF⟩
theorem main_1_2 : Claimed_1_2 := comes_1 fun _ _ _ _ _ _ h hF => ⟨h.2.1, hF⟩
end Jvm.Pilot.@@N@@
namespace Jvm.Pilot.@@N@@
open Jvm Jvm.ClassFile Sem Op Lib Jvm.Free Jvm.Stand Jvm.Pilot.@@N@@.Jvm.D
/-! MADE BY PROGRAM (witnessworld.py) out of the Statement's table words and the real class files: 21 classes; the members and pool entries that the words name. The judged class is class 1, her method 1. -/
namespace start1
open Jvm.ClassFile
def u (s : String) : CpInfo := .utf8 (stringToUtf16 s)
/-- a pool by its gaps: so many unusable entries, then the entry; so many at the end -/
def gap : Nat → List CpInfo → List CpInfo
  | 0, r => r
  | n + 1, r => .unusable :: gap n r
def poolList (es : List (Nat × CpInfo)) (last : Nat) : List CpInfo := es.foldr (fun e r => gap e.1 (e.2 :: r)) (gap last [])
def pool (es : List (Nat × CpInfo)) (last : Nat) : Array CpInfo := ⟨poolList es last⟩
def fileOf (pool : Array CpInfo) (this : Nat) (attrs : Array Attribute := #[]) (ms : Array MethodInfo := #[]) (fl : Nat := 33) (sup : Nat := 0) (ifs : Array Nat := #[]) (fds : Array FieldInfo := #[]) : ClassFile where
  minorVersion := 0
  majorVersion := 65
  constantPool := pool
  accessFlags := fl
  thisClass := this
  superClass := sup
  interfaces := ifs
  fields := fds
  methods := ms
  attributes := attrs
def plain (name : String) (sup : Option ClassId) : Class where
  name := name
  kind := .ordinary
  loader := none
  accessFlags := 33
  super := sup
  interfaces := #[]
  cf := none
  fields := #[]
  methods := #[]
  instanceTypes := #[]
  staticTypes := #[]
  resolved := #[]
  callSites := []
  init := .initialized
  statics := none
  mirror := none

def pool0 : Array CpInfo := pool [(5, u "<init>"), (0, u "()V"), (1, .class_ 10), (1, u "java/lang/Object")] 113

def k0c0 : Code := { maxStack := 0, maxLocals := 1, code := object_method_1_code, exceptionTable := #[], attributes := #[] }
def k0m0 : Method := { name := "<init>", desc := "()V", sig := { parameters := [], returnType := none }, accessFlags := 1, code := some k0c0 }
/-- java/lang/Object -/
def k0 : Class := { plain "java/lang/Object" none with
  accessFlags := 33
  interfaces := #[]
  cf := some (fileOf pool0 8 #[] #[{ accessFlags := 1, nameIndex := 5, descriptorIndex := 6, attributes := #[] }] 33 0 #[] #[])
  fields := #[]
  methods := #[k0m0]
  instanceTypes := #[]
  staticTypes := #[]
  resolved := Array.replicate 124 none
  statics := none }

def pool1 : Array CpInfo := pool [(2, .class_ 4), (1, u "java/lang/Object"), (0, u "<init>"), (0, u "()V"), (0, .integer 65535), (0, .class_ 9), (0, u "java/lang/String"), (0, .methodref 8 11), (0, .nameAndType 5 12), (0, u "([C)V"), (0, .methodref 8 14), (0, .nameAndType 15 16), (0, u "valueOf"), (0, u "(C)Ljava/lang/String;"), (0, .methodref 18 19), (0, .class_ 20), (0, .nameAndType 21 22), (0, u "com/example/cradle/cradle/Origin"), (0, u "of"), (0, u "(Ljava/lang/String;)Lcom/example/cradle/cradle/Origin;"), (0, .methodref 18 24), (0, .nameAndType 25 26), (0, u "toString"), (0, u "()Ljava/lang/String;"), (0, .methodref 8 28), (0, .nameAndType 29 30), (0, u "length"), (0, u "()I"), (0, .methodref 8 32), (0, .nameAndType 33 34), (0, u "charAt"), (0, u "(I)C"), (0, .methodref 8 36), (0, .nameAndType 37 38), (0, u "equals"), (0, u "(Ljava/lang/Object;)Z"), (0, .class_ 40), (0, u "com/example/cradle/cradle/OriginOfPinLaw"), (2, u "law"), (0, u "(IIII)Z")] 3

def k1m0 : Method := { name := "<init>", desc := "()V", sig := { parameters := [], returnType := none }, accessFlags := 1, code := none }
def k1c1 : Code := { maxStack := 6, maxLocals := 11, code := code, exceptionTable := #[], attributes := #[] }
def k1m1 : Method := { name := "law", desc := "(IIII)Z", sig := { parameters := [.int, .int, .int, .int], returnType := some .boolean }, accessFlags := 9, code := some k1c1 }
/-- com/example/cradle/cradle/OriginOfPinLaw -/
def k1 : Class := { plain "com/example/cradle/cradle/OriginOfPinLaw" (some 0) with
  accessFlags := 49
  interfaces := #[]
  cf := some (fileOf pool1 39 #[] #[{ accessFlags := 1, nameIndex := 5, descriptorIndex := 6, attributes := #[] }, { accessFlags := 9, nameIndex := 43, descriptorIndex := 44, attributes := #[] }] 49 2 #[] #[])
  fields := #[]
  methods := #[k1m0, k1m1]
  instanceTypes := #[]
  staticTypes := #[]
  resolved := Array.replicate 48 none
  statics := none }

def pool2 : Array CpInfo := pool [(1, .class_ 2), (0, u "java/io/Serializable"), (0, .class_ 4), (0, u "java/lang/Object")] 2

/-- java/io/Serializable -/
def k2 : Class := { plain "java/io/Serializable" (some 0) with
  accessFlags := 1537
  interfaces := #[]
  cf := some (fileOf pool2 1 #[] #[] 1537 3 #[] #[])
  fields := #[]
  methods := #[]
  instanceTypes := #[]
  staticTypes := #[]
  resolved := Array.replicate 7 none
  statics := none }

def pool3 : Array CpInfo := pool [(1, .class_ 2), (0, u "java/lang/Comparable"), (0, .class_ 4), (0, u "java/lang/Object")] 7

/-- java/lang/Comparable -/
def k3 : Class := { plain "java/lang/Comparable" (some 0) with
  accessFlags := 1537
  interfaces := #[]
  cf := some (fileOf pool3 1 #[] #[] 1537 3 #[] #[])
  fields := #[]
  methods := #[]
  instanceTypes := #[]
  staticTypes := #[]
  resolved := Array.replicate 12 none
  statics := none }

def pool4 : Array CpInfo := pool [(2, .class_ 4), (1, u "java/lang/CharSequence"), (42, .class_ 48), (0, u "java/lang/CharSequence$1CodePointIterator"), (10, .class_ 60), (0, u "java/lang/CharSequence$1CharIterator"), (5, .class_ 67), (0, u "java/lang/Object")] 63

/-- java/lang/CharSequence -/
def k4 : Class := { plain "java/lang/CharSequence" (some 0) with
  accessFlags := 1537
  interfaces := #[]
  cf := some (fileOf pool4 2 #[.nestMembers #[47, 59]] #[] 1537 66 #[] #[])
  fields := #[]
  methods := #[]
  instanceTypes := #[]
  staticTypes := #[]
  resolved := Array.replicate 131 none
  statics := none }

def pool5 : Array CpInfo := pool [(1, .class_ 2), (0, u "java/lang/constant/Constable"), (0, .class_ 4), (0, u "java/lang/Object")] 6

/-- java/lang/constant/Constable -/
def k5 : Class := { plain "java/lang/constant/Constable" (some 0) with
  accessFlags := 1537
  interfaces := #[]
  cf := some (fileOf pool5 1 #[] #[] 1537 3 #[] #[])
  fields := #[]
  methods := #[]
  instanceTypes := #[]
  staticTypes := #[]
  resolved := Array.replicate 11 none
  statics := none }

def pool6 : Array CpInfo := pool [(1, .class_ 2), (0, u "java/lang/constant/ConstantDesc"), (0, .class_ 4), (0, u "java/lang/Object")] 32

/-- java/lang/constant/ConstantDesc -/
def k6 : Class := { plain "java/lang/constant/ConstantDesc" (some 0) with
  accessFlags := 1537
  interfaces := #[]
  cf := some (fileOf pool6 1 #[] #[] 1537 3 #[] #[])
  fields := #[]
  methods := #[]
  instanceTypes := #[]
  staticTypes := #[]
  resolved := Array.replicate 37 none
  statics := none }

def pool7 : Array CpInfo := pool [(1, .methodref 2 3), (0, .class_ 4), (0, .nameAndType 5 6), (0, u "java/lang/Object"), (0, u "<init>"), (0, u "()V"), (0, .string 8), (0, u ""), (0, .fieldref 10 11), (0, .class_ 12), (0, .nameAndType 13 14), (0, u "java/lang/String"), (0, u "value"), (0, u "[B"), (0, .fieldref 10 16), (0, .nameAndType 17 18), (0, u "coder"), (0, u "B"), (2, u "hash"), (0, u "I"), (2, u "hashIsZero"), (0, u "Z"), (0, .methodref 10 28), (0, .nameAndType 5 29), (0, u "([CIILjava/lang/Void;)V"), (8, .fieldref 10 39), (0, .nameAndType 40 26), (0, u "COMPACT_STRINGS"), (1, .class_ 44), (1, u "java/lang/StringUTF16"), (0, u "compress"), (1, .methodref 42 48), (0, .nameAndType 49 50), (0, u "coderFromArrayLen"), (0, u "([BI)B"), (2, u "toBytes"), (53, .class_ 109), (1, u "java/lang/StringLatin1"), (32, u "()Z"), (34, .methodref 42 178), (0, .nameAndType 45 179), (0, u "([CII)[B"), (29, .methodref 10 210), (0, .nameAndType 5 211), (0, u "([BB)V"), (122, u "()I"), (0, .methodref 10 336), (0, .nameAndType 17 337), (0, u "()B"), (25, u "([BI)C"), (5, u "(C)Z"), (21, u "(II)V"), (35, u "(I)C"), (64, .methodref 10 493), (0, .nameAndType 494 142), (0, u "isLatin1"), (0, .methodref 107 496), (0, .nameAndType 497 363), (0, u "charAt"), (0, .methodref 42 496), (2, u "checkIndex"), (5, u "length"), (35, u "equals"), (29, u "(Ljava/lang/Object;)Z"), (1, .class_ 576), (0, u "java/lang/CharSequence"), (22, u "CASE_INSENSITIVE_ORDER"), (0, u "Ljava/util/Comparator;"), (181, u "valueOf"), (0, u "(C)Ljava/lang/String;"), (226, u "([C)V"), (4, .methodref 107 1016), (0, .nameAndType 1017 369), (0, u "canEncode"), (0, .methodref 107 1019), (0, .nameAndType 53 1020), (0, u "(C)[B"), (0, .methodref 42 1019), (31, .fieldref 1054 1055), (0, .class_ 1056), (0, .nameAndType 1057 1058), (0, u "jdk/internal/util/Preconditions"), (0, u "SIOOBE_FORMATTER"), (0, u "Ljava/util/function/BiFunction;"), (0, .methodref 1054 1060), (0, .nameAndType 501 1061), (0, u "(IILjava/util/function/BiFunction;)I"), (39, u "serialPersistentFields"), (0, u "[Ljava/io/ObjectStreamField;"), (0, .class_ 1104), (0, u "java/lang/String$CaseInsensitiveComparator"), (1, .class_ 1107), (0, u "java/io/Serializable"), (0, .class_ 1109), (0, u "java/lang/Comparable"), (0, .class_ 1111), (0, u "java/lang/constant/Constable"), (0, .class_ 1113), (0, u "java/lang/constant/ConstantDesc"), (2, u "serialVersionUID"), (0, u "J"), (3, u "REPL"), (0, u "C"), (2, u "LATIN1"), (1, u "UTF16")] 323

def k7m0 : Method := { name := "<init>", desc := "()V", sig := { parameters := [], returnType := none }, accessFlags := 1, code := none }
def k7c1 : Code := { maxStack := 5, maxLocals := 2, code := jdk_42_method_3_code, exceptionTable := #[], attributes := #[] }
def k7m1 : Method := { name := "<init>", desc := "([C)V", sig := { parameters := [(.array .char)], returnType := none }, accessFlags := 1, code := some k7c1 }
def k7c2 : Code := { maxStack := 2, maxLocals := 1, code := jdk_42_method_54_code, exceptionTable := #[], attributes := #[] }
def k7m2 : Method := { name := "length", desc := "()I", sig := { parameters := [], returnType := some .int }, accessFlags := 1, code := some k7c2 }
def k7c3 : Code := { maxStack := 2, maxLocals := 2, code := jdk_42_method_56_code, exceptionTable := #[], attributes := #[] }
def k7m3 : Method := { name := "charAt", desc := "(I)C", sig := { parameters := [.int], returnType := some .char }, accessFlags := 1, code := some k7c3 }
def k7c4 : Code := { maxStack := 2, maxLocals := 3, code := jdk_42_method_66_code, exceptionTable := #[], attributes := #[] }
def k7m4 : Method := { name := "equals", desc := "(Ljava/lang/Object;)Z", sig := { parameters := [(.object "java/lang/Object")], returnType := some .boolean }, accessFlags := 1, code := some k7c4 }
def k7c5 : Code := { maxStack := 4, maxLocals := 1, code := jdk_42_method_139_code, exceptionTable := #[], attributes := #[] }
def k7m5 : Method := { name := "valueOf", desc := "(C)Ljava/lang/String;", sig := { parameters := [.char], returnType := some (.object "java/lang/String") }, accessFlags := 9, code := some k7c5 }
def k7c6 : Code := { maxStack := 4, maxLocals := 6, code := jdk_42_method_149_code, exceptionTable := #[], attributes := #[] }
def k7m6 : Method := { name := "<init>", desc := "([CIILjava/lang/Void;)V", sig := { parameters := [(.array .char), .int, .int, (.object "java/lang/Void")], returnType := none }, accessFlags := 2, code := some k7c6 }
def k7c7 : Code := { maxStack := 2, maxLocals := 3, code := jdk_42_method_151_code, exceptionTable := #[], attributes := #[] }
def k7m7 : Method := { name := "<init>", desc := "([BB)V", sig := { parameters := [(.array .byte), .byte], returnType := none }, accessFlags := 0, code := some k7c7 }
def k7c8 : Code := { maxStack := 1, maxLocals := 1, code := jdk_42_method_152_code, exceptionTable := #[], attributes := #[] }
def k7m8 : Method := { name := "coder", desc := "()B", sig := { parameters := [], returnType := some .byte }, accessFlags := 0, code := some k7c8 }
def k7c9 : Code := { maxStack := 1, maxLocals := 1, code := jdk_42_method_154_code, exceptionTable := #[], attributes := #[] }
def k7m9 : Method := { name := "isLatin1", desc := "()Z", sig := { parameters := [], returnType := some .boolean }, accessFlags := 0, code := some k7c9 }
def k7c10 : Code := { maxStack := 3, maxLocals := 2, code := jdk_42_method_155_code, exceptionTable := #[], attributes := #[] }
def k7m10 : Method := { name := "checkIndex", desc := "(II)V", sig := { parameters := [.int, .int], returnType := none }, accessFlags := 8, code := some k7c10 }
/-- java/lang/String -/
def k7 : Class := { plain "java/lang/String" (some 0) with
  accessFlags := 49
  interfaces := #[2, 3, 4, 5, 6]
  cf := some (fileOf pool7 10 #[.nestMembers #[1103]] #[{ accessFlags := 1, nameIndex := 5, descriptorIndex := 6, attributes := #[] }, { accessFlags := 1, nameIndex := 5, descriptorIndex := 1010, attributes := #[] }, { accessFlags := 1, nameIndex := 507, descriptorIndex := 334, attributes := #[] }, { accessFlags := 1, nameIndex := 497, descriptorIndex := 427, attributes := #[] }, { accessFlags := 1, nameIndex := 543, descriptorIndex := 573, attributes := #[] }, { accessFlags := 9, nameIndex := 782, descriptorIndex := 783, attributes := #[] }, { accessFlags := 2, nameIndex := 5, descriptorIndex := 29, attributes := #[] }, { accessFlags := 0, nameIndex := 5, descriptorIndex := 211, attributes := #[] }, { accessFlags := 0, nameIndex := 17, descriptorIndex := 337, attributes := #[] }, { accessFlags := 0, nameIndex := 494, descriptorIndex := 142, attributes := #[] }, { accessFlags := 8, nameIndex := 501, descriptorIndex := 391, attributes := #[] }] 49 2 #[1106, 1108, 575, 1110, 1112] #[{ accessFlags := 18, nameIndex := 13, descriptorIndex := 14, attributes := #[] }, { accessFlags := 18, nameIndex := 17, descriptorIndex := 18, attributes := #[] }, { accessFlags := 2, nameIndex := 21, descriptorIndex := 22, attributes := #[] }, { accessFlags := 2, nameIndex := 25, descriptorIndex := 26, attributes := #[] }, { accessFlags := 26, nameIndex := 1116, descriptorIndex := 1117, attributes := #[] }, { accessFlags := 24, nameIndex := 40, descriptorIndex := 26, attributes := #[] }, { accessFlags := 26, nameIndex := 1101, descriptorIndex := 1102, attributes := #[] }, { accessFlags := 26, nameIndex := 1121, descriptorIndex := 1122, attributes := #[] }, { accessFlags := 25, nameIndex := 599, descriptorIndex := 600, attributes := #[] }, { accessFlags := 24, nameIndex := 1125, descriptorIndex := 18, attributes := #[] }, { accessFlags := 24, nameIndex := 1127, descriptorIndex := 18, attributes := #[] }])
  fields := #[{ name := "value", type := (.array .byte), accessFlags := 18, slot := 0, constantValue := 0 }, { name := "coder", type := .byte, accessFlags := 18, slot := 1, constantValue := 0 }, { name := "hash", type := .int, accessFlags := 2, slot := 2, constantValue := 0 }, { name := "hashIsZero", type := .boolean, accessFlags := 2, slot := 3, constantValue := 0 }, { name := "serialVersionUID", type := .long, accessFlags := 26, slot := 0, constantValue := 0 }, { name := "COMPACT_STRINGS", type := .boolean, accessFlags := 24, slot := 1, constantValue := 0 }, { name := "serialPersistentFields", type := (.array (.object "java/io/ObjectStreamField")), accessFlags := 26, slot := 2, constantValue := 0 }, { name := "REPL", type := .char, accessFlags := 26, slot := 3, constantValue := 0 }, { name := "CASE_INSENSITIVE_ORDER", type := (.object "java/util/Comparator"), accessFlags := 25, slot := 4, constantValue := 0 }, { name := "LATIN1", type := .byte, accessFlags := 24, slot := 5, constantValue := 0 }, { name := "UTF16", type := .byte, accessFlags := 24, slot := 6, constantValue := 0 }]
  methods := #[k7m0, k7m1, k7m2, k7m3, k7m4, k7m5, k7m6, k7m7, k7m8, k7m9, k7m10]
  instanceTypes := #[(.array .byte), .byte, .int, .boolean]
  staticTypes := #[.long, .boolean, (.array (.object "java/io/ObjectStreamField")), .char, (.object "java/util/Comparator"), .byte, .byte]
  resolved := Array.replicate 1451 none
  statics := some 0 }

def pool8 : Array CpInfo := pool [(1, .methodref 2 3), (0, .class_ 4), (0, .nameAndType 5 6), (0, u "java/lang/Object"), (0, u "<init>"), (0, u "()V"), (0, .fieldref 8 9), (0, .class_ 10), (0, .nameAndType 11 12), (0, u "com/example/cradle/cradle/Origin"), (0, u "file"), (0, u "Ljava/nio/file/Path;"), (0, .fieldref 8 14), (0, .nameAndType 15 16), (0, u "line"), (0, u "I"), (0, .fieldref 8 18), (0, .nameAndType 19 20), (0, u "description"), (0, u "Ljava/lang/String;"), (1, .methodref 23 24), (0, .class_ 25), (0, .nameAndType 26 27), (0, u "java/util/Objects"), (0, u "requireNonNull"), (0, u "(Ljava/lang/Object;Ljava/lang/String;)Ljava/lang/Object;"), (2, .methodref 8 31), (0, .nameAndType 5 32), (0, u "(Ljava/nio/file/Path;ILjava/lang/String;)V"), (0, .string 34), (0, u "origin"), (0, .class_ 36), (0, u "java/lang/String"), (5, u "()Ljava/lang/String;"), (6, u "of"), (0, u "(Ljava/lang/String;)Lcom/example/cradle/cradle/Origin;"), (13, u "toString")] 20

def k8c0 : Code := { maxStack := 2, maxLocals := 4, code := prog_13_method_1_code, exceptionTable := #[], attributes := #[] }
def k8m0 : Method := { name := "<init>", desc := "(Ljava/nio/file/Path;ILjava/lang/String;)V", sig := { parameters := [(.object "java/nio/file/Path"), .int, (.object "java/lang/String")], returnType := none }, accessFlags := 2, code := some k8c0 }
def k8c1 : Code := { maxStack := 6, maxLocals := 1, code := prog_13_method_3_code, exceptionTable := #[], attributes := #[] }
def k8m1 : Method := { name := "of", desc := "(Ljava/lang/String;)Lcom/example/cradle/cradle/Origin;", sig := { parameters := [(.object "java/lang/String")], returnType := some (.object "com/example/cradle/cradle/Origin") }, accessFlags := 9, code := some k8c1 }
def k8c2 : Code := { maxStack := 2, maxLocals := 2, code := prog_13_method_5_code, exceptionTable := #[], attributes := #[] }
def k8m2 : Method := { name := "toString", desc := "()Ljava/lang/String;", sig := { parameters := [], returnType := some (.object "java/lang/String") }, accessFlags := 1, code := some k8c2 }
/-- com/example/cradle/cradle/Origin -/
def k8 : Class := { plain "com/example/cradle/cradle/Origin" (some 0) with
  accessFlags := 33
  interfaces := #[]
  cf := some (fileOf pool8 8 #[] #[{ accessFlags := 2, nameIndex := 5, descriptorIndex := 32, attributes := #[] }, { accessFlags := 9, nameIndex := 49, descriptorIndex := 50, attributes := #[] }, { accessFlags := 1, nameIndex := 64, descriptorIndex := 42, attributes := #[] }] 33 2 #[] #[{ accessFlags := 18, nameIndex := 11, descriptorIndex := 12, attributes := #[] }, { accessFlags := 18, nameIndex := 15, descriptorIndex := 16, attributes := #[] }, { accessFlags := 18, nameIndex := 19, descriptorIndex := 20, attributes := #[] }])
  fields := #[{ name := "file", type := (.object "java/nio/file/Path"), accessFlags := 18, slot := 0, constantValue := 0 }, { name := "line", type := .int, accessFlags := 18, slot := 1, constantValue := 0 }, { name := "description", type := (.object "java/lang/String"), accessFlags := 18, slot := 2, constantValue := 0 }]
  methods := #[k8m0, k8m1, k8m2]
  instanceTypes := #[(.object "java/nio/file/Path"), .int, (.object "java/lang/String")]
  staticTypes := #[]
  resolved := Array.replicate 85 none
  statics := none }

def pool9 : Array CpInfo := pool [(2, .class_ 4), (1, u "java/lang/Object"), (0, u "<init>"), (0, u "()V"), (35, .class_ 44), (1, u "java/util/Objects"), (0, u "requireNonNull"), (48, u "(Ljava/lang/Object;Ljava/lang/String;)Ljava/lang/Object;")] 89

def k9m0 : Method := { name := "<init>", desc := "()V", sig := { parameters := [], returnType := none }, accessFlags := 2, code := none }
def k9c1 : Code := { maxStack := 3, maxLocals := 2, code := jdk_31_method_11_code, exceptionTable := #[], attributes := #[] }
def k9m1 : Method := { name := "requireNonNull", desc := "(Ljava/lang/Object;Ljava/lang/String;)Ljava/lang/Object;", sig := { parameters := [(.object "java/lang/Object"), (.object "java/lang/String")], returnType := some (.object "java/lang/Object") }, accessFlags := 9, code := some k9c1 }
/-- java/util/Objects -/
def k9 : Class := { plain "java/util/Objects" (some 0) with
  accessFlags := 49
  interfaces := #[]
  cf := some (fileOf pool9 42 #[] #[{ accessFlags := 2, nameIndex := 5, descriptorIndex := 6, attributes := #[] }, { accessFlags := 9, nameIndex := 45, descriptorIndex := 94, attributes := #[] }] 49 2 #[] #[])
  fields := #[]
  methods := #[k9m0, k9m1]
  instanceTypes := #[]
  staticTypes := #[]
  resolved := Array.replicate 184 none
  statics := none }

def pool10 : Array CpInfo := pool [(3, .class_ 4), (0, u "java/lang/String"), (1, .class_ 8), (1, u "java/lang/Object"), (0, u "<init>"), (0, u "()V"), (0, .methodref 12 13), (0, .class_ 14), (0, .nameAndType 15 16), (0, u "java/lang/StringUTF16"), (0, u "newBytesLength"), (0, u "(I)I"), (3, .integer 1073741823), (23, .fieldref 12 45), (0, .nameAndType 46 47), (0, u "$assertionsDisabled"), (0, u "Z"), (0, .methodref 12 49), (0, .nameAndType 50 51), (0, u "length"), (0, u "([B)I"), (7, .fieldref 12 60), (0, .nameAndType 61 62), (0, u "HI_BYTE_SHIFT"), (0, u "I"), (0, .fieldref 12 64), (0, .nameAndType 65 62), (0, u "LO_BYTE_SHIFT"), (1, .methodref 12 68), (0, .nameAndType 69 70), (0, u "checkIndex"), (0, u "(I[B)V"), (0, .methodref 12 72), (0, .nameAndType 73 74), (0, u "getChar"), (0, u "([BI)C"), (32, .methodref 12 108), (0, .nameAndType 109 110), (0, u "newBytesFor"), (0, u "(I)[B"), (0, .methodref 12 112), (0, .nameAndType 113 114), (0, u "putChar"), (0, u "([BII)V"), (0, .methodref 12 116), (0, .nameAndType 117 118), (0, u "compress"), (0, u "([CI[BII)I"), (0, .methodref 12 120), (0, .nameAndType 121 122), (0, u "toBytes"), (0, u "([CII)[B"), (138, u "coderFromArrayLen"), (0, u "([BI)B"), (106, .class_ 371), (1, u "java/lang/StringUTF16$LinesSpliterator"), (20, u "charAt"), (21, .methodref 3 415), (0, .nameAndType 69 416), (0, u "(II)V"), (13, u "MAX_LENGTH"), (44, u "(C)[B"), (151, .class_ 628), (0, u "java/lang/StringUTF16$CodePointsSpliterator"), (0, .class_ 630), (0, u "java/lang/StringUTF16$CharsSpliterator")] 4

def k10m0 : Method := { name := "<init>", desc := "()V", sig := { parameters := [], returnType := none }, accessFlags := 0, code := none }
def k10c1 : Code := { maxStack := 1, maxLocals := 1, code := jdk_52_method_2_code, exceptionTable := #[], attributes := #[] }
def k10m1 : Method := { name := "newBytesFor", desc := "(I)[B", sig := { parameters := [.int], returnType := some (.array .byte) }, accessFlags := 9, code := some k10c1 }
def k10c2 : Code := { maxStack := 4, maxLocals := 1, code := jdk_52_method_3_code, exceptionTable := #[], attributes := #[] }
def k10m2 : Method := { name := "newBytesLength", desc := "(I)I", sig := { parameters := [.int], returnType := some .int }, accessFlags := 9, code := some k10c2 }
def k10c3 : Code := { maxStack := 4, maxLocals := 3, code := jdk_52_method_4_code, exceptionTable := #[], attributes := #[] }
def k10m3 : Method := { name := "putChar", desc := "([BII)V", sig := { parameters := [(.array .byte), .int, .int], returnType := none }, accessFlags := 8, code := some k10c3 }
def k10c4 : Code := { maxStack := 3, maxLocals := 2, code := jdk_52_method_5_code, exceptionTable := #[], attributes := #[] }
def k10m4 : Method := { name := "getChar", desc := "([BI)C", sig := { parameters := [(.array .byte), .int], returnType := some .char }, accessFlags := 8, code := some k10c4 }
def k10c5 : Code := { maxStack := 2, maxLocals := 1, code := jdk_52_method_6_code, exceptionTable := #[], attributes := #[] }
def k10m5 : Method := { name := "length", desc := "([B)I", sig := { parameters := [(.array .byte)], returnType := some .int }, accessFlags := 9, code := some k10c5 }
def k10c6 : Code := { maxStack := 4, maxLocals := 5, code := jdk_52_method_14_code, exceptionTable := #[], attributes := #[] }
def k10m6 : Method := { name := "toBytes", desc := "([CII)[B", sig := { parameters := [(.array .char), .int, .int], returnType := some (.array .byte) }, accessFlags := 9, code := some k10c6 }
def k10c7 : Code := { maxStack := 2, maxLocals := 2, code := jdk_52_method_15_code, exceptionTable := #[], attributes := #[] }
def k10m7 : Method := { name := "coderFromArrayLen", desc := "([BI)B", sig := { parameters := [(.array .byte), .int], returnType := some .byte }, accessFlags := 8, code := some k10c7 }
def k10c8 : Code := { maxStack := 5, maxLocals := 6, code := jdk_52_method_16_code, exceptionTable := #[], attributes := #[] }
def k10m8 : Method := { name := "compress", desc := "([CII)[B", sig := { parameters := [(.array .char), .int, .int], returnType := some (.array .byte) }, accessFlags := 9, code := some k10c8 }
def k10c9 : Code := { maxStack := 3, maxLocals := 7, code := jdk_52_method_21_code, exceptionTable := #[], attributes := #[] }
def k10m9 : Method := { name := "compress", desc := "([CI[BII)I", sig := { parameters := [(.array .char), .int, (.array .byte), .int, .int], returnType := some .int }, accessFlags := 9, code := some k10c9 }
def k10c10 : Code := { maxStack := 3, maxLocals := 2, code := jdk_52_method_24_code, exceptionTable := #[], attributes := #[] }
def k10m10 : Method := { name := "toBytes", desc := "(C)[B", sig := { parameters := [.char], returnType := some (.array .byte) }, accessFlags := 9, code := some k10c10 }
def k10c11 : Code := { maxStack := 2, maxLocals := 2, code := jdk_52_method_83_code, exceptionTable := #[], attributes := #[] }
def k10m11 : Method := { name := "charAt", desc := "([BI)C", sig := { parameters := [(.array .byte), .int], returnType := some .char }, accessFlags := 9, code := some k10c11 }
def k10c12 : Code := { maxStack := 2, maxLocals := 2, code := jdk_52_method_91_code, exceptionTable := #[], attributes := #[] }
def k10m12 : Method := { name := "checkIndex", desc := "(I[B)V", sig := { parameters := [.int, (.array .byte)], returnType := none }, accessFlags := 9, code := some k10c12 }
/-- java/lang/StringUTF16 -/
def k10 : Class := { plain "java/lang/StringUTF16" (some 0) with
  accessFlags := 48
  interfaces := #[]
  cf := some (fileOf pool10 12 #[.nestMembers #[627, 629, 369]] #[{ accessFlags := 0, nameIndex := 9, descriptorIndex := 10, attributes := #[] }, { accessFlags := 9, nameIndex := 109, descriptorIndex := 110, attributes := #[] }, { accessFlags := 9, nameIndex := 15, descriptorIndex := 16, attributes := #[] }, { accessFlags := 8, nameIndex := 113, descriptorIndex := 114, attributes := #[] }, { accessFlags := 8, nameIndex := 73, descriptorIndex := 74, attributes := #[] }, { accessFlags := 9, nameIndex := 50, descriptorIndex := 51, attributes := #[] }, { accessFlags := 9, nameIndex := 121, descriptorIndex := 122, attributes := #[] }, { accessFlags := 8, nameIndex := 261, descriptorIndex := 262, attributes := #[] }, { accessFlags := 9, nameIndex := 117, descriptorIndex := 122, attributes := #[] }, { accessFlags := 9, nameIndex := 117, descriptorIndex := 118, attributes := #[] }, { accessFlags := 9, nameIndex := 121, descriptorIndex := 475, attributes := #[] }, { accessFlags := 9, nameIndex := 392, descriptorIndex := 74, attributes := #[] }, { accessFlags := 9, nameIndex := 69, descriptorIndex := 70, attributes := #[] }] 48 6 #[] #[{ accessFlags := 26, nameIndex := 61, descriptorIndex := 62, attributes := #[] }, { accessFlags := 26, nameIndex := 65, descriptorIndex := 62, attributes := #[] }, { accessFlags := 24, nameIndex := 430, descriptorIndex := 62, attributes := #[] }, { accessFlags := 4120, nameIndex := 46, descriptorIndex := 47, attributes := #[] }])
  fields := #[{ name := "HI_BYTE_SHIFT", type := .int, accessFlags := 26, slot := 0, constantValue := 0 }, { name := "LO_BYTE_SHIFT", type := .int, accessFlags := 26, slot := 1, constantValue := 0 }, { name := "MAX_LENGTH", type := .int, accessFlags := 24, slot := 2, constantValue := 0 }, { name := "$assertionsDisabled", type := .boolean, accessFlags := 4120, slot := 3, constantValue := 0 }]
  methods := #[k10m0, k10m1, k10m2, k10m3, k10m4, k10m5, k10m6, k10m7, k10m8, k10m9, k10m10, k10m11, k10m12]
  instanceTypes := #[]
  staticTypes := #[.int, .int, .int, .boolean]
  resolved := Array.replicate 635 none
  statics := some 1 }

def pool11 : Array CpInfo := pool [(1, .class_ 2), (0, u "java/lang/String"), (1, .class_ 6), (1, u "java/lang/Object"), (0, u "<init>"), (0, u "()V"), (0, .methodref 1 10), (0, .nameAndType 11 12), (0, u "checkIndex"), (0, u "(II)V"), (1, .class_ 16), (1, u "java/lang/StringLatin1"), (36, u "([BI)C"), (36, u "canEncode"), (14, u "(C)Z"), (15, u "$assertionsDisabled"), (0, u "Z"), (98, .class_ 223), (1, u "java/lang/StringLatin1$LinesSpliterator"), (28, u "charAt"), (127, u "toBytes"), (1, u "(C)[B"), (7, .class_ 391), (0, u "java/lang/StringLatin1$CharsSpliterator")] 3

def k11m0 : Method := { name := "<init>", desc := "()V", sig := { parameters := [], returnType := none }, accessFlags := 0, code := none }
def k11c1 : Code := { maxStack := 2, maxLocals := 2, code := jdk_43_method_2_code, exceptionTable := #[], attributes := #[] }
def k11m1 : Method := { name := "charAt", desc := "([BI)C", sig := { parameters := [(.array .byte), .int], returnType := some .char }, accessFlags := 9, code := some k11c1 }
def k11c2 : Code := { maxStack := 2, maxLocals := 1, code := jdk_43_method_3_code, exceptionTable := #[], attributes := #[] }
def k11m2 : Method := { name := "canEncode", desc := "(C)Z", sig := { parameters := [.char], returnType := some .boolean }, accessFlags := 9, code := some k11c2 }
def k11c3 : Code := { maxStack := 4, maxLocals := 1, code := jdk_43_method_46_code, exceptionTable := #[], attributes := #[] }
def k11m3 : Method := { name := "toBytes", desc := "(C)[B", sig := { parameters := [.char], returnType := some (.array .byte) }, accessFlags := 9, code := some k11c3 }
/-- java/lang/StringLatin1 -/
def k11 : Class := { plain "java/lang/StringLatin1" (some 0) with
  accessFlags := 48
  interfaces := #[]
  cf := some (fileOf pool11 14 #[.nestMembers #[390, 221]] #[{ accessFlags := 0, nameIndex := 7, descriptorIndex := 8, attributes := #[] }, { accessFlags := 9, nameIndex := 252, descriptorIndex := 53, attributes := #[] }, { accessFlags := 9, nameIndex := 90, descriptorIndex := 105, attributes := #[] }, { accessFlags := 9, nameIndex := 380, descriptorIndex := 382, attributes := #[] }] 48 4 #[] #[{ accessFlags := 4120, nameIndex := 121, descriptorIndex := 122, attributes := #[] }])
  fields := #[{ name := "$assertionsDisabled", type := .boolean, accessFlags := 4120, slot := 0, constantValue := 0 }]
  methods := #[k11m0, k11m1, k11m2, k11m3]
  instanceTypes := #[]
  staticTypes := #[.boolean]
  resolved := Array.replicate 395 none
  statics := none }

def pool12 : Array CpInfo := pool [(2, .class_ 4), (1, u "java/lang/Object"), (0, u "<init>"), (0, u "()V"), (17, .class_ 26), (1, u "jdk/internal/util/Preconditions"), (6, u "checkIndex"), (21, .class_ 56), (0, u "jdk/internal/util/Preconditions$4"), (57, .class_ 115), (0, u "jdk/internal/util/Preconditions$1"), (7, u "SIOOBE_FORMATTER"), (0, u "Ljava/util/function/BiFunction;"), (0, .class_ 126), (0, u "jdk/internal/util/Preconditions$2"), (3, u "AIOOBE_FORMATTER"), (0, .class_ 132), (0, u "jdk/internal/util/Preconditions$3"), (3, u "IOOBE_FORMATTER"), (41, u "(IILjava/util/function/BiFunction;)I")] 15

def k12m0 : Method := { name := "<init>", desc := "()V", sig := { parameters := [], returnType := none }, accessFlags := 1, code := none }
def k12c1 : Code := { maxStack := 3, maxLocals := 3, code := jdk_41_method_11_code, exceptionTable := #[], attributes := #[] }
def k12m1 : Method := { name := "checkIndex", desc := "(IILjava/util/function/BiFunction;)I", sig := { parameters := [.int, .int, (.object "java/util/function/BiFunction")], returnType := some .int }, accessFlags := 9, code := some k12c1 }
/-- jdk/internal/util/Preconditions -/
def k12 : Class := { plain "jdk/internal/util/Preconditions" (some 0) with
  accessFlags := 33
  interfaces := #[]
  cf := some (fileOf pool12 24 #[.nestMembers #[55, 131, 125, 114]] #[{ accessFlags := 1, nameIndex := 5, descriptorIndex := 6, attributes := #[] }, { accessFlags := 9, nameIndex := 33, descriptorIndex := 178, attributes := #[] }] 33 2 #[] #[{ accessFlags := 25, nameIndex := 123, descriptorIndex := 124, attributes := #[] }, { accessFlags := 25, nameIndex := 130, descriptorIndex := 124, attributes := #[] }, { accessFlags := 25, nameIndex := 136, descriptorIndex := 124, attributes := #[] }])
  fields := #[{ name := "SIOOBE_FORMATTER", type := (.object "java/util/function/BiFunction"), accessFlags := 25, slot := 0, constantValue := 0 }, { name := "AIOOBE_FORMATTER", type := (.object "java/util/function/BiFunction"), accessFlags := 25, slot := 1, constantValue := 0 }, { name := "IOOBE_FORMATTER", type := (.object "java/util/function/BiFunction"), accessFlags := 25, slot := 2, constantValue := 0 }]
  methods := #[k12m0, k12m1]
  instanceTypes := #[]
  staticTypes := #[(.object "java/util/function/BiFunction"), (.object "java/util/function/BiFunction"), (.object "java/util/function/BiFunction")]
  resolved := Array.replicate 194 none
  statics := some 2 }

def pool13 : Array CpInfo := pool [(9, u "<init>"), (6, .class_ 18), (1, u "java/lang/Object"), (0, u "()V"), (1, .class_ 23), (1, u "jdk/internal/util/ArraysSupport"), (0, u "LOG2_ARRAY_LONG_INDEX_SCALE"), (0, u "I"), (2, u "U"), (0, u "Ljdk/internal/misc/Unsafe;"), (8, u "BIG_ENDIAN"), (0, u "Z"), (8, u "LOG2_BYTE_BIT_SIZE"), (4, u "LOG2_ARRAY_INT_INDEX_SCALE"), (54, u "JLA"), (0, u "Ljdk/internal/access/JavaLangAccess;"), (11, u "LOG2_ARRAY_BOOLEAN_INDEX_SCALE"), (9, u "LOG2_ARRAY_BYTE_INDEX_SCALE"), (5, u "LOG2_ARRAY_CHAR_INDEX_SCALE"), (5, u "LOG2_ARRAY_SHORT_INDEX_SCALE"), (18, u "LOG2_ARRAY_FLOAT_INDEX_SCALE"), (24, u "LOG2_ARRAY_DOUBLE_INDEX_SCALE"), (89, u "T_BOOLEAN"), (2, u "T_CHAR"), (1, u "T_FLOAT"), (1, u "T_DOUBLE"), (1, u "T_BYTE"), (1, u "T_SHORT"), (1, u "T_INT"), (1, u "T_LONG"), (1, u "SOFT_MAX_ARRAY_LENGTH")] 83

def k13m0 : Method := { name := "<init>", desc := "()V", sig := { parameters := [], returnType := none }, accessFlags := 2, code := none }
/-- jdk/internal/util/ArraysSupport -/
def k13 : Class := { plain "jdk/internal/util/ArraysSupport" (some 0) with
  accessFlags := 33
  interfaces := #[]
  cf := some (fileOf pool13 21 #[] #[{ accessFlags := 2, nameIndex := 9, descriptorIndex := 19, attributes := #[] }] 33 16 #[] #[{ accessFlags := 24, nameIndex := 28, descriptorIndex := 29, attributes := #[] }, { accessFlags := 26, nameIndex := 38, descriptorIndex := 39, attributes := #[] }, { accessFlags := 25, nameIndex := 121, descriptorIndex := 25, attributes := #[] }, { accessFlags := 25, nameIndex := 131, descriptorIndex := 25, attributes := #[] }, { accessFlags := 25, nameIndex := 137, descriptorIndex := 25, attributes := #[] }, { accessFlags := 25, nameIndex := 143, descriptorIndex := 25, attributes := #[] }, { accessFlags := 25, nameIndex := 53, descriptorIndex := 25, attributes := #[] }, { accessFlags := 25, nameIndex := 24, descriptorIndex := 25, attributes := #[] }, { accessFlags := 25, nameIndex := 162, descriptorIndex := 25, attributes := #[] }, { accessFlags := 25, nameIndex := 187, descriptorIndex := 25, attributes := #[] }, { accessFlags := 26, nameIndex := 48, descriptorIndex := 25, attributes := #[] }, { accessFlags := 25, nameIndex := 277, descriptorIndex := 25, attributes := #[] }, { accessFlags := 25, nameIndex := 280, descriptorIndex := 25, attributes := #[] }, { accessFlags := 25, nameIndex := 282, descriptorIndex := 25, attributes := #[] }, { accessFlags := 25, nameIndex := 284, descriptorIndex := 25, attributes := #[] }, { accessFlags := 25, nameIndex := 286, descriptorIndex := 25, attributes := #[] }, { accessFlags := 25, nameIndex := 288, descriptorIndex := 25, attributes := #[] }, { accessFlags := 25, nameIndex := 290, descriptorIndex := 25, attributes := #[] }, { accessFlags := 25, nameIndex := 292, descriptorIndex := 25, attributes := #[] }, { accessFlags := 26, nameIndex := 108, descriptorIndex := 109, attributes := #[] }, { accessFlags := 25, nameIndex := 294, descriptorIndex := 25, attributes := #[] }])
  fields := #[{ name := "U", type := (.object "jdk/internal/misc/Unsafe"), accessFlags := 24, slot := 0, constantValue := 0 }, { name := "BIG_ENDIAN", type := .boolean, accessFlags := 26, slot := 1, constantValue := 0 }, { name := "LOG2_ARRAY_BOOLEAN_INDEX_SCALE", type := .int, accessFlags := 25, slot := 2, constantValue := 0 }, { name := "LOG2_ARRAY_BYTE_INDEX_SCALE", type := .int, accessFlags := 25, slot := 3, constantValue := 0 }, { name := "LOG2_ARRAY_CHAR_INDEX_SCALE", type := .int, accessFlags := 25, slot := 4, constantValue := 0 }, { name := "LOG2_ARRAY_SHORT_INDEX_SCALE", type := .int, accessFlags := 25, slot := 5, constantValue := 0 }, { name := "LOG2_ARRAY_INT_INDEX_SCALE", type := .int, accessFlags := 25, slot := 6, constantValue := 0 }, { name := "LOG2_ARRAY_LONG_INDEX_SCALE", type := .int, accessFlags := 25, slot := 7, constantValue := 0 }, { name := "LOG2_ARRAY_FLOAT_INDEX_SCALE", type := .int, accessFlags := 25, slot := 8, constantValue := 0 }, { name := "LOG2_ARRAY_DOUBLE_INDEX_SCALE", type := .int, accessFlags := 25, slot := 9, constantValue := 0 }, { name := "LOG2_BYTE_BIT_SIZE", type := .int, accessFlags := 26, slot := 10, constantValue := 0 }, { name := "T_BOOLEAN", type := .int, accessFlags := 25, slot := 11, constantValue := 0 }, { name := "T_CHAR", type := .int, accessFlags := 25, slot := 12, constantValue := 0 }, { name := "T_FLOAT", type := .int, accessFlags := 25, slot := 13, constantValue := 0 }, { name := "T_DOUBLE", type := .int, accessFlags := 25, slot := 14, constantValue := 0 }, { name := "T_BYTE", type := .int, accessFlags := 25, slot := 15, constantValue := 0 }, { name := "T_SHORT", type := .int, accessFlags := 25, slot := 16, constantValue := 0 }, { name := "T_INT", type := .int, accessFlags := 25, slot := 17, constantValue := 0 }, { name := "T_LONG", type := .int, accessFlags := 25, slot := 18, constantValue := 0 }, { name := "JLA", type := (.object "jdk/internal/access/JavaLangAccess"), accessFlags := 26, slot := 19, constantValue := 0 }, { name := "SOFT_MAX_ARRAY_LENGTH", type := .int, accessFlags := 25, slot := 20, constantValue := 0 }]
  methods := #[k13m0]
  instanceTypes := #[]
  staticTypes := #[(.object "jdk/internal/misc/Unsafe"), .boolean, .int, .int, .int, .int, .int, .int, .int, .int, .int, .int, .int, .int, .int, .int, .int, .int, .int, (.object "jdk/internal/access/JavaLangAccess"), .int]
  resolved := Array.replicate 378 none
  statics := none }

def pool14 : Array CpInfo := pool [(1, u "java/lang/Cloneable"), (0, .class_ 1), (0, u "java/lang/Object"), (0, .class_ 3)] 3

/-- java/lang/Cloneable -/
def k14 : Class := { plain "java/lang/Cloneable" (some 0) with
  accessFlags := 1537
  interfaces := #[]
  cf := some (fileOf pool14 2 #[] #[] 1537 4 #[] #[])
  fields := #[]
  methods := #[]
  instanceTypes := #[]
  staticTypes := #[]
  resolved := Array.replicate 8 none
  statics := none }

/-- the primitive byte -/
def k15 : Class := { plain "byte" none with kind := .primitive 'B', accessFlags := 0x411 }
/-- [B -/
def k16 : Class := { plain "[B" (some 0) with kind := .array 15 .byte, interfaces := #[14, 2], accessFlags := 1041 }

/-- the primitive char -/
def k17 : Class := { plain "char" none with kind := .primitive 'C', accessFlags := 0x411 }
/-- [C -/
def k18 : Class := { plain "[C" (some 0) with kind := .array 17 .char, interfaces := #[14, 2], accessFlags := 1041 }

/-- the primitive int -/
def k19 : Class := { plain "int" none with kind := .primitive 'I', accessFlags := 0x411 }
/-- [I -/
def k20 : Class := { plain "[I" (some 0) with kind := .array 19 .int, interfaces := #[14, 2], accessFlags := 1041 }

def heap : Heap := #[{ cls := 7, slots := #[.long 0, .int 1, .null, .int 0, .null, .int 0, .int 0], vm := .statics 7 },
  { cls := 10, slots := #[.int 0, .int 8, .int 0, .int 1], vm := .statics 10 },
  { cls := 12, slots := #[.null, .null, .null], vm := .statics 12 }]
def classes : Array Class := #[k0, k1, k2, k3, k4, k5, k6, k7, k8, k9, k10, k11, k12, k13, k14, k15, k16, k17, k18, k19, k20]
def interned : List (Array UInt16 × Addr) := []
def slotsUsed : Nat := 14
def theMethod : MethodId := ⟨1, 1⟩
def args0 : Array Value := #[.int 5, .int 2, .int 3, .int 4]
def aboutOver (below : List Frame) : State where
  vm := { classes := classes, interned := interned.toArray }
  heap := heap
  slotsUsed := slotsUsed
  threads := #[{ frames := .invoking theMethod args0 :: below }]
def below0 : List Frame := [.native { method := ⟨0, 0⟩, args := #[] }]
def about1 : State := aboutOver below0
def p0 : Program := .bare "" "" ""
def e0 : Env := launch0.env 0 0 0
theorem w_frames : about1.frames = Frame.invoking theMethod args0 :: below0 := rfl
set_option maxRecDepth 65536 in
theorem w_args : argsFit about1.vm theMethod args0 = true := by decide +kernel
set_option maxRecDepth 65536 in
theorem w_heap : heapFits about1 = true := by decide +kernel
set_option maxRecDepth 65536 in
theorem w_runnable : about1.curStatus? = some .runnable := by decide +kernel
set_option maxRecDepth 65536 in
theorem w_alone : about1.alone = true := by decide +kernel
set_option maxRecDepth 65536 in
theorem w_named : about1.methodNamed? x = some theMethod := by decide +kernel
set_option maxRecDepth 65536 in
theorem w_hears : about1.hears theMethod below0 = true := by decide +kernel
set_option maxRecDepth 65536 in
theorem w_ripe : about1.ripe theMethod args0 below0 = true := by decide +kernel
theorem w_running : about1.status = .running := rfl
set_option maxRecDepth 65536 in
theorem w_room : about1.hasRoom e0.platform room_1 = true :=
  launch0.hasRoom_least _ room_1 (by decide +kernel) (by decide +kernel) (by decide +kernel) (by decide +kernel) (by decide +kernel) (by decide +kernel)
theorem allAtoms_all (ts : List Jvm.Cond) (a : Array Jvm.Value) (st : Jvm.State) : (allAtoms ts).before a st = ts.all (fun c => c.before a st) := by
  induction ts with
  | nil => rfl
  | cons c t ih =>
    show (Jvm.Cond.and c (allAtoms t)).before a st = _
    rw [Jvm.Cond.before_and, ih, List.all_cons]
def words1 : List Jvm.Cond := Jvm.Cond.code x code maxLocals ret :: tables_1
/-- a 'code' word, met by the world's own term for the bytes: nothing is compared byte by byte -/
theorem code_word {y : MethodName} {bytes : ByteArray} {mx : Nat} {rt : Option FieldType} {a : Array Value} {s : State} {m : MethodId} {meth : Method} {c : Code} (h1 : s.methodNamed? y = some m) (h2 : s.vm.method? m = some meth) (h3 : meth.code = some c) (h4 : c.code = bytes)
    (h5 : (c.maxLocals == mx && c.exceptionTable.isEmpty && decide (c.maxStack ≤ mostOperands) && decide (meth.sig.returnType = rt) && !meth.locks && decide (parseMethodDescriptor y.desc = some meth.sig)) = true) : (Jvm.Cond.code y bytes mx rt).before a s = true := by
  simp only [Bool.and_eq_true, beq_iff_eq, Bool.not_eq_true', decide_eq_true_eq] at h5
  obtain ⟨⟨⟨⟨⟨g1, g2⟩, g3⟩, g4⟩, g5⟩, g6⟩ := h5
  simp [Cond.before, Cond.holds, Cond.value, h1, h2, h3, h4, g1, g2, g3, g4, g5, g6]
def isCode : Jvm.Cond → Bool
  | .code _ _ _ _ => true
  | _ => false
theorem all_split {L : List Jvm.Cond} {P : Jvm.Cond → Bool} (h1 : L.all (fun c => isCode c || P c) = true) (h2 : ∀ c ∈ L.filter isCode, P c = true) : L.all P = true := by
  refine List.all_eq_true.mpr fun c hc => ?_
  have h := List.all_eq_true.mp h1 c hc
  rcases Bool.eq_false_or_eq_true (isCode c) with hi | hi
  · exact h2 c (List.mem_filter.mpr ⟨hc, hi⟩)
  · simpa [hi] using h
set_option maxRecDepth 65536 in
theorem w_c0 : (Jvm.Cond.code x code maxLocals ret).before args0 about1 = true := code_word (m := ⟨1, 1⟩) (meth := k1m1) (c := k1c1) (by decide +kernel) rfl rfl rfl (by decide +kernel)
set_option maxRecDepth 65536 in
theorem w_c1 : (Jvm.Cond.code ({ cls := "java/lang/String", name := "<init>", desc := "([C)V" } : Jvm.MethodName) jdk_42_method_3_code (2 : Nat) (Option.none : Option Jvm.ClassFile.FieldType)).before args0 about1 = true := code_word (m := ⟨7, 1⟩) (meth := k7m1) (c := k7c1) (by decide +kernel) rfl rfl rfl (by decide +kernel)
set_option maxRecDepth 65536 in
theorem w_c2 : (Jvm.Cond.code ({ cls := "java/lang/String", name := "<init>", desc := "([CIILjava/lang/Void;)V" } : Jvm.MethodName) jdk_42_method_149_code (6 : Nat) (Option.none : Option Jvm.ClassFile.FieldType)).before args0 about1 = true := code_word (m := ⟨7, 6⟩) (meth := k7m6) (c := k7c6) (by decide +kernel) rfl rfl rfl (by decide +kernel)
set_option maxRecDepth 65536 in
theorem w_c3 : (Jvm.Cond.code ({ cls := "java/lang/Object", name := "<init>", desc := "()V" } : Jvm.MethodName) object_method_1_code (1 : Nat) (Option.none : Option Jvm.ClassFile.FieldType)).before args0 about1 = true := code_word (m := ⟨0, 0⟩) (meth := k0m0) (c := k0c0) (by decide +kernel) rfl rfl rfl (by decide +kernel)
set_option maxRecDepth 65536 in
theorem w_c4 : (Jvm.Cond.code ({ cls := "com/example/cradle/cradle/Origin", name := "of", desc := "(Ljava/lang/String;)Lcom/example/cradle/cradle/Origin;" } : Jvm.MethodName) prog_13_method_3_code (1 : Nat) (Option.some (Jvm.ClassFile.FieldType.object "com/example/cradle/cradle/Origin"))).before args0 about1 = true := code_word (m := ⟨8, 1⟩) (meth := k8m1) (c := k8c1) (by decide +kernel) rfl rfl rfl (by decide +kernel)
set_option maxRecDepth 65536 in
theorem w_c5 : (Jvm.Cond.code ({ cls := "java/util/Objects", name := "requireNonNull", desc := "(Ljava/lang/Object;Ljava/lang/String;)Ljava/lang/Object;" } : Jvm.MethodName) jdk_31_method_11_code (2 : Nat) (Option.some (Jvm.ClassFile.FieldType.object "java/lang/Object"))).before args0 about1 = true := code_word (m := ⟨9, 1⟩) (meth := k9m1) (c := k9c1) (by decide +kernel) rfl rfl rfl (by decide +kernel)
set_option maxRecDepth 65536 in
theorem w_c6 : (Jvm.Cond.code ({ cls := "com/example/cradle/cradle/Origin", name := "<init>", desc := "(Ljava/nio/file/Path;ILjava/lang/String;)V" } : Jvm.MethodName) prog_13_method_1_code (4 : Nat) (Option.none : Option Jvm.ClassFile.FieldType)).before args0 about1 = true := code_word (m := ⟨8, 0⟩) (meth := k8m0) (c := k8c0) (by decide +kernel) rfl rfl rfl (by decide +kernel)
set_option maxRecDepth 65536 in
theorem w_c7 : (Jvm.Cond.code ({ cls := "com/example/cradle/cradle/Origin", name := "toString", desc := "()Ljava/lang/String;" } : Jvm.MethodName) prog_13_method_5_code (2 : Nat) (Option.some (Jvm.ClassFile.FieldType.object "java/lang/String"))).before args0 about1 = true := code_word (m := ⟨8, 2⟩) (meth := k8m2) (c := k8c2) (by decide +kernel) rfl rfl rfl (by decide +kernel)
set_option maxRecDepth 65536 in
theorem w_c8 : (Jvm.Cond.code ({ cls := "java/lang/String", name := "length", desc := "()I" } : Jvm.MethodName) jdk_42_method_54_code (1 : Nat) (Option.some Jvm.ClassFile.FieldType.int)).before args0 about1 = true := code_word (m := ⟨7, 2⟩) (meth := k7m2) (c := k7c2) (by decide +kernel) rfl rfl rfl (by decide +kernel)
set_option maxRecDepth 65536 in
theorem w_c9 : (Jvm.Cond.code ({ cls := "java/lang/String", name := "coder", desc := "()B" } : Jvm.MethodName) jdk_42_method_152_code (1 : Nat) (Option.some Jvm.ClassFile.FieldType.byte)).before args0 about1 = true := code_word (m := ⟨7, 8⟩) (meth := k7m8) (c := k7c8) (by decide +kernel) rfl rfl rfl (by decide +kernel)
set_option maxRecDepth 65536 in
theorem w_c10 : (Jvm.Cond.code ({ cls := "java/lang/String", name := "equals", desc := "(Ljava/lang/Object;)Z" } : Jvm.MethodName) jdk_42_method_66_code (3 : Nat) (Option.some Jvm.ClassFile.FieldType.boolean)).before args0 about1 = true := code_word (m := ⟨7, 4⟩) (meth := k7m4) (c := k7c4) (by decide +kernel) rfl rfl rfl (by decide +kernel)
set_option maxRecDepth 65536 in
theorem w_c11 : (Jvm.Cond.code ({ cls := "java/lang/StringUTF16", name := "compress", desc := "([CII)[B" } : Jvm.MethodName) jdk_52_method_16_code (6 : Nat) (Option.some (Jvm.ClassFile.FieldType.array Jvm.ClassFile.FieldType.byte))).before args0 about1 = true := code_word (m := ⟨10, 8⟩) (meth := k10m8) (c := k10c8) (by decide +kernel) rfl rfl rfl (by decide +kernel)
set_option maxRecDepth 65536 in
theorem w_c12 : (Jvm.Cond.code ({ cls := "java/lang/StringUTF16", name := "compress", desc := "([CI[BII)I" } : Jvm.MethodName) jdk_52_method_21_code (7 : Nat) (Option.some Jvm.ClassFile.FieldType.int)).before args0 about1 = true := code_word (m := ⟨10, 9⟩) (meth := k10m9) (c := k10c9) (by decide +kernel) rfl rfl rfl (by decide +kernel)
set_option maxRecDepth 65536 in
theorem w_c13 : (Jvm.Cond.code ({ cls := "java/lang/StringUTF16", name := "coderFromArrayLen", desc := "([BI)B" } : Jvm.MethodName) jdk_52_method_15_code (2 : Nat) (Option.some Jvm.ClassFile.FieldType.byte)).before args0 about1 = true := code_word (m := ⟨10, 7⟩) (meth := k10m7) (c := k10c7) (by decide +kernel) rfl rfl rfl (by decide +kernel)
set_option maxRecDepth 65536 in
theorem w_c14 : (Jvm.Cond.code ({ cls := "java/lang/String", name := "charAt", desc := "(I)C" } : Jvm.MethodName) jdk_42_method_56_code (2 : Nat) (Option.some Jvm.ClassFile.FieldType.char)).before args0 about1 = true := code_word (m := ⟨7, 3⟩) (meth := k7m3) (c := k7c3) (by decide +kernel) rfl rfl rfl (by decide +kernel)
set_option maxRecDepth 65536 in
theorem w_c15 : (Jvm.Cond.code ({ cls := "java/lang/String", name := "isLatin1", desc := "()Z" } : Jvm.MethodName) jdk_42_method_154_code (1 : Nat) (Option.some Jvm.ClassFile.FieldType.boolean)).before args0 about1 = true := code_word (m := ⟨7, 9⟩) (meth := k7m9) (c := k7c9) (by decide +kernel) rfl rfl rfl (by decide +kernel)
set_option maxRecDepth 65536 in
theorem w_c16 : (Jvm.Cond.code ({ cls := "java/lang/StringLatin1", name := "charAt", desc := "([BI)C" } : Jvm.MethodName) jdk_43_method_2_code (2 : Nat) (Option.some Jvm.ClassFile.FieldType.char)).before args0 about1 = true := code_word (m := ⟨11, 1⟩) (meth := k11m1) (c := k11c1) (by decide +kernel) rfl rfl rfl (by decide +kernel)
set_option maxRecDepth 65536 in
theorem w_c17 : (Jvm.Cond.code ({ cls := "java/lang/String", name := "checkIndex", desc := "(II)V" } : Jvm.MethodName) jdk_42_method_155_code (2 : Nat) (Option.none : Option Jvm.ClassFile.FieldType)).before args0 about1 = true := code_word (m := ⟨7, 10⟩) (meth := k7m10) (c := k7c10) (by decide +kernel) rfl rfl rfl (by decide +kernel)
set_option maxRecDepth 65536 in
theorem w_c18 : (Jvm.Cond.code ({ cls := "jdk/internal/util/Preconditions", name := "checkIndex", desc := "(IILjava/util/function/BiFunction;)I" } : Jvm.MethodName) jdk_41_method_11_code (3 : Nat) (Option.some Jvm.ClassFile.FieldType.int)).before args0 about1 = true := code_word (m := ⟨12, 1⟩) (meth := k12m1) (c := k12c1) (by decide +kernel) rfl rfl rfl (by decide +kernel)
set_option maxRecDepth 65536 in
theorem w_c19 : (Jvm.Cond.code ({ cls := "java/lang/StringUTF16", name := "toBytes", desc := "([CII)[B" } : Jvm.MethodName) jdk_52_method_14_code (5 : Nat) (Option.some (Jvm.ClassFile.FieldType.array Jvm.ClassFile.FieldType.byte))).before args0 about1 = true := code_word (m := ⟨10, 6⟩) (meth := k10m6) (c := k10c6) (by decide +kernel) rfl rfl rfl (by decide +kernel)
set_option maxRecDepth 65536 in
theorem w_c20 : (Jvm.Cond.code ({ cls := "java/lang/StringUTF16", name := "newBytesFor", desc := "(I)[B" } : Jvm.MethodName) jdk_52_method_2_code (1 : Nat) (Option.some (Jvm.ClassFile.FieldType.array Jvm.ClassFile.FieldType.byte))).before args0 about1 = true := code_word (m := ⟨10, 1⟩) (meth := k10m1) (c := k10c1) (by decide +kernel) rfl rfl rfl (by decide +kernel)
set_option maxRecDepth 65536 in
theorem w_c21 : (Jvm.Cond.code ({ cls := "java/lang/StringUTF16", name := "newBytesLength", desc := "(I)I" } : Jvm.MethodName) jdk_52_method_3_code (1 : Nat) (Option.some Jvm.ClassFile.FieldType.int)).before args0 about1 = true := code_word (m := ⟨10, 2⟩) (meth := k10m2) (c := k10c2) (by decide +kernel) rfl rfl rfl (by decide +kernel)
set_option maxRecDepth 65536 in
theorem w_c22 : (Jvm.Cond.code ({ cls := "java/lang/StringUTF16", name := "putChar", desc := "([BII)V" } : Jvm.MethodName) jdk_52_method_4_code (3 : Nat) (Option.none : Option Jvm.ClassFile.FieldType)).before args0 about1 = true := code_word (m := ⟨10, 3⟩) (meth := k10m3) (c := k10c3) (by decide +kernel) rfl rfl rfl (by decide +kernel)
set_option maxRecDepth 65536 in
theorem w_c23 : (Jvm.Cond.code ({ cls := "java/lang/StringUTF16", name := "getChar", desc := "([BI)C" } : Jvm.MethodName) jdk_52_method_5_code (2 : Nat) (Option.some Jvm.ClassFile.FieldType.char)).before args0 about1 = true := code_word (m := ⟨10, 4⟩) (meth := k10m4) (c := k10c4) (by decide +kernel) rfl rfl rfl (by decide +kernel)
set_option maxRecDepth 65536 in
theorem w_c24 : (Jvm.Cond.code ({ cls := "java/lang/StringUTF16", name := "charAt", desc := "([BI)C" } : Jvm.MethodName) jdk_52_method_83_code (2 : Nat) (Option.some Jvm.ClassFile.FieldType.char)).before args0 about1 = true := code_word (m := ⟨10, 11⟩) (meth := k10m11) (c := k10c11) (by decide +kernel) rfl rfl rfl (by decide +kernel)
set_option maxRecDepth 65536 in
theorem w_c25 : (Jvm.Cond.code ({ cls := "java/lang/StringUTF16", name := "checkIndex", desc := "(I[B)V" } : Jvm.MethodName) jdk_52_method_91_code (2 : Nat) (Option.none : Option Jvm.ClassFile.FieldType)).before args0 about1 = true := code_word (m := ⟨10, 12⟩) (meth := k10m12) (c := k10c12) (by decide +kernel) rfl rfl rfl (by decide +kernel)
set_option maxRecDepth 65536 in
theorem w_c26 : (Jvm.Cond.code ({ cls := "java/lang/StringUTF16", name := "length", desc := "([B)I" } : Jvm.MethodName) jdk_52_method_6_code (1 : Nat) (Option.some Jvm.ClassFile.FieldType.int)).before args0 about1 = true := code_word (m := ⟨10, 5⟩) (meth := k10m5) (c := k10c5) (by decide +kernel) rfl rfl rfl (by decide +kernel)
set_option maxRecDepth 65536 in
theorem w_c27 : (Jvm.Cond.code ({ cls := "java/lang/String", name := "valueOf", desc := "(C)Ljava/lang/String;" } : Jvm.MethodName) jdk_42_method_139_code (1 : Nat) (Option.some (Jvm.ClassFile.FieldType.object "java/lang/String"))).before args0 about1 = true := code_word (m := ⟨7, 5⟩) (meth := k7m5) (c := k7c5) (by decide +kernel) rfl rfl rfl (by decide +kernel)
set_option maxRecDepth 65536 in
theorem w_c28 : (Jvm.Cond.code ({ cls := "java/lang/StringLatin1", name := "canEncode", desc := "(C)Z" } : Jvm.MethodName) jdk_43_method_3_code (1 : Nat) (Option.some Jvm.ClassFile.FieldType.boolean)).before args0 about1 = true := code_word (m := ⟨11, 2⟩) (meth := k11m2) (c := k11c2) (by decide +kernel) rfl rfl rfl (by decide +kernel)
set_option maxRecDepth 65536 in
theorem w_c29 : (Jvm.Cond.code ({ cls := "java/lang/StringLatin1", name := "toBytes", desc := "(C)[B" } : Jvm.MethodName) jdk_43_method_46_code (1 : Nat) (Option.some (Jvm.ClassFile.FieldType.array Jvm.ClassFile.FieldType.byte))).before args0 about1 = true := code_word (m := ⟨11, 3⟩) (meth := k11m3) (c := k11c3) (by decide +kernel) rfl rfl rfl (by decide +kernel)
set_option maxRecDepth 65536 in
theorem w_c30 : (Jvm.Cond.code ({ cls := "java/lang/String", name := "<init>", desc := "([BB)V" } : Jvm.MethodName) jdk_42_method_151_code (3 : Nat) (Option.none : Option Jvm.ClassFile.FieldType)).before args0 about1 = true := code_word (m := ⟨7, 7⟩) (meth := k7m7) (c := k7c7) (by decide +kernel) rfl rfl rfl (by decide +kernel)
set_option maxRecDepth 65536 in
theorem w_c31 : (Jvm.Cond.code ({ cls := "java/lang/StringUTF16", name := "toBytes", desc := "(C)[B" } : Jvm.MethodName) jdk_52_method_24_code (2 : Nat) (Option.some (Jvm.ClassFile.FieldType.array Jvm.ClassFile.FieldType.byte))).before args0 about1 = true := code_word (m := ⟨10, 10⟩) (meth := k10m10) (c := k10c10) (by decide +kernel) rfl rfl rfl (by decide +kernel)
def codes1 : List Jvm.Cond := [Jvm.Cond.code x code maxLocals ret, Jvm.Cond.code ({ cls := "java/lang/String", name := "<init>", desc := "([C)V" } : Jvm.MethodName) jdk_42_method_3_code (2 : Nat) (Option.none : Option Jvm.ClassFile.FieldType), Jvm.Cond.code ({ cls := "java/lang/String", name := "<init>", desc := "([CIILjava/lang/Void;)V" } : Jvm.MethodName) jdk_42_method_149_code (6 : Nat) (Option.none : Option Jvm.ClassFile.FieldType), Jvm.Cond.code ({ cls := "java/lang/Object", name := "<init>", desc := "()V" } : Jvm.MethodName) object_method_1_code (1 : Nat) (Option.none : Option Jvm.ClassFile.FieldType), Jvm.Cond.code ({ cls := "com/example/cradle/cradle/Origin", name := "of", desc := "(Ljava/lang/String;)Lcom/example/cradle/cradle/Origin;" } : Jvm.MethodName) prog_13_method_3_code (1 : Nat) (Option.some (Jvm.ClassFile.FieldType.object "com/example/cradle/cradle/Origin")), Jvm.Cond.code ({ cls := "java/util/Objects", name := "requireNonNull", desc := "(Ljava/lang/Object;Ljava/lang/String;)Ljava/lang/Object;" } : Jvm.MethodName) jdk_31_method_11_code (2 : Nat) (Option.some (Jvm.ClassFile.FieldType.object "java/lang/Object")), Jvm.Cond.code ({ cls := "com/example/cradle/cradle/Origin", name := "<init>", desc := "(Ljava/nio/file/Path;ILjava/lang/String;)V" } : Jvm.MethodName) prog_13_method_1_code (4 : Nat) (Option.none : Option Jvm.ClassFile.FieldType), Jvm.Cond.code ({ cls := "com/example/cradle/cradle/Origin", name := "toString", desc := "()Ljava/lang/String;" } : Jvm.MethodName) prog_13_method_5_code (2 : Nat) (Option.some (Jvm.ClassFile.FieldType.object "java/lang/String")), Jvm.Cond.code ({ cls := "java/lang/String", name := "length", desc := "()I" } : Jvm.MethodName) jdk_42_method_54_code (1 : Nat) (Option.some Jvm.ClassFile.FieldType.int), Jvm.Cond.code ({ cls := "java/lang/String", name := "coder", desc := "()B" } : Jvm.MethodName) jdk_42_method_152_code (1 : Nat) (Option.some Jvm.ClassFile.FieldType.byte), Jvm.Cond.code ({ cls := "java/lang/String", name := "equals", desc := "(Ljava/lang/Object;)Z" } : Jvm.MethodName) jdk_42_method_66_code (3 : Nat) (Option.some Jvm.ClassFile.FieldType.boolean), Jvm.Cond.code ({ cls := "java/lang/StringUTF16", name := "compress", desc := "([CII)[B" } : Jvm.MethodName) jdk_52_method_16_code (6 : Nat) (Option.some (Jvm.ClassFile.FieldType.array Jvm.ClassFile.FieldType.byte)), Jvm.Cond.code ({ cls := "java/lang/StringUTF16", name := "compress", desc := "([CI[BII)I" } : Jvm.MethodName) jdk_52_method_21_code (7 : Nat) (Option.some Jvm.ClassFile.FieldType.int), Jvm.Cond.code ({ cls := "java/lang/StringUTF16", name := "coderFromArrayLen", desc := "([BI)B" } : Jvm.MethodName) jdk_52_method_15_code (2 : Nat) (Option.some Jvm.ClassFile.FieldType.byte), Jvm.Cond.code ({ cls := "java/lang/String", name := "charAt", desc := "(I)C" } : Jvm.MethodName) jdk_42_method_56_code (2 : Nat) (Option.some Jvm.ClassFile.FieldType.char), Jvm.Cond.code ({ cls := "java/lang/String", name := "isLatin1", desc := "()Z" } : Jvm.MethodName) jdk_42_method_154_code (1 : Nat) (Option.some Jvm.ClassFile.FieldType.boolean), Jvm.Cond.code ({ cls := "java/lang/StringLatin1", name := "charAt", desc := "([BI)C" } : Jvm.MethodName) jdk_43_method_2_code (2 : Nat) (Option.some Jvm.ClassFile.FieldType.char), Jvm.Cond.code ({ cls := "java/lang/String", name := "checkIndex", desc := "(II)V" } : Jvm.MethodName) jdk_42_method_155_code (2 : Nat) (Option.none : Option Jvm.ClassFile.FieldType), Jvm.Cond.code ({ cls := "jdk/internal/util/Preconditions", name := "checkIndex", desc := "(IILjava/util/function/BiFunction;)I" } : Jvm.MethodName) jdk_41_method_11_code (3 : Nat) (Option.some Jvm.ClassFile.FieldType.int), Jvm.Cond.code ({ cls := "java/lang/StringUTF16", name := "toBytes", desc := "([CII)[B" } : Jvm.MethodName) jdk_52_method_14_code (5 : Nat) (Option.some (Jvm.ClassFile.FieldType.array Jvm.ClassFile.FieldType.byte)), Jvm.Cond.code ({ cls := "java/lang/StringUTF16", name := "newBytesFor", desc := "(I)[B" } : Jvm.MethodName) jdk_52_method_2_code (1 : Nat) (Option.some (Jvm.ClassFile.FieldType.array Jvm.ClassFile.FieldType.byte)), Jvm.Cond.code ({ cls := "java/lang/StringUTF16", name := "newBytesLength", desc := "(I)I" } : Jvm.MethodName) jdk_52_method_3_code (1 : Nat) (Option.some Jvm.ClassFile.FieldType.int), Jvm.Cond.code ({ cls := "java/lang/StringUTF16", name := "putChar", desc := "([BII)V" } : Jvm.MethodName) jdk_52_method_4_code (3 : Nat) (Option.none : Option Jvm.ClassFile.FieldType), Jvm.Cond.code ({ cls := "java/lang/StringUTF16", name := "getChar", desc := "([BI)C" } : Jvm.MethodName) jdk_52_method_5_code (2 : Nat) (Option.some Jvm.ClassFile.FieldType.char), Jvm.Cond.code ({ cls := "java/lang/StringUTF16", name := "charAt", desc := "([BI)C" } : Jvm.MethodName) jdk_52_method_83_code (2 : Nat) (Option.some Jvm.ClassFile.FieldType.char), Jvm.Cond.code ({ cls := "java/lang/StringUTF16", name := "checkIndex", desc := "(I[B)V" } : Jvm.MethodName) jdk_52_method_91_code (2 : Nat) (Option.none : Option Jvm.ClassFile.FieldType), Jvm.Cond.code ({ cls := "java/lang/StringUTF16", name := "length", desc := "([B)I" } : Jvm.MethodName) jdk_52_method_6_code (1 : Nat) (Option.some Jvm.ClassFile.FieldType.int), Jvm.Cond.code ({ cls := "java/lang/String", name := "valueOf", desc := "(C)Ljava/lang/String;" } : Jvm.MethodName) jdk_42_method_139_code (1 : Nat) (Option.some (Jvm.ClassFile.FieldType.object "java/lang/String")), Jvm.Cond.code ({ cls := "java/lang/StringLatin1", name := "canEncode", desc := "(C)Z" } : Jvm.MethodName) jdk_43_method_3_code (1 : Nat) (Option.some Jvm.ClassFile.FieldType.boolean), Jvm.Cond.code ({ cls := "java/lang/StringLatin1", name := "toBytes", desc := "(C)[B" } : Jvm.MethodName) jdk_43_method_46_code (1 : Nat) (Option.some (Jvm.ClassFile.FieldType.array Jvm.ClassFile.FieldType.byte)), Jvm.Cond.code ({ cls := "java/lang/String", name := "<init>", desc := "([BB)V" } : Jvm.MethodName) jdk_42_method_151_code (3 : Nat) (Option.none : Option Jvm.ClassFile.FieldType), Jvm.Cond.code ({ cls := "java/lang/StringUTF16", name := "toBytes", desc := "(C)[B" } : Jvm.MethodName) jdk_52_method_24_code (2 : Nat) (Option.some (Jvm.ClassFile.FieldType.array Jvm.ClassFile.FieldType.byte))]
set_option maxRecDepth 65536 in
theorem codes_eq : words1.filter isCode = codes1 := rfl
theorem w_codes : ∀ c ∈ words1.filter isCode, c.before args0 about1 = true := by
  rw [codes_eq]
  intro c hc
  simp only [codes1, List.mem_cons, List.not_mem_nil, or_false] at hc
  rcases hc with rfl | rfl | rfl | rfl | rfl | rfl | rfl | rfl | rfl | rfl | rfl | rfl | rfl | rfl | rfl | rfl | rfl | rfl | rfl | rfl | rfl | rfl | rfl | rfl | rfl | rfl | rfl | rfl | rfl | rfl | rfl | rfl
  · exact w_c0
  · exact w_c1
  · exact w_c2
  · exact w_c3
  · exact w_c4
  · exact w_c5
  · exact w_c6
  · exact w_c7
  · exact w_c8
  · exact w_c9
  · exact w_c10
  · exact w_c11
  · exact w_c12
  · exact w_c13
  · exact w_c14
  · exact w_c15
  · exact w_c16
  · exact w_c17
  · exact w_c18
  · exact w_c19
  · exact w_c20
  · exact w_c21
  · exact w_c22
  · exact w_c23
  · exact w_c24
  · exact w_c25
  · exact w_c26
  · exact w_c27
  · exact w_c28
  · exact w_c29
  · exact w_c30
  · exact w_c31
set_option maxRecDepth 65536 in
theorem w_t1 : (words1.take 24).all (fun c => isCode c || c.before args0 about1) = true := by decide +kernel
set_option maxRecDepth 65536 in
theorem w_t2 : ((words1.drop 24).take 24).all (fun c => isCode c || c.before args0 about1) = true := by decide +kernel
set_option maxRecDepth 65536 in
theorem w_t3 : (((words1.drop 24).drop 24).take 24).all (fun c => isCode c || c.before args0 about1) = true := by decide +kernel
set_option maxRecDepth 65536 in
theorem w_t4 : ((((words1.drop 24).drop 24).drop 24).take 24).all (fun c => isCode c || c.before args0 about1) = true := by decide +kernel
set_option maxRecDepth 65536 in
theorem w_t5 : (((((words1.drop 24).drop 24).drop 24).drop 24).take 24).all (fun c => isCode c || c.before args0 about1) = true := by decide +kernel
set_option maxRecDepth 65536 in
theorem w_t6 : (((((words1.drop 24).drop 24).drop 24).drop 24).drop 24).all (fun c => isCode c || c.before args0 about1) = true := by decide +kernel
theorem w_tables : (allAtoms (Jvm.Cond.code x code maxLocals ret :: tables_1)).before args0 about1 = true := by
  rw [allAtoms_all]
  show words1.all (fun c => c.before args0 about1) = true
  refine all_split ?_ w_codes
  rw [← List.take_append_drop 24 words1, List.all_append, w_t1, ← List.take_append_drop 24 (words1.drop 24), List.all_append, w_t2, ← List.take_append_drop 24 ((words1.drop 24).drop 24), List.all_append, w_t3, ← List.take_append_drop 24 (((words1.drop 24).drop 24).drop 24), List.all_append, w_t4, ← List.take_append_drop 24 ((((words1.drop 24).drop 24).drop 24).drop 24), List.all_append, w_t5, w_t6]
  rfl
set_option maxRecDepth 65536 in
theorem w_rest : rest_1_c.before args0 about1 = true := by decide +kernel
set_option maxRecDepth 65536 in
theorem w_case : (Jvm.Cond.and given_1 narrow_1).before args0 about1 = true := by decide +kernel
set_option maxRecDepth 65536 in
theorem w_consts : constsHeld consts_1 about1 := Jvm.Lit.constsHeldB_iff.mp (by decide +kernel)
theorem w_applies : (headSpec (Jvm.Cond.code x code maxLocals ret :: tables_1) room_1).applies x e0.platform about1 = true :=
  (Spec.applies_iff w_frames).mpr ⟨w_running, w_runnable, w_alone, w_named, w_hears, w_ripe, w_room, w_tables⟩
theorem atStart : AtStart classFile x code maxLocals ret World_1 tables_1 room_1 Calls_1 rest_1 Pre_1 launch0 p0 e0 about1 theMethod args0 below0 :=
  ⟨lists_1, trivial, launch0.admits_env _ _ _, launch0.least_env, fairChoices_fair.cas, fairChoices_fair.clock, w_frames, w_args, w_heap, w_applies, ⟨w_consts, trivial⟩, w_rest, w_case⟩
end start1
theorem witness_1 : WitnessClaimed_1 := ⟨start1.p0, start1.e0, start1.about1, start1.theMethod, start1.args0, start1.below0, start1.atStart⟩
end Jvm.Pilot.@@N@@
