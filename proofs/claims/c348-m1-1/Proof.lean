import JvmDerived
import JvmDerived.Pilot.@@N@@Statement
import JvmDerived.Pilot.@@N@@Code
set_option linter.unusedVariables false
set_option linter.unusedSimpArgs false
@@BLOCK:NumsL.lean.txt@@
namespace Jvm.Pilot.@@N@@
open Jvm Jvm.ClassFile Sem Op Lib Jvm.Free Jvm.Stand Jvm.LawKit Jvm.RoadKit Bundle Jvm.Pilot.@@N@@.Jvm.D
/-! A small calculus over the library's laws: the cells that the walk itself has made stand in a list (an object: its class and fields; an array: its kind and elements); K pc locals stack cells .. says that the run from there ends as the contract says. -/
abbrev ACell := (String × List (String × String × Value)) ⊕ (FieldType × List Value)
abbrev AHeap := List ACell
def ad (n0 i : Nat) : Addr := n0 + i
theorem ad_le (n0 i : Nat) : n0 ≤ ad n0 i := Nat.le_add_right _ _
theorem ad_ne {n0 i j : Nat} (h : i ≠ j) : ad n0 i ≠ ad n0 j := fun e => h (Nat.add_left_cancel e)
def COk (Z : State) (a0 : Array Value) (h : Heap) (a : Addr) : ACell → Prop
  | .inl (C, fs) => Exa Z h a C ∧ (fs.map Prod.fst).Nodup ∧ ∀ (j : Nat) (n d : String) (v : Value), fs[j]? = some (n, d, v) → Fld Z h a C n d v ∧ Laid Z a0 C C n d ∧ ∃ t, parseFieldDescriptor d = some t
  | .inr (ty, vs) => Exa Z h a ("[" ++ ty.toString) ∧ ∃ c : Cell, Arr Z h a c ty ∧ c.slots = vs.toArray ∧ vs.length < 2147483648 ∧ ∀ v ∈ vs, fits ty v = true
def Rep (Z : State) (a0 : Array Value) (n0 : Nat) (h : Heap) (A : AHeap) : Prop := h.size = n0 + A.length ∧ ∀ (i : Nat) (c : ACell), A[i]? = some c → COk Z a0 h (ad n0 i) c
section Reps
variable {Z : State} {a0 : Array Value} {n0 : Nat} {h h' : Heap} {A : AHeap}
theorem COk.ext {a : Addr} {c : ACell} (E : Ext h h') (H : COk Z a0 h a c) : COk Z a0 h' a c := by
  match c, H with
  | .inl (C, fs), ⟨h1, h2, h3⟩ => exact ⟨h1.ext E, h2, fun j n d v hj => ⟨(h3 j n d v hj).1.ext E, (h3 j n d v hj).2⟩⟩
  | .inr (ty, vs), ⟨h0, c, h1, h2⟩ => exact ⟨h0.ext E, c, h1.ext E, h2⟩
theorem COk.other {a b : Addr} {sl : Nat} {v : Value} {c : ACell} (W : Wr h h' a sl v) (ne : b ≠ a) (H : COk Z a0 h b c) : COk Z a0 h' b c := by
  match c, H with
  | .inl (C, fs), ⟨h1, h2, h3⟩ => exact ⟨h1.wr W, h2, fun j n d v hj => ⟨(h3 j n d v hj).1.other W (Or.inl ne), (h3 j n d v hj).2⟩⟩
  | .inr (ty, vs), ⟨h0, c, h1, h2⟩ => exact ⟨h0.wr W, c, h1.other W ne, h2⟩
theorem Rep.nil (Z : State) (a0 : Array Value) (h : Heap) : Rep Z a0 h.size h [] := ⟨rfl, fun i c hi => by simp at hi⟩
theorem Rep.push {c : ACell} (H : Rep Z a0 n0 h A) (E : Ext h h') (hs : h'.size = h.size + 1) (hc : COk Z a0 h' h.size c) : Rep Z a0 n0 h' (A ++ [c]) := by
  refine ⟨by rw [hs, H.1]; simp [Nat.add_assoc], fun i d hi => ?_⟩
  rcases Nat.lt_or_ge i A.length with q | q
  · rw [List.getElem?_append_left q] at hi
    exact (H.2 i d hi).ext E
  · rw [List.getElem?_append_right q] at hi
    have hz : i - A.length = 0 := by
      rcases Nat.eq_zero_or_pos (i - A.length) with z | z
      · exact z
      · rw [List.getElem?_eq_none (by simp; omega)] at hi; cases hi
    rw [hz] at hi
    cases hi
    have : ad n0 i = h.size := by rw [H.1]; show n0 + i = _; omega
    rw [this]; exact hc
theorem Rep.wr {i : Nat} {sl : Nat} {v : Value} {c : ACell} (H : Rep Z a0 n0 h A) (W : Wr h h' (ad n0 i) sl v) (hc : COk Z a0 h' (ad n0 i) c) : Rep Z a0 n0 h' (A.set i c) := by
  refine ⟨by rw [W.size, H.1]; simp, fun j d hj => ?_⟩
  rw [List.getElem?_set] at hj
  split at hj
  · rename_i e
    subst e
    split at hj
    · cases hj; exact hc
    · cases hj
  · rename_i ne
    exact (H.2 j d hj).other W (ad_ne fun e => ne e.symm)
theorem nodup_at {L : List String} {i j : Nat} {x : String} (hn : L.Nodup) (hi : L[i]? = some x) (hj : L[j]? = some x) : i = j :=
  (List.getElem?_inj (List.getElem?_eq_some_iff.mp hi).1 hn).mp (hi.trans hj.symm)
theorem COk.put {a : Addr} {C n d : String} {v old : Value} {fs : List (String × String × Value)} {j : Nat} (H : COk Z a0 h a (.inl (C, fs))) (hj : fs[j]? = some (n, d, old)) (W : Wr h h' a (Jvm.RoadKit.slotOf Z C n d) v) : COk Z a0 h' a (.inl (C, fs.set j (n, d, v))) := by
  obtain ⟨h1, h2, h3⟩ := H
  have hm : (fs.set j (n, d, v)).map Prod.fst = fs.map Prod.fst := by
    rw [List.map_set]
    obtain ⟨hl, e⟩ := List.getElem?_eq_some_iff.mp hj
    apply List.ext_getElem?
    intro k
    rw [List.getElem?_set]
    split
    · rename_i e2; subst e2; simp [hl, e]
    · rfl
  refine ⟨h1.wr W, by rw [hm]; exact h2, fun k n' d' v' hk => ?_⟩
  rw [List.getElem?_set] at hk
  split at hk
  · rename_i e; subst e
    split at hk
    · cases hk; exact ⟨(h3 j n d old hj).1.same W, (h3 j n d old hj).2⟩
    · cases hk
  · rename_i ne
    have q := h3 k n' d' v' hk
    obtain ⟨q1, q2, t', q3⟩ := q
    obtain ⟨-, p2, t, p3⟩ := h3 j n d old hj
    refine ⟨q1.other W (Or.inr (slot_ne q2 p2 ?_ q3 p3)), q2, t', q3⟩
    intro e
    subst e
    exact ne (nodup_at h2 (i := j) (j := k) (x := n') (by simp [hj]) (by simp [hk]))
theorem COk.store {a : Addr} {ty : FieldType} {vs : List Value} {v : Value} {j : Nat} (H : COk Z a0 h a (.inr (ty, vs))) (hf : fits ty v = true) (W : Wr h h' a j v) : COk Z a0 h' a (.inr (ty, vs.set j v)) := by
  obtain ⟨h0, c, h1, h2, h3, h4⟩ := H
  refine ⟨h0.wr W, _, h1.same W, ?_, by simpa using h3, fun w hw => ?_⟩
  · show c.slots.setIfInBounds j v = _
    rw [h2]; simp
  · rcases List.mem_or_eq_of_mem_set hw with q | rfl
    · exact h4 w q
    · exact hf
def FOk (Z : State) (a0 : Array Value) (C : String) (fs : List (String × String × Value)) : Prop := (fs.map Prod.fst).Nodup ∧ ∀ f ∈ fs, Laid Z a0 C C f.1 f.2.1 ∧ ∃ t, parseFieldDescriptor f.2.1 = some t ∧ defaultValue t = f.2.2
theorem FOk.nil (C : String) : FOk Z a0 C [] := ⟨List.nodup_nil, fun f hf => nomatch hf⟩
theorem FOk.cons {C n d : String} {t : FieldType} {fs : List (String × String × Value)} (H : FOk Z a0 C fs) (L : Laid Z a0 C C n d) (ht : parseFieldDescriptor d = some t) (hn : n ∉ fs.map Prod.fst) : FOk Z a0 C ((n, d, defaultValue t) :: fs) := by
  refine ⟨by simp only [List.map_cons]; exact List.nodup_cons.mpr ⟨hn, H.1⟩, fun f hf => ?_⟩
  rcases List.mem_cons.mp hf with rfl | q
  · exact ⟨L, t, ht, rfl⟩
  · exact H.2 f q
theorem set_at {i : Nat} {c X : ACell} (h : A[i]? = some c) : (A.set i X)[i]? = some X := by
  obtain ⟨hl, -⟩ := List.getElem?_eq_some_iff.mp h
  simp [hl]
theorem set_ne {i j : Nat} {c X : ACell} (ne : i ≠ j) (h : A[j]? = some c) : (A.set i X)[j]? = some c := by
  rw [List.getElem?_set_ne ne]; exact h
end Reps
/-- Java's x >>> y -/
def ushr (x y : Int32) : Int32 := (x.toUInt32 >>> (y &&& 31).toUInt32).toInt32
def ushrL (x : Int64) (y : Int32) : Int64 := (x.toUInt64 >>> (y &&& 0x3f).toInt64.toUInt64).toInt64
abbrev KK := Nat → List Slot → List Value → AHeap → Nat → Nat → Prop
def Gd (l : Launch) (Z : State) (a0 : Array Value) (n0 b : Nat) (R : Room) (cs ss : Nat) (own nm : String) (code : ByteArray) (ml : Nat) (ret : Option FieldType) (Q : Option Value → AHeap → Prop) (K : KK) : Prop :=
  ∃ (p : Program) (e : Env) (s : State) (m : MethodId) (args : Array Value) (below : List Frame) (meth : Method) (c : Code),
    p.tables.exec = Jvm.exec ∧ c.code = code ∧ c.maxLocals = ml ∧ s.vm.findClass own = some m.cls ∧ meth.name = nm ∧ Z.Warmed39 s.vm ∧ meth.sig.returnType = ret ∧ meth.locks = false ∧ s.heap.size = n0 + b ∧
    K = fun pc Ls st A k n => ∀ (T : State) (locs : List Loc), Stand p l e R s m args below meth c T locs k n → Fr n0 locs → A.length = b + k → Rep Z a0 n0 T.heap A →
      ∃ s₂ o, Steps p.tables e below (T.setTop (mkF m pc Ls.toArray st)) s₂ ∧ s₂.status = .running ∧ Ended s₂ below o ∧ ∃ v L, o = .returned v ∧ (Fr n0 L ∧ ∃ A', Q v A' ∧ Rep Z a0 n0 s₂.heap A') ∧ FrameEnd s o s₂ L cs ss
def Meth (l : Launch) (Z : State) (a0 : Array Value) (ws : List Jvm.Cond) (y : MethodName) (bytes : ByteArray) (maxL : Nat) (ret : Option FieldType) (rm : Room) (cs ss : Nat) (n0 : Nat) (as : Array Value) (A : AHeap) (Q : Option Value → AHeap → Prop) : Prop :=
  ∀ h0, Rep Z a0 n0 h0 A → MetFree l y (head1 (Jvm.Cond.code y bytes maxL ret :: ws) rm) (fun a U => a = as ∧ Z.Warmed39 U.vm ∧ U.heap = h0) (fun _ _ _ _ _ => True)
    (fun _ U o U' => ∃ v L, o = .returned v ∧ (Fr n0 L ∧ ∃ A', Q v A' ∧ Rep Z a0 n0 U'.heap A') ∧ FrameEnd U o U' L cs ss)
section Rules
variable {l : Launch} {Z : State} {a0 : Array Value} {n0 b : Nat} {R : Room} {cs ss : Nat} {own nm : String} {code : ByteArray} {ml : Nat} {ret : Option FieldType} {Q : Option Value → AHeap → Prop} {K : KK} {pc pc' : Nat} {Ls Ls' : List Slot} {st st' : List Value} {A A' : AHeap} {k n k' n' : Nat}
theorem Meth.of {ws : List Jvm.Cond} {y : MethodName} {as : Array Value} (hp : plainFor y = true) (he : ∀ m : MethodId, entryFrame m as ml = mkF m 0 Ls.toArray []) (body : ∀ K, Gd l Z a0 n0 A.length R cs ss y.cls y.name code ml ret Q K → K 0 Ls [] A 0 0) : Meth l Z a0 ws y code ml ret R cs ss n0 as A Q := by
  intro h0 hR
  refine MetFree.of_bodySF hp hisR ?_
  intro p e s m args below meth c s₁ Bd hml0 hP hK
  obtain ⟨rfl, hZ, hh⟩ := hP
  have X0 : Stand p l e R s m args below meth c s₁ [] 0 0 := Stand.of_body Bd
  have e0 : s₁.heap = h0 := by rw [← hh, Bd.state]; rfl
  have q := body _ ⟨p, e, s, m, args, below, meth, c, Bd.exec, Bd.bytes, hml0, findClass_of_methodNamed Bd.named, (name_of_methodNamed Bd.named Bd.method).1, hZ, Bd.returns, Bd.notSynchronized, by rw [hh]; exact hR.1, rfl⟩ s₁ [] X0 (Fr.nil n0) rfl (by rw [e0]; exact hR)
  obtain ⟨s₂, o, h1, h2, h3, h4⟩ := q
  exact ⟨s₂, o, castTop (he m) h1, h2, h3, h4⟩
theorem Gd.run1 (G : Gd l Z a0 n0 b R cs ss own nm code ml ret Q K) (hst : ∀ (p : Program) (e : Env) (below : List Frame) (T target : State) (m : MethodId) (c : Code), p.tables.exec = Jvm.exec → c.code = code → At T m c below → Steps p.tables e below (T.setTop (mkF m pc' Ls'.toArray st')) target → Steps p.tables e below (T.setTop (mkF m pc Ls.toArray st)) target) (h : K pc' Ls' st' A k n) : K pc Ls st A k n := by
  obtain ⟨p, e, s, m, args, below, meth, c, hx, hby, -, -, -, -, -, -, -, rfl⟩ := G
  intro T locs X N hA RP
  obtain ⟨s₂, o, hs, r⟩ := h T locs X N hA RP
  exact ⟨s₂, o, hst p e below T s₂ m c hx hby X.here hs, r⟩
/-- the count of slots may grow -/
theorem Gd.more (G : Gd l Z a0 n0 b R cs ss own nm code ml ret Q K) (hn : n ≤ n') (h : K pc Ls st A k n') : K pc Ls st A k n := by
  obtain ⟨p, e, s, m, args, below, meth, c, hx, hby, -, -, -, -, -, -, -, rfl⟩ := G
  intro T locs X N hA RP
  exact h T locs (X.more (Nat.le_refl _) hn) N hA RP
theorem lat {L : List Slot} {i : Nat} {o : Slot} (h : L[i]? = some o) : L.toArray[i]? = some o := by simpa using h
theorem Gd.iloadN (G : Gd l Z a0 n0 b R cs ss own nm code ml ret Q K) {i : Fin 4} {v : Int32} (hd : decode code pc = .ok (.iload_n i, 1)) (hl : Ls[i.val]? = some (.val (.int v))) (h : K (pc + 1) Ls (.int v :: st) A k n) : K pc Ls st A k n :=
  G.run1 (fun _ _ _ _ _ _ _ hx hby hA r => XS.iloadN hA hx rfl (hb hby hd) (lat hl) r) h
theorem Gd.iload (G : Gd l Z a0 n0 b R cs ss own nm code ml ret Q K) {i : Nat} {v : Int32} (hd : decode code pc = .ok (.iload i, 2)) (hl : Ls[i]? = some (.val (.int v))) (h : K (pc + 2) Ls (.int v :: st) A k n) : K pc Ls st A k n :=
  G.run1 (fun _ _ _ _ _ _ _ hx hby hA r => XS.iload hA hx rfl (hb hby hd) (lat hl) r) h
theorem Gd.lloadN (G : Gd l Z a0 n0 b R cs ss own nm code ml ret Q K) {i : Fin 4} {v : Int64} (hd : decode code pc = .ok (.lload_n i, 1)) (hl : Ls[i.val]? = some (.val (.long v))) (h : K (pc + 1) Ls (.long v :: st) A k n) : K pc Ls st A k n :=
  G.run1 (fun _ _ _ _ _ _ _ hx hby hA r => XS.lloadN hA hx rfl (hb hby hd) (lat hl) r) h
theorem Gd.lload (G : Gd l Z a0 n0 b R cs ss own nm code ml ret Q K) {i : Nat} {v : Int64} (hd : decode code pc = .ok (.lload i, 2)) (hl : Ls[i]? = some (.val (.long v))) (h : K (pc + 2) Ls (.long v :: st) A k n) : K pc Ls st A k n :=
  G.run1 (fun _ _ _ _ _ _ _ hx hby hA r => XS.lload hA hx rfl (hb hby hd) (lat hl) r) h
theorem Gd.aloadN (G : Gd l Z a0 n0 b R cs ss own nm code ml ret Q K) {i : Fin 4} {v : Value} (hd : decode code pc = .ok (.aload_n i, 1)) (hl : Ls[i.val]? = some (.val v)) (hv : v.isRef = true) (h : K (pc + 1) Ls (v :: st) A k n) : K pc Ls st A k n :=
  G.run1 (fun _ _ _ _ _ _ _ hx hby hA r => XS.aloadN hA hx rfl (hb hby hd) (lat hl) hv r) h
theorem Gd.aload (G : Gd l Z a0 n0 b R cs ss own nm code ml ret Q K) {i : Nat} {v : Value} (hd : decode code pc = .ok (.aload i, 2)) (hl : Ls[i]? = some (.val v)) (hv : v.isRef = true) (h : K (pc + 2) Ls (v :: st) A k n) : K pc Ls st A k n :=
  G.run1 (fun _ _ _ _ _ _ _ hx hby hA r => XS.aload hA hx rfl (hb hby hd) (lat hl) hv r) h
theorem Gd.iconst (G : Gd l Z a0 n0 b R cs ss own nm code ml ret Q K) {i : Int} (z : Int32) (hd : decode code pc = .ok (.iconst i, 1)) (hz : Int32.ofInt i = z) (h : K (pc + 1) Ls (.int z :: st) A k n) : K pc Ls st A k n :=
  G.run1 (fun _ _ _ _ _ _ _ hx hby hA r => XS.iconst hA hx rfl (hb hby hd) (by rw [hz]; exact r)) h
theorem Gd.bipush (G : Gd l Z a0 n0 b R cs ss own nm code ml ret Q K) {i : Int} (z : Int32) (hd : decode code pc = .ok (.bipush i, 2)) (hz : (Int8.ofInt i).toInt32 = z) (h : K (pc + 2) Ls (.int z :: st) A k n) : K pc Ls st A k n :=
  G.run1 (fun _ _ _ _ _ _ _ hx hby hA r => XS.bipush hA hx rfl (hb hby hd) (by rw [hz]; exact r)) h
theorem Gd.sipush (G : Gd l Z a0 n0 b R cs ss own nm code ml ret Q K) {i : Int} (z : Int32) (hd : decode code pc = .ok (.sipush i, 3)) (hz : (Int16.ofInt i).toInt32 = z) (h : K (pc + 3) Ls (.int z :: st) A k n) : K pc Ls st A k n :=
  G.run1 (fun _ _ _ _ _ _ _ hx hby hA r => XS.sipush hA hx rfl (hb hby hd) (by rw [hz]; exact r)) h
theorem Gd.lconst (G : Gd l Z a0 n0 b R cs ss own nm code ml ret Q K) {i : Fin 2} (z : Int64) (hd : decode code pc = .ok (.lconst i, 1)) (hz : Int64.ofNat i = z) (h : K (pc + 1) Ls (.long z :: st) A k n) : K pc Ls st A k n :=
  G.run1 (fun _ _ _ _ _ _ _ hx hby hA r => XS.lconst hA hx rfl (hb hby hd) (by rw [hz]; exact r)) h
theorem Gd.aconstNull (G : Gd l Z a0 n0 b R cs ss own nm code ml ret Q K) (hd : decode code pc = .ok (.aconst_null, 1)) (h : K (pc + 1) Ls (.null :: st) A k n) : K pc Ls st A k n :=
  G.run1 (fun _ _ _ _ _ _ _ hx hby hA r => XS.aconstNull hA hx rfl (hb hby hd) r) h
theorem Gd.iadd (G : Gd l Z a0 n0 b R cs ss own nm code ml ret Q K) {x y : Int32} (hd : decode code pc = .ok (.iadd, 1)) (h : K (pc + 1) Ls (.int (x + y) :: st) A k n) : K pc Ls (.int y :: .int x :: st) A k n :=
  G.run1 (fun _ _ _ _ _ _ _ hx hby hA r => XS.iadd hA hx rfl (hb hby hd) rfl r) h
theorem Gd.isub (G : Gd l Z a0 n0 b R cs ss own nm code ml ret Q K) {x y : Int32} (hd : decode code pc = .ok (.isub, 1)) (h : K (pc + 1) Ls (.int (x - y) :: st) A k n) : K pc Ls (.int y :: .int x :: st) A k n :=
  G.run1 (fun _ _ _ _ _ _ _ hx hby hA r => XS.isub hA hx rfl (hb hby hd) rfl r) h
theorem Gd.imul (G : Gd l Z a0 n0 b R cs ss own nm code ml ret Q K) {x y : Int32} (hd : decode code pc = .ok (.imul, 1)) (h : K (pc + 1) Ls (.int (x * y) :: st) A k n) : K pc Ls (.int y :: .int x :: st) A k n :=
  G.run1 (fun _ _ _ _ _ _ _ hx hby hA r => XS.imul hA hx rfl (hb hby hd) rfl r) h
theorem Gd.iand (G : Gd l Z a0 n0 b R cs ss own nm code ml ret Q K) {x y : Int32} (hd : decode code pc = .ok (.iand, 1)) (h : K (pc + 1) Ls (.int (x &&& y) :: st) A k n) : K pc Ls (.int y :: .int x :: st) A k n :=
  G.run1 (fun _ _ _ _ _ _ _ hx hby hA r => XS.iand hA hx rfl (hb hby hd) rfl r) h
theorem Gd.ior (G : Gd l Z a0 n0 b R cs ss own nm code ml ret Q K) {x y : Int32} (hd : decode code pc = .ok (.ior, 1)) (h : K (pc + 1) Ls (.int (x ||| y) :: st) A k n) : K pc Ls (.int y :: .int x :: st) A k n :=
  G.run1 (fun _ _ _ _ _ _ _ hx hby hA r => XS.ior hA hx rfl (hb hby hd) rfl r) h
theorem Gd.ixor (G : Gd l Z a0 n0 b R cs ss own nm code ml ret Q K) {x y : Int32} (hd : decode code pc = .ok (.ixor, 1)) (h : K (pc + 1) Ls (.int (x ^^^ y) :: st) A k n) : K pc Ls (.int y :: .int x :: st) A k n :=
  G.run1 (fun _ _ _ _ _ _ _ hx hby hA r => XS.ixor hA hx rfl (hb hby hd) rfl r) h
theorem Gd.ishl (G : Gd l Z a0 n0 b R cs ss own nm code ml ret Q K) {x y : Int32} (hd : decode code pc = .ok (.ishl, 1)) (h : K (pc + 1) Ls (.int (x <<< (y &&& 31)) :: st) A k n) : K pc Ls (.int y :: .int x :: st) A k n :=
  G.run1 (fun _ _ _ _ _ _ _ hx hby hA r => XS.ishl hA hx rfl (hb hby hd) rfl r) h
theorem Gd.ishr (G : Gd l Z a0 n0 b R cs ss own nm code ml ret Q K) {x y : Int32} (hd : decode code pc = .ok (.ishr, 1)) (h : K (pc + 1) Ls (.int (x >>> (y &&& 31)) :: st) A k n) : K pc Ls (.int y :: .int x :: st) A k n :=
  G.run1 (fun _ _ _ _ _ _ _ hx hby hA r => XS.ishr hA hx rfl (hb hby hd) rfl r) h
theorem Gd.iushr (G : Gd l Z a0 n0 b R cs ss own nm code ml ret Q K) {x y : Int32} (hd : decode code pc = .ok (.iushr, 1)) (h : K (pc + 1) Ls (.int (ushr x y) :: st) A k n) : K pc Ls (.int y :: .int x :: st) A k n :=
  G.run1 (fun _ _ _ _ _ _ _ hx hby hA r => XS.iushr hA hx rfl (hb hby hd) rfl r) h
theorem Gd.ladd (G : Gd l Z a0 n0 b R cs ss own nm code ml ret Q K) {x y : Int64} (hd : decode code pc = .ok (.ladd, 1)) (h : K (pc + 1) Ls (.long (x + y) :: st) A k n) : K pc Ls (.long y :: .long x :: st) A k n :=
  G.run1 (fun _ _ _ _ _ _ _ hx hby hA r => XS.ladd hA hx rfl (hb hby hd) rfl r) h
theorem Gd.lsub (G : Gd l Z a0 n0 b R cs ss own nm code ml ret Q K) {x y : Int64} (hd : decode code pc = .ok (.lsub, 1)) (h : K (pc + 1) Ls (.long (x - y) :: st) A k n) : K pc Ls (.long y :: .long x :: st) A k n :=
  G.run1 (fun _ _ _ _ _ _ _ hx hby hA r => XS.lsub hA hx rfl (hb hby hd) rfl r) h
theorem Gd.lmul (G : Gd l Z a0 n0 b R cs ss own nm code ml ret Q K) {x y : Int64} (hd : decode code pc = .ok (.lmul, 1)) (h : K (pc + 1) Ls (.long (x * y) :: st) A k n) : K pc Ls (.long y :: .long x :: st) A k n :=
  G.run1 (fun _ _ _ _ _ _ _ hx hby hA r => XS.lmul hA hx rfl (hb hby hd) rfl r) h
theorem Gd.land (G : Gd l Z a0 n0 b R cs ss own nm code ml ret Q K) {x y : Int64} (hd : decode code pc = .ok (.land, 1)) (h : K (pc + 1) Ls (.long (x &&& y) :: st) A k n) : K pc Ls (.long y :: .long x :: st) A k n :=
  G.run1 (fun _ _ _ _ _ _ _ hx hby hA r => XS.land hA hx rfl (hb hby hd) rfl r) h
theorem Gd.lor (G : Gd l Z a0 n0 b R cs ss own nm code ml ret Q K) {x y : Int64} (hd : decode code pc = .ok (.lor, 1)) (h : K (pc + 1) Ls (.long (x ||| y) :: st) A k n) : K pc Ls (.long y :: .long x :: st) A k n :=
  G.run1 (fun _ _ _ _ _ _ _ hx hby hA r => XS.lor hA hx rfl (hb hby hd) rfl r) h
theorem Gd.lxor (G : Gd l Z a0 n0 b R cs ss own nm code ml ret Q K) {x y : Int64} (hd : decode code pc = .ok (.lxor, 1)) (h : K (pc + 1) Ls (.long (x ^^^ y) :: st) A k n) : K pc Ls (.long y :: .long x :: st) A k n :=
  G.run1 (fun _ _ _ _ _ _ _ hx hby hA r => XS.lxor hA hx rfl (hb hby hd) rfl r) h
theorem Gd.lshl (G : Gd l Z a0 n0 b R cs ss own nm code ml ret Q K) {x : Int64} {y : Int32} (hd : decode code pc = .ok (.lshl, 1)) (h : K (pc + 1) Ls (.long (x <<< (y &&& 0x3f).toInt64) :: st) A k n) : K pc Ls (.int y :: .long x :: st) A k n :=
  G.run1 (fun _ _ _ _ _ _ _ hx hby hA r => XS.lshl hA hx rfl (hb hby hd) rfl r) h
theorem Gd.lshr (G : Gd l Z a0 n0 b R cs ss own nm code ml ret Q K) {x : Int64} {y : Int32} (hd : decode code pc = .ok (.lshr, 1)) (h : K (pc + 1) Ls (.long (x >>> (y &&& 0x3f).toInt64) :: st) A k n) : K pc Ls (.int y :: .long x :: st) A k n :=
  G.run1 (fun _ _ _ _ _ _ _ hx hby hA r => XS.lshr hA hx rfl (hb hby hd) rfl r) h
theorem Gd.lushr (G : Gd l Z a0 n0 b R cs ss own nm code ml ret Q K) {x : Int64} {y : Int32} (hd : decode code pc = .ok (.lushr, 1)) (h : K (pc + 1) Ls (.long (ushrL x y) :: st) A k n) : K pc Ls (.int y :: .long x :: st) A k n :=
  G.run1 (fun _ _ _ _ _ _ _ hx hby hA r => XS.lushr hA hx rfl (hb hby hd) rfl r) h
theorem Gd.ineg (G : Gd l Z a0 n0 b R cs ss own nm code ml ret Q K) {x : Int32} (hd : decode code pc = .ok (.ineg, 1)) (h : K (pc + 1) Ls (.int (-x) :: st) A k n) : K pc Ls (.int x :: st) A k n :=
  G.run1 (fun _ _ _ _ _ _ _ hx hby hA r => XS.ineg hA hx rfl (hb hby hd) rfl r) h
theorem Gd.lneg (G : Gd l Z a0 n0 b R cs ss own nm code ml ret Q K) {x : Int64} (hd : decode code pc = .ok (.lneg, 1)) (h : K (pc + 1) Ls (.long (-x) :: st) A k n) : K pc Ls (.long x :: st) A k n :=
  G.run1 (fun _ _ _ _ _ _ _ hx hby hA r => XS.lneg hA hx rfl (hb hby hd) rfl r) h
theorem Gd.i2l (G : Gd l Z a0 n0 b R cs ss own nm code ml ret Q K) {x : Int32} (hd : decode code pc = .ok (.i2l, 1)) (h : K (pc + 1) Ls (.long (x.toInt64) :: st) A k n) : K pc Ls (.int x :: st) A k n :=
  G.run1 (fun _ _ _ _ _ _ _ hx hby hA r => XS.i2l hA hx rfl (hb hby hd) rfl r) h
theorem Gd.l2i (G : Gd l Z a0 n0 b R cs ss own nm code ml ret Q K) {x : Int64} (hd : decode code pc = .ok (.l2i, 1)) (h : K (pc + 1) Ls (.int (x.toInt32) :: st) A k n) : K pc Ls (.long x :: st) A k n :=
  G.run1 (fun _ _ _ _ _ _ _ hx hby hA r => XS.l2i hA hx rfl (hb hby hd) rfl r) h
theorem Gd.i2b (G : Gd l Z a0 n0 b R cs ss own nm code ml ret Q K) {x : Int32} (hd : decode code pc = .ok (.i2b, 1)) (h : K (pc + 1) Ls (.int (x.toInt8.toInt32) :: st) A k n) : K pc Ls (.int x :: st) A k n :=
  G.run1 (fun _ _ _ _ _ _ _ hx hby hA r => XS.i2b hA hx rfl (hb hby hd) rfl r) h
theorem Gd.i2c (G : Gd l Z a0 n0 b R cs ss own nm code ml ret Q K) {x : Int32} (hd : decode code pc = .ok (.i2c, 1)) (h : K (pc + 1) Ls (.int (x.toUInt32.toUInt16.toUInt32.toInt32) :: st) A k n) : K pc Ls (.int x :: st) A k n :=
  G.run1 (fun _ _ _ _ _ _ _ hx hby hA r => XS.i2c hA hx rfl (hb hby hd) rfl r) h
theorem Gd.i2s (G : Gd l Z a0 n0 b R cs ss own nm code ml ret Q K) {x : Int32} (hd : decode code pc = .ok (.i2s, 1)) (h : K (pc + 1) Ls (.int (x.toInt16.toInt32) :: st) A k n) : K pc Ls (.int x :: st) A k n :=
  G.run1 (fun _ _ _ _ _ _ _ hx hby hA r => XS.i2s hA hx rfl (hb hby hd) rfl r) h
theorem Gd.irem (G : Gd l Z a0 n0 b R cs ss own nm code ml ret Q K) {x y : Int32} (hd : decode code pc = .ok (.irem, 1)) (hy : y ≠ 0) (h : K (pc + 1) Ls (.int (x % y) :: st) A k n) : K pc Ls (.int y :: .int x :: st) A k n :=
  G.run1 (fun _ _ _ _ _ _ _ hx hby hA r => XS.irem hA hx rfl (hb hby hd) rfl hy (by have q : x - x / y * y = x % y := irem_eq_mod x y; rw [q]; exact r)) h
theorem Gd.lcmp (G : Gd l Z a0 n0 b R cs ss own nm code ml ret Q K) {x y : Int64} (hd : decode code pc = .ok (.lcmp, 1)) (h : K (pc + 1) Ls (.int (lcmpW x y) :: st) A k n) : K pc Ls (.long y :: .long x :: st) A k n :=
  G.run1 (fun _ _ _ _ _ _ _ hx hby hA r => XS.lcmp hA hx rfl (hb hby hd) rfl r) h
theorem Gd.dup (G : Gd l Z a0 n0 b R cs ss own nm code ml ret Q K) {x : Value} (hd : decode code pc = .ok (.dup, 1)) (hc : x.category = 1) (h : K (pc + 1) Ls (x :: x :: st) A k n) : K pc Ls (x :: st) A k n :=
  G.run1 (fun _ _ _ _ _ _ _ hx hby hA r => XS.dup hA hx rfl (hb hby hd) rfl hc r) h
theorem Gd.pop (G : Gd l Z a0 n0 b R cs ss own nm code ml ret Q K) {x : Value} (hd : decode code pc = .ok (.pop, 1)) (hc : x.category = 1) (h : K (pc + 1) Ls st A k n) : K pc Ls (x :: st) A k n :=
  G.run1 (fun _ _ _ _ _ _ _ hx hby hA r => XS.pop hA hx rfl (hb hby hd) rfl hc r) h
theorem Gd.dupX1 (G : Gd l Z a0 n0 b R cs ss own nm code ml ret Q K) {x y : Value} (hd : decode code pc = .ok (.dup_x1, 1)) (hc : x.category = 1) (hc' : y.category = 1) (h : K (pc + 1) Ls (x :: y :: x :: st) A k n) : K pc Ls (x :: y :: st) A k n :=
  G.run1 (fun _ _ _ _ _ _ _ hx hby hA r => XS.dupX1 hA hx rfl (hb hby hd) rfl hc hc' r) h
theorem Gd.dup2 (G : Gd l Z a0 n0 b R cs ss own nm code ml ret Q K) {x y : Value} (hd : decode code pc = .ok (.dup2, 1)) (hc : x.category = 1) (hc' : y.category = 1) (h : K (pc + 1) Ls (x :: y :: x :: y :: st) A k n) : K pc Ls (x :: y :: st) A k n :=
  G.run1 (fun _ _ _ _ _ _ _ hx hby hA r => Jvm.Free.XT.dup2 hA hx rfl (hb hby hd) rfl hc hc' r) h
theorem Gd.astore8 (G : Gd l Z a0 n0 b R cs ss own nm code ml ret Q K) {u0 u1 u2 u3 u4 u5 u6 u7 o : Slot} {r : List Slot} {x : Value} (hd : decode code pc = .ok (.astore 8, 2)) (hv : x.isRef = true) (hl : storeLocals (u0 :: u1 :: u2 :: u3 :: u4 :: u5 :: u6 :: u7 :: o :: r).toArray 8 (x) = some (u0 :: u1 :: u2 :: u3 :: u4 :: u5 :: u6 :: u7 :: .val x :: r).toArray) (h : K (pc + 2) (u0 :: u1 :: u2 :: u3 :: u4 :: u5 :: u6 :: u7 :: .val x :: r) st A k n) : K pc (u0 :: u1 :: u2 :: u3 :: u4 :: u5 :: u6 :: u7 :: o :: r) (x :: st) A k n :=
  G.run1 (fun _ _ _ _ _ _ _ hx hby hA r => XS.astore hA hx rfl (hb hby hd) rfl hv hl r) h
theorem Gd.astore9 (G : Gd l Z a0 n0 b R cs ss own nm code ml ret Q K) {u0 u1 u2 u3 u4 u5 u6 u7 u8 o : Slot} {r : List Slot} {x : Value} (hd : decode code pc = .ok (.astore 9, 2)) (hv : x.isRef = true) (hl : storeLocals (u0 :: u1 :: u2 :: u3 :: u4 :: u5 :: u6 :: u7 :: u8 :: o :: r).toArray 9 (x) = some (u0 :: u1 :: u2 :: u3 :: u4 :: u5 :: u6 :: u7 :: u8 :: .val x :: r).toArray) (h : K (pc + 2) (u0 :: u1 :: u2 :: u3 :: u4 :: u5 :: u6 :: u7 :: u8 :: .val x :: r) st A k n) : K pc (u0 :: u1 :: u2 :: u3 :: u4 :: u5 :: u6 :: u7 :: u8 :: o :: r) (x :: st) A k n :=
  G.run1 (fun _ _ _ _ _ _ _ hx hby hA r => XS.astore hA hx rfl (hb hby hd) rfl hv hl r) h
theorem Gd.astore10 (G : Gd l Z a0 n0 b R cs ss own nm code ml ret Q K) {u0 u1 u2 u3 u4 u5 u6 u7 u8 u9 o : Slot} {r : List Slot} {x : Value} (hd : decode code pc = .ok (.astore 10, 2)) (hv : x.isRef = true) (hl : storeLocals (u0 :: u1 :: u2 :: u3 :: u4 :: u5 :: u6 :: u7 :: u8 :: u9 :: o :: r).toArray 10 (x) = some (u0 :: u1 :: u2 :: u3 :: u4 :: u5 :: u6 :: u7 :: u8 :: u9 :: .val x :: r).toArray) (h : K (pc + 2) (u0 :: u1 :: u2 :: u3 :: u4 :: u5 :: u6 :: u7 :: u8 :: u9 :: .val x :: r) st A k n) : K pc (u0 :: u1 :: u2 :: u3 :: u4 :: u5 :: u6 :: u7 :: u8 :: u9 :: o :: r) (x :: st) A k n :=
  G.run1 (fun _ _ _ _ _ _ _ hx hby hA r => XS.astore hA hx rfl (hb hby hd) rfl hv hl r) h
theorem Gd.iinc1 (G : Gd l Z a0 n0 b R cs ss own nm code ml ret Q K) {u0 : Slot} {r : List Slot} {x : Int32} {cst : Int} (z : Int32) (hd : decode code pc = .ok (.iinc 1 cst, 3)) (hz : Int32.ofInt cst = z) (hl : storeLocals (u0 :: .val (.int x) :: r).toArray 1 (.int (x + z)) = some (u0 :: .val (.int (x + z)) :: r).toArray) (h : K (pc + 3) (u0 :: .val (.int (x + z)) :: r) st A k n) : K pc (u0 :: .val (.int x) :: r) st A k n := by
  subst hz
  exact G.run1 (fun _ _ _ _ _ _ _ hx hby hA r => XS.iinc hA hx rfl (hb hby hd) (by simp) hl r) h
theorem Gd.iinc2 (G : Gd l Z a0 n0 b R cs ss own nm code ml ret Q K) {u0 u1 : Slot} {r : List Slot} {x : Int32} {cst : Int} (z : Int32) (hd : decode code pc = .ok (.iinc 2 cst, 3)) (hz : Int32.ofInt cst = z) (hl : storeLocals (u0 :: u1 :: .val (.int x) :: r).toArray 2 (.int (x + z)) = some (u0 :: u1 :: .val (.int (x + z)) :: r).toArray) (h : K (pc + 3) (u0 :: u1 :: .val (.int (x + z)) :: r) st A k n) : K pc (u0 :: u1 :: .val (.int x) :: r) st A k n := by
  subst hz
  exact G.run1 (fun _ _ _ _ _ _ _ hx hby hA r => XS.iinc hA hx rfl (hb hby hd) (by simp) hl r) h
theorem Gd.istore7 (G : Gd l Z a0 n0 b R cs ss own nm code ml ret Q K) {u0 u1 u2 u3 u4 u5 u6 o : Slot} {r : List Slot} {x : Int32} (hd : decode code pc = .ok (.istore 7, 2)) (hl : storeLocals (u0 :: u1 :: u2 :: u3 :: u4 :: u5 :: u6 :: o :: r).toArray 7 (.int x) = some (u0 :: u1 :: u2 :: u3 :: u4 :: u5 :: u6 :: .val (.int x) :: r).toArray) (h : K (pc + 2) (u0 :: u1 :: u2 :: u3 :: u4 :: u5 :: u6 :: .val (.int x) :: r) st A k n) : K pc (u0 :: u1 :: u2 :: u3 :: u4 :: u5 :: u6 :: o :: r) (.int x :: st) A k n :=
  G.run1 (fun _ _ _ _ _ _ _ hx hby hA r => XS.istore hA hx rfl (hb hby hd) rfl hl r) h
theorem Gd.istore11 (G : Gd l Z a0 n0 b R cs ss own nm code ml ret Q K) {u0 u1 u2 u3 u4 u5 u6 u7 u8 u9 u10 o : Slot} {r : List Slot} {x : Int32} (hd : decode code pc = .ok (.istore 11, 2)) (hl : storeLocals (u0 :: u1 :: u2 :: u3 :: u4 :: u5 :: u6 :: u7 :: u8 :: u9 :: u10 :: o :: r).toArray 11 (.int x) = some (u0 :: u1 :: u2 :: u3 :: u4 :: u5 :: u6 :: u7 :: u8 :: u9 :: u10 :: .val (.int x) :: r).toArray) (h : K (pc + 2) (u0 :: u1 :: u2 :: u3 :: u4 :: u5 :: u6 :: u7 :: u8 :: u9 :: u10 :: .val (.int x) :: r) st A k n) : K pc (u0 :: u1 :: u2 :: u3 :: u4 :: u5 :: u6 :: u7 :: u8 :: u9 :: u10 :: o :: r) (.int x :: st) A k n :=
  G.run1 (fun _ _ _ _ _ _ _ hx hby hA r => XS.istore hA hx rfl (hb hby hd) rfl hl r) h
theorem Gd.istoreN0 (G : Gd l Z a0 n0 b R cs ss own nm code ml ret Q K) {o : Slot} {r : List Slot} {x : Int32} (hd : decode code pc = .ok (.istore_n ⟨0, by decide⟩, 1)) (hl : storeLocals (o :: r).toArray 0 (.int x) = some (.val (.int x) :: r).toArray) (h : K (pc + 1) (.val (.int x) :: r) st A k n) : K pc (o :: r) (.int x :: st) A k n :=
  G.run1 (fun _ _ _ _ _ _ _ hx hby hA r => XS.istoreN hA hx rfl (hb hby hd) rfl hl r) h
theorem Gd.istoreN1 (G : Gd l Z a0 n0 b R cs ss own nm code ml ret Q K) {u0 o : Slot} {r : List Slot} {x : Int32} (hd : decode code pc = .ok (.istore_n ⟨1, by decide⟩, 1)) (hl : storeLocals (u0 :: o :: r).toArray 1 (.int x) = some (u0 :: .val (.int x) :: r).toArray) (h : K (pc + 1) (u0 :: .val (.int x) :: r) st A k n) : K pc (u0 :: o :: r) (.int x :: st) A k n :=
  G.run1 (fun _ _ _ _ _ _ _ hx hby hA r => XS.istoreN hA hx rfl (hb hby hd) rfl hl r) h
theorem Gd.istoreN2 (G : Gd l Z a0 n0 b R cs ss own nm code ml ret Q K) {u0 u1 o : Slot} {r : List Slot} {x : Int32} (hd : decode code pc = .ok (.istore_n ⟨2, by decide⟩, 1)) (hl : storeLocals (u0 :: u1 :: o :: r).toArray 2 (.int x) = some (u0 :: u1 :: .val (.int x) :: r).toArray) (h : K (pc + 1) (u0 :: u1 :: .val (.int x) :: r) st A k n) : K pc (u0 :: u1 :: o :: r) (.int x :: st) A k n :=
  G.run1 (fun _ _ _ _ _ _ _ hx hby hA r => XS.istoreN hA hx rfl (hb hby hd) rfl hl r) h
theorem Gd.istoreN3 (G : Gd l Z a0 n0 b R cs ss own nm code ml ret Q K) {u0 u1 u2 o : Slot} {r : List Slot} {x : Int32} (hd : decode code pc = .ok (.istore_n ⟨3, by decide⟩, 1)) (hl : storeLocals (u0 :: u1 :: u2 :: o :: r).toArray 3 (.int x) = some (u0 :: u1 :: u2 :: .val (.int x) :: r).toArray) (h : K (pc + 1) (u0 :: u1 :: u2 :: .val (.int x) :: r) st A k n) : K pc (u0 :: u1 :: u2 :: o :: r) (.int x :: st) A k n :=
  G.run1 (fun _ _ _ _ _ _ _ hx hby hA r => XS.istoreN hA hx rfl (hb hby hd) rfl hl r) h
theorem Gd.goto (G : Gd l Z a0 n0 b R cs ss own nm code ml ret Q K) {o : Int} (pc' : Nat) (hd : decode code pc = .ok (.goto o, 3)) (ho : 0 ≤ (pc : Int) + o) (hp : ((pc : Int) + o).toNat = pc') (h : K pc' Ls st A k n) : K pc Ls st A k n :=
  G.run1 (fun _ _ _ _ _ _ _ hx hby hA r => XS.goto hA hx rfl rfl (hb hby hd) ho hp r) h
theorem Gd.icmp (G : Gd l Z a0 n0 b R cs ss own nm code ml ret Q K) {cd : ClassFile.Cond} {o : Int} {x y : Int32} (pc' : Nat) (hd : decode code pc = .ok (.if_icmp cd o, 3)) (ho : 0 ≤ (pc : Int) + o) (hp : ((pc : Int) + o).toNat = pc') (h1 : if_icmp.holds cd x y = true → K pc' Ls st A k n) (h2 : if_icmp.holds cd x y = false → K (pc + 3) Ls st A k n) : K pc Ls (.int y :: .int x :: st) A k n := by
  cases q : if_icmp.holds cd x y with
  | true => exact G.run1 (fun _ _ _ _ _ _ _ hx hby hA r => XS.icmpYes hA hx rfl rfl (hb hby hd) rfl q ho hp r) (h1 q)
  | false => exact G.run1 (fun _ _ _ _ _ _ _ hx hby hA r => XS.icmpNo hA hx rfl (hb hby hd) rfl q r) (h2 q)
theorem Gd.ifc (G : Gd l Z a0 n0 b R cs ss own nm code ml ret Q K) {cd : ClassFile.Cond} {o : Int} {x : Int32} (pc' : Nat) (hd : decode code pc = .ok (.ifCond cd o, 3)) (ho : 0 ≤ (pc : Int) + o) (hp : ((pc : Int) + o).toNat = pc') (h1 : if_icmp.holds cd x 0 = true → K pc' Ls st A k n) (h2 : if_icmp.holds cd x 0 = false → K (pc + 3) Ls st A k n) : K pc Ls (.int x :: st) A k n := by
  cases q : if_icmp.holds cd x 0 with
  | true => exact G.run1 (fun _ _ _ _ _ _ _ hx hby hA r => XS.ifYes hA hx rfl rfl (hb hby hd) rfl ((if0 _ _).trans q) ho hp r) (h1 q)
  | false => exact G.run1 (fun _ _ _ _ _ _ _ hx hby hA r => XS.ifNo hA hx rfl (hb hby hd) rfl ((if0 _ _).trans q) r) (h2 q)
theorem hI_eq {x y : Int32} : (if_icmp.holds .eq x y = true → x = y) ∧ (if_icmp.holds .eq x y = false → ¬ x = y) := by simp [if_icmp.holds, Int32.not_lt, Int32.not_le]
theorem Gd.icmp_eq (G : Gd l Z a0 n0 b R cs ss own nm code ml ret Q K) {o : Int} {x y : Int32} (pc' : Nat) (hd : decode code pc = .ok (.if_icmp .eq o, 3)) (ho : 0 ≤ (pc : Int) + o) (hp : ((pc : Int) + o).toNat = pc') (h1 : x = y → K pc' Ls st A k n) (h2 : ¬ x = y → K (pc + 3) Ls st A k n) : K pc Ls (.int y :: .int x :: st) A k n :=
  G.icmp pc' hd ho hp (fun q => h1 (hI_eq.1 q)) (fun q => h2 (hI_eq.2 q))
theorem Gd.if_eq (G : Gd l Z a0 n0 b R cs ss own nm code ml ret Q K) {o : Int} {x : Int32} (pc' : Nat) (hd : decode code pc = .ok (.ifCond .eq o, 3)) (ho : 0 ≤ (pc : Int) + o) (hp : ((pc : Int) + o).toNat = pc') (h1 : x = 0 → K pc' Ls st A k n) (h2 : ¬ x = 0 → K (pc + 3) Ls st A k n) : K pc Ls (.int x :: st) A k n :=
  G.ifc pc' hd ho hp (fun q => h1 (hI_eq.1 q)) (fun q => h2 (hI_eq.2 q))
theorem hI_ne {x y : Int32} : (if_icmp.holds .ne x y = true → ¬ x = y) ∧ (if_icmp.holds .ne x y = false → x = y) := by simp [if_icmp.holds, Int32.not_lt, Int32.not_le]
theorem Gd.icmp_ne (G : Gd l Z a0 n0 b R cs ss own nm code ml ret Q K) {o : Int} {x y : Int32} (pc' : Nat) (hd : decode code pc = .ok (.if_icmp .ne o, 3)) (ho : 0 ≤ (pc : Int) + o) (hp : ((pc : Int) + o).toNat = pc') (h1 : ¬ x = y → K pc' Ls st A k n) (h2 : x = y → K (pc + 3) Ls st A k n) : K pc Ls (.int y :: .int x :: st) A k n :=
  G.icmp pc' hd ho hp (fun q => h1 (hI_ne.1 q)) (fun q => h2 (hI_ne.2 q))
theorem Gd.if_ne (G : Gd l Z a0 n0 b R cs ss own nm code ml ret Q K) {o : Int} {x : Int32} (pc' : Nat) (hd : decode code pc = .ok (.ifCond .ne o, 3)) (ho : 0 ≤ (pc : Int) + o) (hp : ((pc : Int) + o).toNat = pc') (h1 : ¬ x = 0 → K pc' Ls st A k n) (h2 : x = 0 → K (pc + 3) Ls st A k n) : K pc Ls (.int x :: st) A k n :=
  G.ifc pc' hd ho hp (fun q => h1 (hI_ne.1 q)) (fun q => h2 (hI_ne.2 q))
theorem hI_lt {x y : Int32} : (if_icmp.holds .lt x y = true → x < y) ∧ (if_icmp.holds .lt x y = false → ¬ x < y) := by simp [if_icmp.holds, Int32.not_lt, Int32.not_le]
theorem Gd.icmp_lt (G : Gd l Z a0 n0 b R cs ss own nm code ml ret Q K) {o : Int} {x y : Int32} (pc' : Nat) (hd : decode code pc = .ok (.if_icmp .lt o, 3)) (ho : 0 ≤ (pc : Int) + o) (hp : ((pc : Int) + o).toNat = pc') (h1 : x < y → K pc' Ls st A k n) (h2 : ¬ x < y → K (pc + 3) Ls st A k n) : K pc Ls (.int y :: .int x :: st) A k n :=
  G.icmp pc' hd ho hp (fun q => h1 (hI_lt.1 q)) (fun q => h2 (hI_lt.2 q))
theorem Gd.if_lt (G : Gd l Z a0 n0 b R cs ss own nm code ml ret Q K) {o : Int} {x : Int32} (pc' : Nat) (hd : decode code pc = .ok (.ifCond .lt o, 3)) (ho : 0 ≤ (pc : Int) + o) (hp : ((pc : Int) + o).toNat = pc') (h1 : x < 0 → K pc' Ls st A k n) (h2 : ¬ x < 0 → K (pc + 3) Ls st A k n) : K pc Ls (.int x :: st) A k n :=
  G.ifc pc' hd ho hp (fun q => h1 (hI_lt.1 q)) (fun q => h2 (hI_lt.2 q))
theorem hI_ge {x y : Int32} : (if_icmp.holds .ge x y = true → ¬ x < y) ∧ (if_icmp.holds .ge x y = false → x < y) := by simp [if_icmp.holds, Int32.not_lt, Int32.not_le]
theorem Gd.icmp_ge (G : Gd l Z a0 n0 b R cs ss own nm code ml ret Q K) {o : Int} {x y : Int32} (pc' : Nat) (hd : decode code pc = .ok (.if_icmp .ge o, 3)) (ho : 0 ≤ (pc : Int) + o) (hp : ((pc : Int) + o).toNat = pc') (h1 : ¬ x < y → K pc' Ls st A k n) (h2 : x < y → K (pc + 3) Ls st A k n) : K pc Ls (.int y :: .int x :: st) A k n :=
  G.icmp pc' hd ho hp (fun q => h1 (hI_ge.1 q)) (fun q => h2 (hI_ge.2 q))
theorem Gd.if_ge (G : Gd l Z a0 n0 b R cs ss own nm code ml ret Q K) {o : Int} {x : Int32} (pc' : Nat) (hd : decode code pc = .ok (.ifCond .ge o, 3)) (ho : 0 ≤ (pc : Int) + o) (hp : ((pc : Int) + o).toNat = pc') (h1 : ¬ x < 0 → K pc' Ls st A k n) (h2 : x < 0 → K (pc + 3) Ls st A k n) : K pc Ls (.int x :: st) A k n :=
  G.ifc pc' hd ho hp (fun q => h1 (hI_ge.1 q)) (fun q => h2 (hI_ge.2 q))
theorem hI_gt {x y : Int32} : (if_icmp.holds .gt x y = true → y < x) ∧ (if_icmp.holds .gt x y = false → ¬ y < x) := by simp [if_icmp.holds, Int32.not_lt, Int32.not_le]
theorem Gd.icmp_gt (G : Gd l Z a0 n0 b R cs ss own nm code ml ret Q K) {o : Int} {x y : Int32} (pc' : Nat) (hd : decode code pc = .ok (.if_icmp .gt o, 3)) (ho : 0 ≤ (pc : Int) + o) (hp : ((pc : Int) + o).toNat = pc') (h1 : y < x → K pc' Ls st A k n) (h2 : ¬ y < x → K (pc + 3) Ls st A k n) : K pc Ls (.int y :: .int x :: st) A k n :=
  G.icmp pc' hd ho hp (fun q => h1 (hI_gt.1 q)) (fun q => h2 (hI_gt.2 q))
theorem Gd.if_gt (G : Gd l Z a0 n0 b R cs ss own nm code ml ret Q K) {o : Int} {x : Int32} (pc' : Nat) (hd : decode code pc = .ok (.ifCond .gt o, 3)) (ho : 0 ≤ (pc : Int) + o) (hp : ((pc : Int) + o).toNat = pc') (h1 : 0 < x → K pc' Ls st A k n) (h2 : ¬ 0 < x → K (pc + 3) Ls st A k n) : K pc Ls (.int x :: st) A k n :=
  G.ifc pc' hd ho hp (fun q => h1 (hI_gt.1 q)) (fun q => h2 (hI_gt.2 q))
theorem hI_le {x y : Int32} : (if_icmp.holds .le x y = true → ¬ y < x) ∧ (if_icmp.holds .le x y = false → y < x) := by simp [if_icmp.holds, Int32.not_lt, Int32.not_le]
theorem Gd.icmp_le (G : Gd l Z a0 n0 b R cs ss own nm code ml ret Q K) {o : Int} {x y : Int32} (pc' : Nat) (hd : decode code pc = .ok (.if_icmp .le o, 3)) (ho : 0 ≤ (pc : Int) + o) (hp : ((pc : Int) + o).toNat = pc') (h1 : ¬ y < x → K pc' Ls st A k n) (h2 : y < x → K (pc + 3) Ls st A k n) : K pc Ls (.int y :: .int x :: st) A k n :=
  G.icmp pc' hd ho hp (fun q => h1 (hI_le.1 q)) (fun q => h2 (hI_le.2 q))
theorem Gd.if_le (G : Gd l Z a0 n0 b R cs ss own nm code ml ret Q K) {o : Int} {x : Int32} (pc' : Nat) (hd : decode code pc = .ok (.ifCond .le o, 3)) (ho : 0 ≤ (pc : Int) + o) (hp : ((pc : Int) + o).toNat = pc') (h1 : ¬ 0 < x → K pc' Ls st A k n) (h2 : 0 < x → K (pc + 3) Ls st A k n) : K pc Ls (.int x :: st) A k n :=
  G.ifc pc' hd ho hp (fun q => h1 (hI_le.1 q)) (fun q => h2 (hI_le.2 q))
theorem Gd.ifnonnullR (G : Gd l Z a0 n0 b R cs ss own nm code ml ret Q K) {o : Int} {b : Addr} (pc' : Nat) (hd : decode code pc = .ok (.ifnonnull o, 3)) (ho : 0 ≤ (pc : Int) + o) (hp : ((pc : Int) + o).toNat = pc') (h : K pc' Ls st A k n) : K pc Ls (.ref b :: st) A k n :=
  G.run1 (fun _ _ _ _ _ _ _ hx hby hA r => XS.ifnonnullYes hA hx rfl rfl (hb hby hd) rfl ho hp r) h
theorem idxOk {c : Cell} {vs : List Value} {j : Int32} {jn : Nat} (e : c.slots = vs.toArray) (hj : j.toInt = (jn : Int)) (hl : jn < vs.length) : ¬ (j < 0 ∨ c.slots.size ≤ j.toNatClampNeg) ∧ j.toNatClampNeg = jn := by
  have h1 : j.toNatClampNeg = jn := by
    show j.toInt.toNat = jn
    rw [hj]; rfl
  refine ⟨?_, h1⟩
  rintro (q | q)
  · rw [Int32.lt_iff_toInt_lt] at q
    have : (0 : Int32).toInt = 0 := by decide
    omega
  · rw [h1, e] at q
    simp at q
    omega
theorem Gd.getf (G : Gd l Z a0 n0 b R cs ss own nm code ml ret Q K) {idx i j : Nat} {C fn d host : String} {fs : List (String × String × Value)} {v : Value} (hd : decode code pc = .ok (.getfield idx, 3)) (w : (Jvm.Cond.fieldLink own idx C fn d).before a0 Z = true ∨ (Jvm.Cond.fieldLinkNest own idx C fn d host).before a0 Z = true) (hA : A[i]? = some (.inl (C, fs))) (hf : fs[j]? = some (fn, d, v)) (h : K (pc + 3) Ls (v :: st) A k n) : K pc Ls (.ref (ad n0 i) :: st) A k n := by
  obtain ⟨p, e, s, m, args, below, meth, c, hx, hby, -, hown, -, hZ, -, -, -, rfl⟩ := G
  intro T locs X N hAl RP
  obtain ⟨T', X', e', stp⟩ := getF X hx hZ hown w Via.refl rfl ((RP.2 i _ hA).2.2 j _ _ _ hf).1 (g := mkF m pc Ls.toArray (.ref (ad n0 i) :: st)) rfl rfl (hb hby hd)
  obtain ⟨s₂, o, hs, r⟩ := h T' locs X' N hAl (by rw [e']; exact RP)
  exact ⟨s₂, o, stp _ hs, r⟩
theorem Gd.putf (G : Gd l Z a0 n0 b R cs ss own nm code ml ret Q K) {idx i j kk : Nat} {C fn d host : String} {fs : List (String × String × Value)} {v old : Value} {ty : FieldType} (hd : decode code pc = .ok (.putfield idx, 3)) (w : (Jvm.Cond.fieldLink own idx C fn d).before a0 Z = true ∨ (Jvm.Cond.fieldLinkNest own idx C fn d host).before a0 Z = true) (L : (Jvm.Cond.lays C C fn d).before a0 Z = true ∨ ((Jvm.Cond.laysFinal C C fn d).before a0 Z = true ∧ own = C ∧ nm = "<init>")) (wi : (Jvm.Cond.instantiable C kk).before a0 Z = true)
    (hty : parseFieldDescriptor d = some ty) (hn : narrow ty v = v) (hv : fits ty v = true) (hA : A[i]? = some (.inl (C, fs))) (hf : fs[j]? = some (fn, d, old)) (h : K (pc + 3) Ls st (A.set i (.inl (C, fs.set j (fn, d, v)))) k n) : K pc Ls (v :: .ref (ad n0 i) :: st) A k n := by
  obtain ⟨p, e, s, m, args, below, meth, c, hx, hby, -, hown, hnm, hZ, -, -, -, rfl⟩ := G
  intro T locs X N hAl RP
  have F := ((RP.2 i _ hA).2.2 j _ _ _ hf).1
  obtain ⟨T', h', X', e', W, stp⟩ := putF X hx hZ hown w Via.refl rfl F (RP.2 i _ hA).1 (by rcases L with L | ⟨L1, L2, L3⟩; exact Or.inl L; exact Or.inr ⟨L1, L2, hnm.trans L3⟩) wi hty hn hv (g := mkF m pc Ls.toArray (v :: .ref (ad n0 i) :: st)) rfl rfl (hb hby hd)
  obtain ⟨s₂, o, hs, r⟩ := h T' _ X' (Fr.snoc X' N (ad_le _ _)) (by rw [List.length_set]; exact hAl) (by rw [e']; exact RP.wr W ((RP.2 i _ hA).put hf W))
  exact ⟨s₂, o, stp _ hs, r⟩
/-- a field whose pool entry is resolved already -/
theorem Gd.getfR (G : Gd l Z a0 n0 b R cs ss own nm code ml ret Q K) {idx i j : Nat} {C fn d : String} {fs : List (String × String × Value)} {v : Value} (hd : decode code pc = .ok (.getfield idx, 3)) (w : (Jvm.Cond.fieldRef own idx C fn d).before a0 Z = true) (hA : A[i]? = some (.inl (C, fs))) (hf : fs[j]? = some (fn, d, v)) (h : K (pc + 3) Ls (v :: st) A k n) : K pc Ls (.ref (ad n0 i) :: st) A k n := by
  obtain ⟨p, e, s, m, args, below, meth, c, hx, hby, -, hown, -, hZ, -, -, -, rfl⟩ := G
  intro T locs X N hAl RP
  obtain ⟨cell, cf, kf, fi, f, h1, h2, h3, h4, h5, h6, h7⟩ := ((RP.2 i _ hA).2.2 j _ _ _ hf).1
  have hZT : Z.Warmed39 T.vm := wtrans hZ X.warmed
  have hown' : (Z.setVm T.vm).vm.findClass own = some m.cls := by show T.vm.findClass own = _; rw [X.warmed.alike.findClass]; exact hown
  obtain ⟨c3, k3, i3, f3, hi3, hr⟩ := Cond.fieldRef_spec (s := Z.setVm T.vm) hown' (Cond.fieldRef_warmed39 hZT w)
  obtain ⟨k', hi', -⟩ := State.fieldFound?_setVm (s := Z) hZT.alike h2
  cases hi3.symm.trans hi'
  have hr' : T.vm.fieldReady m.cls idx cf f := hr
  obtain ⟨s₂, o, hs, r⟩ := h T locs X N hAl RP
  refine ⟨s₂, o, ?_, r⟩
  show Steps p.tables e below (T.setTop { method := m, pc := pc, locals := Ls.toArray, stack := .ref (ad n0 i) :: st, locked := none }) _
  jvm_step X.here [hx, hb hby hd, getfield.wp_ready (e := e) (s := T) (f := { method := m, pc := pc, locals := Ls.toArray, stack := .ref (ad n0 i) :: st, locked := none }) X.here.top hr' h3 rfl h1 h4 h7]
  exact hs
theorem Gd.putfR (G : Gd l Z a0 n0 b R cs ss own nm code ml ret Q K) {idx i j kk : Nat} {C fn d : String} {fs : List (String × String × Value)} {v old : Value} {ty : FieldType} (hd : decode code pc = .ok (.putfield idx, 3)) (w : (Jvm.Cond.fieldRef own idx C fn d).before a0 Z = true) (L : (Jvm.Cond.lays C C fn d).before a0 Z = true) (wi : (Jvm.Cond.instantiable C kk).before a0 Z = true)
    (hty : parseFieldDescriptor d = some ty) (hn : narrow ty v = v) (hv : fits ty v = true) (hA : A[i]? = some (.inl (C, fs))) (hf : fs[j]? = some (fn, d, old)) (h : K (pc + 3) Ls st (A.set i (.inl (C, fs.set j (fn, d, v)))) k n) : K pc Ls (v :: .ref (ad n0 i) :: st) A k n := by
  obtain ⟨p, e, s, m, args, below, meth, c, hx, hby, -, hown, -, hZ, -, -, -, rfl⟩ := G
  intro T locs X N hAl RP
  obtain ⟨cell, cf, kf, fi, f, h1, h2, h3, h4, h5, h6, h7⟩ := ((RP.2 i _ hA).2.2 j _ _ _ hf).1
  obtain ⟨cell', kc, e1, e2, e3, -⟩ := (RP.2 i _ hA).1
  cases h1.symm.trans e1
  obtain ⟨c1, k1, cf1, kf1, i1, f1, a1, a2, a3, -, a5, -, a7, -⟩ := Cond.lays_spec L
  cases h2.symm.trans a3
  cases e2.symm.trans a1
  obtain ⟨c2, k2, i1', i2, i3, -⟩ := Cond.instantiable_spec wi
  cases e2.symm.trans i1'
  cases a2.symm.trans i2
  have ht := (State.fieldFound?_type h2 hty).2
  have hlt := (Array.getElem?_eq_some_iff.mp h7).1
  have hfitZ : Z.fitsSlot cell.cls cell.vm f.slot v = true := by
    have q : Z.slotType? cell.cls cell.vm f.slot = some ty := by
      simp only [State.slotType?, a2, Option.bind_eq_bind, Option.bind_some, i3]
      cases hq : cell.vm <;> first | (rw [hq] at h5; exact Bool.noConfusion h5) | (rw [a7, ht])
    simp [State.fitsSlot, q, hv]
  have hZT : Z.Warmed39 T.vm := wtrans hZ X.warmed
  have hfitT : T.fitsSlot cell.cls cell.vm f.slot v = true := by rw [← State.fitsSlot_setVm hZT.alike] at hfitZ; exact hfitZ
  have hown' : (Z.setVm T.vm).vm.findClass own = some m.cls := by show T.vm.findClass own = _; rw [X.warmed.alike.findClass]; exact hown
  obtain ⟨c3, k3, i3', f3, hi3, hr⟩ := Cond.fieldRef_spec (s := Z.setVm T.vm) hown' (Cond.fieldRef_warmed39 hZT w)
  obtain ⟨k', hi', -⟩ := State.fieldFound?_setVm (s := Z) hZT.alike h2
  cases hi3.symm.trans hi'
  have hr' : T.vm.fieldReady m.cls idx cf f := hr
  have X' := X.stored h1 f.slot v
  have es : Jvm.RoadKit.slotOf Z C fn d = f.slot := by simp [Jvm.RoadKit.slotOf, h2]
  have W : Wr T.heap (T.setCell (ad n0 i) (cell.setSlot f.slot v)).heap (ad n0 i) (Jvm.RoadKit.slotOf Z C fn d) v := by rw [es]; exact ⟨cell, h1, h5, hlt, rfl⟩
  obtain ⟨s₂, o, hs, r⟩ := h _ _ X' (Fr.snoc X' N (ad_le _ _)) (by rw [List.length_set]; exact hAl) (RP.wr W ((RP.2 i _ hA).put hf W))
  refine ⟨s₂, o, ?_, r⟩
  have hnar : narrow f.type v = v := by rw [ht]; exact hn
  show Steps p.tables e below (T.setTop { method := m, pc := pc, locals := Ls.toArray, stack := v :: .ref (ad n0 i) :: st, locked := none }) _
  jvm_step X.here [hx, hb hby hd, putfield.wp_ready (e := e) (s := T) (f := { method := m, pc := pc, locals := Ls.toArray, stack := v :: .ref (ad n0 i) :: st, locked := none }) X.here.top hr' h3 a5 rfl h1 h4, hnar]
  exact ⟨hlt, hfitT, hs⟩
theorem Gd.newo (G : Gd l Z a0 n0 b R cs ss own nm code ml ret Q K) {idx sl : Nat} {C : String} {fs : List (String × String × Value)} (hd : decode code pc = .ok (.new idx, 3)) (w : (Jvm.Cond.classLink own idx C).before a0 Z = true) (wi : (Jvm.Cond.instantiable C sl).before a0 Z = true) (wz : (Jvm.Cond.initialized C).before a0 Z = true) (hf : FOk Z a0 C fs) (hc : k + 1 ≤ R.cells) (hl : n + sl ≤ R.slots) (h : K (pc + 3) Ls (.ref (ad n0 A.length) :: st) (A ++ [.inl (C, fs)]) (k + 1) (n + sl)) : K pc Ls st A k n := by
  obtain ⟨p, e, s, m, args, below, meth, c, hx, hby, -, hown, hnm, hZ, -, -, hb0, rfl⟩ := G
  intro T locs X N hAl RP
  obtain ⟨T', h', X', e', E, Ex, D, -, stp⟩ := newO X hx hZ hown w wi wz rfl (g := mkF m pc Ls.toArray st) rfl (hb hby hd) hc hl
  have hsz : h'.size = T.heap.size + 1 := by
    have q1 := X'.heapSize
    have q2 : T.heap.size < h'.size := Ex.lt
    rw [e'] at q1
    have q3 := RP.1
    omega
  have R' : Rep Z a0 n0 h' (A ++ [.inl (C, fs)]) := RP.push E hsz ⟨Ex, hf.1, fun j fn d v hj => by
    obtain ⟨L, t, ht, hv⟩ := hf.2 _ (List.mem_of_getElem? hj)
    exact ⟨by have := D L ht; rw [hv] at this; exact this, L, t, ht⟩⟩
  have ea : ad n0 A.length = T.heap.size := RP.1.symm
  obtain ⟨s₂, o, hs, r⟩ := h T' locs X' N (by simp; omega) (by rw [e']; exact R')
  rw [ea] at hs
  exact ⟨s₂, o, stp _ hs, r⟩
theorem Gd.newarr (G : Gd l Z a0 n0 b R cs ss own nm code ml ret Q K) {aty : ArrayType} {z : Int32} (zn cap : Nat) (hd : decode code pc = .ok (.newarray aty, 2)) (w : (Jvm.Cond.arrayClass (newarray.typeOf aty)).before a0 Z = true) (hz : z.toInt = (zn : Int)) (hcap : zn ≤ cap) (hb0 : cap * 8 ≤ 536870912) (hc : k + 1 ≤ R.cells) (hl : n + cap ≤ R.slots) (hfit : fits (newarray.typeOf aty) (defaultValue (newarray.typeOf aty)) = true) (h : K (pc + 2) Ls (.ref (ad n0 A.length) :: st) (A ++ [.inr (newarray.typeOf aty, List.replicate zn (defaultValue (newarray.typeOf aty)))]) (k + 1) (n + cap)) : K pc Ls (.int z :: st) A k n := by
  obtain ⟨p, e, s, m, args, below, meth, c, hx, hby, -, hown, hnm, hZ, -, -, hsb, rfl⟩ := G
  intro T locs X N hAl RP
  have hz0 : ¬ z < 0 := by
    rw [Int32.lt_iff_toInt_lt]
    have : (0 : Int32).toInt = 0 := by decide
    omega
  have hzn : z.toNatClampNeg = zn := by show z.toInt.toNat = zn; rw [hz]; rfl
  obtain ⟨T', h', cA, X', e', E, Ar, Ex, stp⟩ := newPE X hx hZ w rfl (g := mkF m pc Ls.toArray (.int z :: st)) rfl (hb hby hd) rfl hz0 (cap := cap) (by rw [hzn]; exact hcap) hb0 hc hl (ad := "[" ++ (newarray.typeOf aty).toString) rfl
  have hsz : h'.size = T.heap.size + 1 := by
    have q1 := X'.heapSize
    have q2 : T.heap.size < h'.size := Ex.lt
    rw [e'] at q1
    have q3 := RP.1
    omega
  have R' : Rep Z a0 n0 h' (A ++ [.inr (newarray.typeOf aty, List.replicate zn (defaultValue (newarray.typeOf aty)))]) := RP.push E hsz ⟨Ex, _, Ar, by simp [newA, hzn], by simp; have := z.toInt_lt; omega, fun v hv => by rw [List.eq_of_mem_replicate hv]; exact hfit⟩
  have ea : ad n0 A.length = T.heap.size := RP.1.symm
  obtain ⟨s₂, o, hs, r⟩ := h T' locs X' N (by simp; omega) (by rw [e']; exact R')
  rw [ea] at hs
  exact ⟨s₂, o, stp _ hs, r⟩
theorem Gd.alen (G : Gd l Z a0 n0 b R cs ss own nm code ml ret Q K) {i : Nat} {ty : FieldType} {vs : List Value} (z : Int32) (hd : decode code pc = .ok (.arraylength, 1)) (hA : A[i]? = some (.inr (ty, vs))) (hz : vs.length.toInt32 = z) (h : K (pc + 1) Ls (.int z :: st) A k n) : K pc Ls (.ref (ad n0 i) :: st) A k n := by
  obtain ⟨p, e, s, m, args, below, meth, c, hx, hby, -, hown, -, hZ, -, -, -, rfl⟩ := G
  intro T locs X N hAl RP
  obtain ⟨-, cl, Ar, es, -, -⟩ := RP.2 i _ hA
  obtain ⟨s₂, o, hs, r⟩ := h T locs X N hAl RP
  refine ⟨s₂, o, X.arraylength hx Ar.1 (State.isArrayOf_alike hZ.alike Ar.2.1) (g := mkF m pc Ls.toArray (.ref (ad n0 i) :: st)) rfl rfl (hb hby hd) _ ?_, r⟩
  have q : cl.slots.size.toInt32 = z := by rw [es]; exact hz
  rw [q]; exact hs
theorem Gd.iald (G : Gd l Z a0 n0 b R cs ss own nm code ml ret Q K) {i : Nat} {vs : List Value} {j : Int32} {x : Int32} (jn : Nat) (hd : decode code pc = .ok (.iaload, 1)) (hA : A[i]? = some (.inr (.int, vs))) (hj : j.toInt = (jn : Int)) (hv : vs[jn]? = some (.int x)) (h : K (pc + 1) Ls (.int x :: st) A k n) : K pc Ls (.int j :: .ref (ad n0 i) :: st) A k n := by
  obtain ⟨p, e, s, m, args, below, meth, c, hx, hby, -, hown, -, hZ, -, -, -, rfl⟩ := G
  intro T locs X N hAl RP
  obtain ⟨-, cl, Ar, es, -, -⟩ := RP.2 i _ hA
  obtain ⟨q1, q2⟩ := idxOk es hj (List.getElem?_eq_some_iff.mp hv).1
  obtain ⟨s₂, o, hs, r⟩ := h T locs X N hAl RP
  exact ⟨s₂, o, X.iaload hx (j := j) (v := .int x) Ar.1 (State.isArrayOf_alike hZ.alike Ar.2.1) Ar.2.2 q1 (by rw [q2, es]; simpa using hv) (g := mkF m pc Ls.toArray (.int j :: .ref (ad n0 i) :: st)) rfl rfl (hb hby hd) _ hs, r⟩
theorem Gd.lald (G : Gd l Z a0 n0 b R cs ss own nm code ml ret Q K) {i : Nat} {vs : List Value} {j : Int32} {x : Int64} (jn : Nat) (hd : decode code pc = .ok (.laload, 1)) (hA : A[i]? = some (.inr (.long, vs))) (hj : j.toInt = (jn : Int)) (hv : vs[jn]? = some (.long x)) (h : K (pc + 1) Ls (.long x :: st) A k n) : K pc Ls (.int j :: .ref (ad n0 i) :: st) A k n := by
  obtain ⟨p, e, s, m, args, below, meth, c, hx, hby, -, hown, -, hZ, -, -, -, rfl⟩ := G
  intro T locs X N hAl RP
  obtain ⟨-, cl, Ar, es, -, -⟩ := RP.2 i _ hA
  obtain ⟨q1, q2⟩ := idxOk es hj (List.getElem?_eq_some_iff.mp hv).1
  obtain ⟨s₂, o, hs, r⟩ := h T locs X N hAl RP
  exact ⟨s₂, o, X.laload hx (j := j) (v := .long x) Ar.1 (State.isArrayOf_alike hZ.alike Ar.2.1) Ar.2.2 q1 (by rw [q2, es]; simpa using hv) (g := mkF m pc Ls.toArray (.int j :: .ref (ad n0 i) :: st)) rfl rfl (hb hby hd) _ hs, r⟩
theorem Gd.bald (G : Gd l Z a0 n0 b R cs ss own nm code ml ret Q K) {i : Nat} {vs : List Value} {j : Int32} {x : Int32} (jn : Nat) (hd : decode code pc = .ok (.baload, 1)) (hA : A[i]? = some (.inr (.byte, vs))) (hj : j.toInt = (jn : Int)) (hv : vs[jn]? = some (.int x)) (h : K (pc + 1) Ls (.int x :: st) A k n) : K pc Ls (.int j :: .ref (ad n0 i) :: st) A k n := by
  obtain ⟨p, e, s, m, args, below, meth, c, hx, hby, -, hown, -, hZ, -, -, -, rfl⟩ := G
  intro T locs X N hAl RP
  obtain ⟨-, cl, Ar, es, -, -⟩ := RP.2 i _ hA
  obtain ⟨q1, q2⟩ := idxOk es hj (List.getElem?_eq_some_iff.mp hv).1
  obtain ⟨s₂, o, hs, r⟩ := h T locs X N hAl RP
  exact ⟨s₂, o, X.baloadBytes hx (j := j) (v := .int x) Ar.1 (State.isArrayOf_alike hZ.alike Ar.2.1) Ar.2.2 q1 (by rw [q2, es]; simpa using hv) (g := mkF m pc Ls.toArray (.int j :: .ref (ad n0 i) :: st)) rfl rfl (hb hby hd) _ hs, r⟩
theorem Gd.zald (G : Gd l Z a0 n0 b R cs ss own nm code ml ret Q K) {i : Nat} {vs : List Value} {j : Int32} {x : Int32} (jn : Nat) (hd : decode code pc = .ok (.baload, 1)) (hA : A[i]? = some (.inr (.boolean, vs))) (hj : j.toInt = (jn : Int)) (hv : vs[jn]? = some (.int x)) (h : K (pc + 1) Ls (.int x :: st) A k n) : K pc Ls (.int j :: .ref (ad n0 i) :: st) A k n := by
  obtain ⟨p, e, s, m, args, below, meth, c, hx, hby, -, hown, -, hZ, -, -, -, rfl⟩ := G
  intro T locs X N hAl RP
  obtain ⟨-, cl, Ar, es, -, -⟩ := RP.2 i _ hA
  obtain ⟨q1, q2⟩ := idxOk es hj (List.getElem?_eq_some_iff.mp hv).1
  obtain ⟨s₂, o, hs, r⟩ := h T locs X N hAl RP
  exact ⟨s₂, o, X.baloadBooleans hx (j := j) (v := .int x) Ar.1 (State.isArrayOf_alike hZ.alike Ar.2.1) Ar.2.2 q1 (by rw [q2, es]; simpa using hv) (g := mkF m pc Ls.toArray (.int j :: .ref (ad n0 i) :: st)) rfl rfl (hb hby hd) _ hs, r⟩
theorem Gd.iast (G : Gd l Z a0 n0 b R cs ss own nm code ml ret Q K) {i : Nat} {vs : List Value} {j : Int32} {x : Int32} (jn : Nat) (hd : decode code pc = .ok (.iastore, 1)) (hA : A[i]? = some (.inr (.int, vs))) (hj : j.toInt = (jn : Int)) (hl : jn < vs.length) (h : K (pc + 1) Ls st (A.set i (.inr (.int, vs.set jn (.int x)))) k n) : K pc Ls (.int x :: .int j :: .ref (ad n0 i) :: st) A k n := by
  obtain ⟨p, e, s, m, args, below, meth, c, hx, hby, -, hown, -, hZ, -, -, -, rfl⟩ := G
  intro T locs X N hAl RP
  obtain ⟨-, cl, Ar, es, -, -⟩ := RP.2 i _ hA
  obtain ⟨q1, q2⟩ := idxOk es hj hl
  obtain ⟨T', h', X', e', W, stp⟩ := stI X hx hZ rfl Ar q1 (g := mkF m pc Ls.toArray (.int x :: .int j :: .ref (ad n0 i) :: st)) rfl rfl (hb hby hd)
  have W' : Wr T.heap h' (ad n0 i) jn (.int x) := by rw [← q2]; exact W
  obtain ⟨s₂, o, hs, r⟩ := h T' _ X' (Fr.snoc X' N (ad_le _ _)) (by rw [List.length_set]; exact hAl) (by rw [e']; exact RP.wr W' ((RP.2 i _ hA).store rfl W'))
  exact ⟨s₂, o, stp _ hs, r⟩
theorem Gd.last (G : Gd l Z a0 n0 b R cs ss own nm code ml ret Q K) {i : Nat} {vs : List Value} {j : Int32} {x : Int64} (jn : Nat) (hd : decode code pc = .ok (.lastore, 1)) (hA : A[i]? = some (.inr (.long, vs))) (hj : j.toInt = (jn : Int)) (hl : jn < vs.length) (h : K (pc + 1) Ls st (A.set i (.inr (.long, vs.set jn (.long x)))) k n) : K pc Ls (.long x :: .int j :: .ref (ad n0 i) :: st) A k n := by
  obtain ⟨p, e, s, m, args, below, meth, c, hx, hby, -, hown, -, hZ, -, -, -, rfl⟩ := G
  intro T locs X N hAl RP
  obtain ⟨-, cl, Ar, es, -, -⟩ := RP.2 i _ hA
  obtain ⟨q1, q2⟩ := idxOk es hj hl
  obtain ⟨T', h', X', e', W, stp⟩ := stJ X hx hZ rfl Ar q1 (g := mkF m pc Ls.toArray (.long x :: .int j :: .ref (ad n0 i) :: st)) rfl rfl (hb hby hd)
  have W' : Wr T.heap h' (ad n0 i) jn (.long x) := by rw [← q2]; exact W
  obtain ⟨s₂, o, hs, r⟩ := h T' _ X' (Fr.snoc X' N (ad_le _ _)) (by rw [List.length_set]; exact hAl) (by rw [e']; exact RP.wr W' ((RP.2 i _ hA).store rfl W'))
  exact ⟨s₂, o, stp _ hs, r⟩
theorem Gd.bast (G : Gd l Z a0 n0 b R cs ss own nm code ml ret Q K) {i : Nat} {vs : List Value} {j : Int32} {x : Int32} (jn : Nat) (hd : decode code pc = .ok (.bastore, 1)) (hA : A[i]? = some (.inr (.byte, vs))) (hj : j.toInt = (jn : Int)) (hl : jn < vs.length) {x8 : Int32} (hx8 : nar .byte x = x8) (hfit : fits .byte (.int x8) = true) (h : K (pc + 1) Ls st (A.set i (.inr (.byte, vs.set jn (.int x8)))) k n) : K pc Ls (.int x :: .int j :: .ref (ad n0 i) :: st) A k n := by
  obtain ⟨p, e, s, m, args, below, meth, c, hx, hby, -, hown, -, hZ, -, -, -, rfl⟩ := G
  intro T locs X N hAl RP
  obtain ⟨-, cl, Ar, es, -, -⟩ := RP.2 i _ hA
  obtain ⟨q1, q2⟩ := idxOk es hj hl
  obtain ⟨T', h', X', e', W, stp⟩ := stB X hx hZ rfl Ar q1 (g := mkF m pc Ls.toArray (.int x :: .int j :: .ref (ad n0 i) :: st)) rfl rfl (hb hby hd)
  have W' : Wr T.heap h' (ad n0 i) jn (.int x8) := by rw [← q2, ← hx8]; exact W
  obtain ⟨s₂, o, hs, r⟩ := h T' _ X' (Fr.snoc X' N (ad_le _ _)) (by rw [List.length_set]; exact hAl) (by rw [e']; exact RP.wr W' ((RP.2 i _ hA).store hfit W'))
  exact ⟨s₂, o, stp _ hs, r⟩
theorem Gd.zast (G : Gd l Z a0 n0 b R cs ss own nm code ml ret Q K) {i : Nat} {vs : List Value} {j : Int32} {x : Int32} (jn : Nat) (hd : decode code pc = .ok (.bastore, 1)) (hA : A[i]? = some (.inr (.boolean, vs))) (hj : j.toInt = (jn : Int)) (hl : jn < vs.length) {x8 : Int32} (hx8 : nar .boolean x = x8) (hfit : fits .boolean (.int x8) = true) (h : K (pc + 1) Ls st (A.set i (.inr (.boolean, vs.set jn (.int x8)))) k n) : K pc Ls (.int x :: .int j :: .ref (ad n0 i) :: st) A k n := by
  obtain ⟨p, e, s, m, args, below, meth, c, hx, hby, -, hown, -, hZ, -, -, -, rfl⟩ := G
  intro T locs X N hAl RP
  obtain ⟨-, cl, Ar, es, -, -⟩ := RP.2 i _ hA
  obtain ⟨q1, q2⟩ := idxOk es hj hl
  obtain ⟨T', h', X', e', W, stp⟩ := stZ X hx hZ rfl Ar q1 (g := mkF m pc Ls.toArray (.int x :: .int j :: .ref (ad n0 i) :: st)) rfl rfl (hb hby hd)
  have W' : Wr T.heap h' (ad n0 i) jn (.int x8) := by rw [← q2, ← hx8]; exact W
  obtain ⟨s₂, o, hs, r⟩ := h T' _ X' (Fr.snoc X' N (ad_le _ _)) (by rw [List.length_set]; exact hAl) (by rw [e']; exact RP.wr W' ((RP.2 i _ hA).store hfit W'))
  exact ⟨s₂, o, stp _ hs, r⟩
def AI (N : Nat) (vs : List Value) : Prop := vs.length = N ∧ ∀ v ∈ vs, ∃ x : Int32, v = .int x
theorem AI.rep (N : Nat) : AI N (List.replicate N (.int 0)) := ⟨by simp, fun v hv => ⟨0, List.eq_of_mem_replicate hv⟩⟩
theorem AI.at {N j : Nat} {vs : List Value} (h : AI N vs) (hj : j < N) : ∃ x : Int32, vs[j]? = some (.int x) := by
  have hl : j < vs.length := by rw [h.1]; exact hj
  obtain ⟨x, e⟩ := h.2 _ (List.getElem_mem hl)
  exact ⟨x, by rw [List.getElem?_eq_getElem hl, e]⟩
theorem AI.set {N : Nat} {vs : List Value} (h : AI N vs) (j : Nat) (x : Int32) : AI N (vs.set j (.int x)) :=
  ⟨by rw [List.length_set]; exact h.1, fun v hv => by
    rcases List.mem_or_eq_of_mem_set hv with q | rfl
    · exact h.2 v q
    · exact ⟨x, rfl⟩⟩
/-- a store into the only cell, an int[] of which no more is kept in mind than that it holds ints -/
theorem Gd.iastA (G : Gd l Z a0 n0 b R cs ss own nm code ml ret Q K) {N : Nat} {vs : List Value} {j x : Int32} (jn : Nat) (hd : decode code pc = .ok (.iastore, 1)) (hv : AI N vs) (hj : j.toInt = (jn : Int)) (hl : jn < N) (h : ∀ vs', AI N vs' → K (pc + 1) Ls st [.inr (.int, vs')] k n) : K pc Ls (.int x :: .int j :: .ref (ad n0 0) :: st) [.inr (.int, vs)] k n :=
  G.iast jn hd rfl hj (by rw [hv.1]; exact hl) (h _ (hv.set jn x))
theorem Gd.ldcI (G : Gd l Z a0 n0 b R cs ss own nm code ml ret Q K) {idx : Nat} {v : Int32} (hd : decode code pc = .ok (.ldc idx, 2)) (w : (Jvm.Cond.constant own idx v).before a0 Z = true) (h : K (pc + 2) Ls (.int v :: st) A k n) : K pc Ls st A k n := by
  obtain ⟨p, e, s, m, args, below, meth, c, hx, hby, -, hown, -, hZ, -, -, -, rfl⟩ := G
  intro T locs X N hAl RP
  obtain ⟨s₂, o, hs, r⟩ := h T locs X N hAl RP
  exact ⟨s₂, o, X.ldcInt hx hown (mvT hZ w) (g := mkF m pc Ls.toArray st) rfl (hb hby hd) _ hs, r⟩
theorem Gd.ldcwI (G : Gd l Z a0 n0 b R cs ss own nm code ml ret Q K) {idx : Nat} {v : Int32} (hd : decode code pc = .ok (.ldc_w idx, 3)) (w : (Jvm.Cond.constant own idx v).before a0 Z = true) (h : K (pc + 3) Ls (.int v :: st) A k n) : K pc Ls st A k n := by
  obtain ⟨p, e, s, m, args, below, meth, c, hx, hby, -, hown, -, hZ, -, -, -, rfl⟩ := G
  intro T locs X N hAl RP
  obtain ⟨s₂, o, hs, r⟩ := h T locs X N hAl RP
  exact ⟨s₂, o, X.ldcwInt hx hown (mvT hZ w) (g := mkF m pc Ls.toArray st) rfl (hb hby hd) _ hs, r⟩
theorem Gd.ldcL (G : Gd l Z a0 n0 b R cs ss own nm code ml ret Q K) {idx : Nat} {v : Int64} (hd : decode code pc = .ok (.ldc2_w idx, 3)) (w : (Jvm.Cond.constantLong own idx v).before a0 Z = true) (h : K (pc + 3) Ls (.long v :: st) A k n) : K pc Ls st A k n := by
  obtain ⟨p, e, s, m, args, below, meth, c, hx, hby, -, hown, -, hZ, -, -, -, rfl⟩ := G
  intro T locs X N hAl RP
  obtain ⟨s₂, o, hs, r⟩ := h T locs X N hAl RP
  exact ⟨s₂, o, X.ldc2Long hx hown (mvT hZ w) (g := mkF m pc Ls.toArray st) rfl (hb hby hd) _ hs, r⟩
theorem Gd.retV (G : Gd l Z a0 n0 b R cs ss own nm code ml ret Q K) {t : FieldType} {i : Instr} {w : Value} (hret : ret = some t) (hd : decode code pc = .ok (i, 1)) (hn : narrow t w = w)
    (hi : (i = .ireturn ∧ (t = .int ∨ t = .boolean ∨ t = .byte ∨ t = .char ∨ t = .short) ∧ ∃ z, w = .int z) ∨ (i = .lreturn ∧ t = .long ∧ ∃ z, w = .long z) ∨ (i = .dreturn ∧ t = .double ∧ ∃ z, w = .double z) ∨ (i = .freturn ∧ t = .float ∧ ∃ z, w = .float z) ∨ (i = .areturn ∧ t.isReference = true ∧ w.isRef = true))
    (hk : k ≤ cs) (hs : n ≤ ss) (hQ : Q (some w) A) : K pc Ls (w :: st) A k n := by
  obtain ⟨p, e, s, m, args, below, meth, c, hx, hby, -, hown, -, hZ, hrt, hlk, -, rfl⟩ := G
  intro T locs X N hAl RP
  obtain ⟨fs, hr, hrun, hended, hW, hsame⟩ := X.leave (v := some w) (fun q => by rw [hrt, hret] at q; cases q) hlk
  exact ⟨_, _, retOut X hx (hrt.trans hret) hn hi (hb hby hd) hr, hrun, hended, _, locs, rfl, ⟨N, A, hQ, RP⟩, ⟨_, rfl⟩, hW, hsame.mono hk hs⟩
theorem Gd.ireturn (G : Gd l Z a0 n0 b R cs ss own nm code ml ret Q K) {z : Int32} (hret : ret = some .int) (hd : decode code pc = .ok (.ireturn, 1)) (hk : k ≤ cs) (hs : n ≤ ss) (hQ : Q (some (.int z)) A) : K pc Ls (.int z :: st) A k n :=
  G.retV hret hd rfl (Or.inl ⟨rfl, Or.inl rfl, _, rfl⟩) hk hs hQ
theorem Gd.zreturn (G : Gd l Z a0 n0 b R cs ss own nm code ml ret Q K) {z : Int32} (hret : ret = some .boolean) (hd : decode code pc = .ok (.ireturn, 1)) (hz : narrow .boolean (.int z) = .int z) (hk : k ≤ cs) (hs : n ≤ ss) (hQ : Q (some (.int z)) A) : K pc Ls (.int z :: st) A k n :=
  G.retV hret hd hz (Or.inl ⟨rfl, Or.inr (Or.inl rfl), _, rfl⟩) hk hs hQ
theorem Gd.lreturn (G : Gd l Z a0 n0 b R cs ss own nm code ml ret Q K) {z : Int64} (hret : ret = some .long) (hd : decode code pc = .ok (.lreturn, 1)) (hk : k ≤ cs) (hs : n ≤ ss) (hQ : Q (some (.long z)) A) : K pc Ls (.long z :: st) A k n :=
  G.retV hret hd rfl (Or.inr (Or.inl ⟨rfl, rfl, _, rfl⟩)) hk hs hQ
theorem Gd.areturn (G : Gd l Z a0 n0 b R cs ss own nm code ml ret Q K) {t : FieldType} {w : Value} (hret : ret = some t) (hd : decode code pc = .ok (.areturn, 1)) (ht : t.isReference = true) (hw : w.isRef = true) (hn : narrow t w = w) (hk : k ≤ cs) (hs : n ≤ ss) (hQ : Q (some w) A) : K pc Ls (w :: st) A k n :=
  G.retV hret hd hn (Or.inr (Or.inr (Or.inr (Or.inr ⟨rfl, ht, hw⟩)))) hk hs hQ
theorem Gd.vreturn (G : Gd l Z a0 n0 b R cs ss own nm code ml ret Q K) (hret : ret = none) (hd : decode code pc = .ok (.return_, 1)) (hk : k ≤ cs) (hs : n ≤ ss) (hQ : Q none A) : K pc Ls [] A k n := by
  obtain ⟨p, e, s, m, args, below, meth, c, hx, hby, -, hown, -, hZ, hrt, hlk, -, rfl⟩ := G
  intro T locs X N hAl RP
  obtain ⟨fs, hr, hrun, hended, hW, hsame⟩ := X.leave (v := none) (fun _ => rfl) hlk
  exact ⟨_, _, X.returnOut hx (hrt.trans hret) (hb hby hd) hr, hrun, hended, _, locs, rfl, ⟨N, A, hQ, RP⟩, ⟨_, rfl⟩, hW, hsame.mono hk hs⟩
/-- Object's own constructor -/
theorem Gd.initObj (G : Gd l Z a0 n0 b R cs ss own nm code ml ret Q K) {idx : Nat} {a : Addr} (hd : decode code pc = .ok (.invokespecial idx, 3)) (w1 : (Jvm.Cond.methodLink own idx Lib.objectInit).before a0 Z = true) (w2 : (Jvm.Cond.instanceMethod Lib.objectInit).before a0 Z = true) (w3 : (Jvm.Cond.code Lib.objectInit ⟨#[0xb1]⟩ 1 none).before a0 Z = true) (hL : Ls.length = ml) (hf : 1 ≤ R.frames) (hl : (st.map fun v => v.category).sum + 12 ≤ R.locals) (h : K (pc + 3) Ls st A k n) : K pc Ls (.ref a :: st) A k n := by
  obtain ⟨p, e, s, m, args, below, meth, c, hx, hby, hml, hown, -, hZ, -, -, -, rfl⟩ := G
  intro T locs X N hAl RP
  obtain ⟨T', X', e', stp⟩ := initO X hx hZ hown w1 w2 w3 rfl (g := mkF m pc Ls.toArray (.ref a :: st)) rfl (by rw [hml]; simpa using hL) rfl (hb hby hd) hf (W := (st.map fun v => v.category).sum) (by show 2 * 0 + _ ≤ _; omega) hl
  obtain ⟨s₂, o, hs, r⟩ := h T' locs X' N hAl (by rw [e']; exact RP)
  exact ⟨s₂, o, stp _ hs, r⟩
/-- a static method by its contract -/
theorem Gd.scall (G : Gd l Z a0 n0 b R cs ss own nm code ml ret Q K) {idx maxL : Nat} {y : MethodName} {bytes : ByteArray} {rt : Option FieldType} {rm : Room} {Q' : Option Value → AHeap → Prop} {ps : List FieldType} (argsL : List Value) (hst : st' = argsL.reverse ++ st) (hd : decode code pc = .ok (.invokestatic idx, 3)) (w1 : (Jvm.Cond.methodLink own idx y).before a0 Z = true) (w2 : (Jvm.Cond.static y).before a0 Z = true) (w3 : (Jvm.Cond.initialized y.cls).before a0 Z = true) (w4 : (Jvm.Cond.code y bytes maxL rt).before a0 Z = true) (hy : y.cls ≠ "java/lang/invoke/MethodHandle" ∧ y.cls ≠ "java/lang/invoke/VarHandle")
    (hM : Meth l Z a0 [] y bytes maxL rt rm rm.cells rm.slots n0 argsL.toArray A Q') (hpd : parseMethodDescriptor y.desc = some ⟨ps, rt⟩) (hal : argsL.length = ps.length) (hL : Ls.length = ml) (hf : rm.frames + 1 ≤ R.frames) (hl : (st.map fun v => v.category).sum + (maxL + 11) + rm.locals ≤ R.locals) (hc : k + rm.cells ≤ R.cells) (hsl : n + rm.slots ≤ R.slots) (hlen' : ∀ v A', Q' v A' → A'.length = A.length + rm.cells)
    (h : ∀ v A', Q' v A' → K (pc + 3) Ls (v.toList ++ st) A' (k + rm.cells) (n + rm.slots)) : K pc Ls st' A k n := by
  subst hst
  obtain ⟨p, e, s, m, args, below, meth, c, hx, hby, hml, hown, -, hZ, -, -, -, rfl⟩ := G
  intro T locs X N hAl RP
  obtain ⟨v, _, ⟨TB, LB, kB, nB⟩, -, XB, ⟨Lc, hQB, l1, y1, z1⟩, stp⟩ := Jvm.LawKit.callS X hx (y := y) hown (mvT hZ w1) (mvT hZ w2) (mvT hZ w3) (mvT hZ w4) hy (backOf (W := (st.map fun v => v.category).sum) (Q := fun v h L => Fr n0 L ∧ ∃ A', Q' v A' ∧ Rep Z a0 n0 h A') (hM T.heap RP) hZ w4 w3 hf hl) (g := mkF m pc Ls.toArray (argsL.reverse ++ st)) rfl (by rw [hml]; simpa using hL) (argsL := argsL) (rest := st) (lenOf hpd hal) rfl (by show 2 * 0 + _ ≤ _; omega) (hb hby hd) (fun _ _ => ⟨rfl, rfl, hc, hsl⟩)
  dsimp only [Pt.U, Pt.locs, Pt.cells, Pt.slots] at XB l1 y1 z1 stp hQB
  subst l1 y1 z1
  obtain ⟨NB, A', hq, RB⟩ := hQB
  obtain ⟨s₂, o, hs, r⟩ := h _ A' hq TB _ XB (Fr.app N NB) (by rw [hlen' _ _ hq, hAl]; omega) RB
  exact ⟨s₂, o, stp _ hs, r⟩
/-- a constructor by its contract -/
theorem Gd.ncall (G : Gd l Z a0 n0 b R cs ss own nm code ml ret Q K) {idx maxL : Nat} {y : MethodName} {bytes : ByteArray} {rm : Room} {Q' : Option Value → AHeap → Prop} {ps : List FieldType} {a : Addr} (argsL : List Value) (hst : st' = argsL.reverse ++ .ref a :: st) (hd : decode code pc = .ok (.invokespecial idx, 3)) (hy1 : y.name = "<init>") (w1 : (Jvm.Cond.methodLink own idx y).before a0 Z = true) (w2 : (Jvm.Cond.instanceMethod y).before a0 Z = true) (w3 : (Jvm.Cond.initialized y.cls).before a0 Z = true) (w4 : (Jvm.Cond.code y bytes maxL none).before a0 Z = true) (hy : y.cls ≠ "java/lang/invoke/MethodHandle" ∧ y.cls ≠ "java/lang/invoke/VarHandle")
    (hM : Meth l Z a0 [] y bytes maxL none rm rm.cells rm.slots n0 (.ref a :: argsL).toArray A Q') (hpd : parseMethodDescriptor y.desc = some ⟨ps, none⟩) (hal : argsL.length = ps.length) (hL : Ls.length = ml) (hf : rm.frames + 1 ≤ R.frames) (hl : (st.map fun v => v.category).sum + (maxL + 11) + rm.locals ≤ R.locals) (hc : k + rm.cells ≤ R.cells) (hsl : n + rm.slots ≤ R.slots) (hlen' : ∀ v A', Q' v A' → A'.length = A.length + rm.cells)
    (h : ∀ v A', Q' v A' → K (pc + 3) Ls (v.toList ++ st) A' (k + rm.cells) (n + rm.slots)) : K pc Ls st' A k n := by
  subst hst
  obtain ⟨p, e, s, m, args, below, meth, c, hx, hby, hml, hown, -, hZ, -, -, -, rfl⟩ := G
  intro T locs X N hAl RP
  obtain ⟨v, _, ⟨TB, LB, kB, nB⟩, -, XB, ⟨Lc, hQB, l1, y1, z1⟩, stp⟩ := X.specialBack hx (y := y) hy1 hown (mvT hZ w1) (mvT hZ w2) (mvT hZ w4) hy (backOf (W := (st.map fun v => v.category).sum) (Q := fun v h L => Fr n0 L ∧ ∃ A', Q' v A' ∧ Rep Z a0 n0 h A') (hM T.heap RP) hZ w4 w3 hf hl) (g := mkF m pc Ls.toArray (argsL.reverse ++ .ref a :: st)) rfl (by rw [hml]; simpa using hL) (Steps.refl _) (a := a) (argsL := argsL) (rest := st) (lenOf hpd hal) rfl (by show 2 * 0 + _ ≤ _; omega) (hb hby hd) (fun _ _ => ⟨rfl, rfl, hc, hsl⟩)
  dsimp only [Pt.U, Pt.locs, Pt.cells, Pt.slots] at XB l1 y1 z1 stp hQB
  subst l1 y1 z1
  obtain ⟨NB, A', hq, RB⟩ := hQB
  obtain ⟨s₂, o, hs, r⟩ := h _ A' hq TB _ XB (Fr.app N NB) (by rw [hlen' _ _ hq, hAl]; omega) RB
  exact ⟨s₂, o, stp.trans hs, r⟩
/-- an instance method by its contract -/
theorem Gd.vcall (G : Gd l Z a0 n0 b R cs ss own nm code ml ret Q K) {idx maxL i : Nat} {y : MethodName} {bytes : ByteArray} {rt : Option FieldType} {rm : Room} {Q' : Option Value → AHeap → Prop} {ps : List FieldType} {fs : List (String × String × Value)} (argsL : List Value) (hst : st' = argsL.reverse ++ .ref (ad n0 i) :: st) (hd : decode code pc = .ok (.invokevirtual idx, 3)) (w1 : (Jvm.Cond.methodLink own idx y).before a0 Z = true) (w2 : (Jvm.Cond.declares y).before a0 Z = true) (ws : (Jvm.Cond.selects y.cls y y).before a0 Z = true) (wm : (Jvm.Cond.instanceMethod y).before a0 Z = true) (w3 : (Jvm.Cond.initialized y.cls).before a0 Z = true) (w4 : (Jvm.Cond.code y bytes maxL rt).before a0 Z = true) (hy : y.cls ≠ "java/lang/invoke/MethodHandle" ∧ y.cls ≠ "java/lang/invoke/VarHandle") (hA : A[i]? = some (.inl (y.cls, fs)))
    (hM : Meth l Z a0 [] y bytes maxL rt rm rm.cells rm.slots n0 (.ref (ad n0 i) :: argsL).toArray A Q') (hpd : parseMethodDescriptor y.desc = some ⟨ps, rt⟩) (hal : argsL.length = ps.length) (hL : Ls.length = ml) (hf : rm.frames + 1 ≤ R.frames) (hl : (st.map fun v => v.category).sum + (maxL + 11) + rm.locals ≤ R.locals) (hc : k + rm.cells ≤ R.cells) (hsl : n + rm.slots ≤ R.slots) (hlen' : ∀ v A', Q' v A' → A'.length = A.length + rm.cells)
    (h : ∀ v A', Q' v A' → K (pc + 3) Ls (v.toList ++ st) A' (k + rm.cells) (n + rm.slots)) : K pc Ls st' A k n := by
  subst hst
  obtain ⟨p, e, s, m, args, below, meth, c, hx, hby, hml, hown, -, hZ, -, -, -, rfl⟩ := G
  intro T locs X N hAl RP
  obtain ⟨cq, kq, qa, qb, qc⟩ := isOf hZ rfl (RP.2 i _ hA).1
  obtain ⟨v, _, ⟨TB, LB, kB, nB⟩, -, XB, ⟨Lc, hQB, l1, y1, z1⟩, stp⟩ := X.virtualBack hx (y := y) (z := y) hown (mvT hZ w1) (mvT hZ w2) (notFace_of_selects (args := #[]) (mvT hZ ws)) (mvT hZ ws) (mvT hZ wm) hy (backOf (W := (st.map fun v => v.category).sum) (Q := fun v h L => Fr n0 L ∧ ∃ A', Q' v A' ∧ Rep Z a0 n0 h A') (hM T.heap RP) hZ w4 w3 hf hl) qa qc (g := mkF m pc Ls.toArray (argsL.reverse ++ .ref (ad n0 i) :: st)) rfl (by rw [hml]; simpa using hL) (Steps.refl _) (argsL := argsL) (rest := st) (lenOf hpd hal) rfl (by show 2 * 0 + _ ≤ _; omega) (hb hby hd) (fun _ _ => ⟨rfl, rfl, hc, hsl⟩)
  dsimp only [Pt.U, Pt.locs, Pt.cells, Pt.slots] at XB l1 y1 z1 stp hQB
  subst l1 y1 z1
  obtain ⟨NB, A', hq, RB⟩ := hQB
  obtain ⟨s₂, o, hs, r⟩ := h _ A' hq TB _ XB (Fr.app N NB) (by rw [hlen' _ _ hq, hAl]; omega) RB
  exact ⟨s₂, o, stp.trans hs, r⟩
/-- a private instance method by its contract -/
theorem Gd.pcall (G : Gd l Z a0 n0 b R cs ss own nm code ml ret Q K) {idx maxL i : Nat} {y : MethodName} {bytes : ByteArray} {rt : Option FieldType} {rm : Room} {Q' : Option Value → AHeap → Prop} {ps : List FieldType} {fs : List (String × String × Value)} {C : String} {y2 : MethodName} (argsL : List Value) (hst : st' = argsL.reverse ++ .ref (ad n0 i) :: st) (hd : decode code pc = .ok (.invokevirtual idx, 3)) (w1 : (Jvm.Cond.methodLink own idx y).before a0 Z = true) (wp : (Jvm.Cond.privateMethod y).before a0 Z = true) (ws : (Jvm.Cond.selects y2.cls y2 y2).before a0 Z = true) (hy2 : y2.cls = y.cls) (wm : (Jvm.Cond.instanceMethod y).before a0 Z = true) (w3 : (Jvm.Cond.initialized y.cls).before a0 Z = true) (w4 : (Jvm.Cond.code y bytes maxL rt).before a0 Z = true) (hy : y.cls ≠ "java/lang/invoke/MethodHandle" ∧ y.cls ≠ "java/lang/invoke/VarHandle") (hA : A[i]? = some (.inl (C, fs)))
    (hM : Meth l Z a0 [] y bytes maxL rt rm rm.cells rm.slots n0 (.ref (ad n0 i) :: argsL).toArray A Q') (hpd : parseMethodDescriptor y.desc = some ⟨ps, rt⟩) (hal : argsL.length = ps.length) (hL : Ls.length = ml) (hf : rm.frames + 1 ≤ R.frames) (hl : (st.map fun v => v.category).sum + (maxL + 11) + rm.locals ≤ R.locals) (hc : k + rm.cells ≤ R.cells) (hsl : n + rm.slots ≤ R.slots) (hlen' : ∀ v A', Q' v A' → A'.length = A.length + rm.cells)
    (h : ∀ v A', Q' v A' → K (pc + 3) Ls (v.toList ++ st) A' (k + rm.cells) (n + rm.slots)) : K pc Ls st' A k n := by
  subst hst
  obtain ⟨p, e, s, m, args, below, meth, c, hx, hby, hml, hown, -, hZ, -, -, -, rfl⟩ := G
  intro T locs X N hAl RP
  obtain ⟨cq, q1, q2⟩ := (RP.2 i _ hA).1.cell
  obtain ⟨c2, r2, m2, -, -, q3, -, kP, hkP, hkPi⟩ := Cond.selects_spec (mvT hZ ws : (Jvm.Cond.selects y2.cls y2 y2).before args s = true)
  have hsel : (Jvm.Cond.selects y.cls y y).before args s = true := selects_self_of_private (hy2 ▸ findClass_of_methodNamed q3) hkP hkPi (Cond.privateMethod_at (mvP hZ wp (args := #[]))) (mvT hZ wm) hy
  obtain ⟨v, _, ⟨TB, LB, kB, nB⟩, -, XB, ⟨Lc, hQB, l1, y1, z1⟩, stp⟩ := X.privateBack hx (y := y) hown (mvT hZ w1) (mvT hZ wm) hsel (Cond.privateMethod_at (mvP hZ wp (args := #[]))) (mvT hZ w4) hy (backOf (W := (st.map fun v => v.category).sum) (Q := fun v h L => Fr n0 L ∧ ∃ A', Q' v A' ∧ Rep Z a0 n0 h A') (hM T.heap RP) hZ w4 w3 hf hl) (g := mkF m pc Ls.toArray (argsL.reverse ++ .ref (ad n0 i) :: st)) rfl (by rw [hml]; simpa using hL) (Steps.refl _) (a := ad n0 i) q1 q2 (argsL := argsL) (rest := st) (lenOf hpd hal) rfl (by show 2 * 0 + _ ≤ _; omega) (hb hby hd) (fun _ _ => ⟨rfl, rfl, hc, hsl⟩)
  dsimp only [Pt.U, Pt.locs, Pt.cells, Pt.slots] at XB l1 y1 z1 stp hQB
  subst l1 y1 z1
  obtain ⟨NB, A', hq, RB⟩ := hQB
  obtain ⟨s₂, o, hs, r⟩ := h _ A' hq TB _ XB (Fr.app N NB) (by rw [hlen' _ _ hq, hAl]; omega) RB
  exact ⟨s₂, o, stp.trans hs, r⟩
/-- an int[] given by a function of the index -/
def arrF (N : Nat) (f : Int32 → Int32) : List Value := (List.range N).map fun i => .int (f (Int32.ofNat i))
def upd (f : Int32 → Int32) (x v : Int32) : Int32 → Int32 := fun i => if i = x then v else f i
theorem arrF_len (N : Nat) (f : Int32 → Int32) : (arrF N f).length = N := by simp [arrF]
theorem ofNat_of {x : Int32} {xn : Nat} (h : x.toInt = (xn : Int)) : Int32.ofNat xn = x := by
  apply Int32.toInt_inj.mp
  have := x.toInt_lt
  rw [Int32.toInt_ofNat_of_lt (by omega), h]
theorem arrF_at {N : Nat} {f : Int32 → Int32} {x : Int32} {xn : Nat} (h : x.toInt = (xn : Int)) (hl : xn < N) : (arrF N f)[xn]? = some (.int (f x)) := by
  simp [arrF, List.getElem?_map, List.getElem?_range hl, ofNat_of h]
theorem arrF_set {N : Nat} {f : Int32 → Int32} {x v : Int32} {xn : Nat} (h : x.toInt = (xn : Int)) (hN : N ≤ 1000) : (arrF N f).set xn (.int v) = arrF N (upd f x v) := by
  apply List.ext_getElem?
  intro i
  rw [List.getElem?_set]
  by_cases hi : i < N
  · have e1 : (arrF N (upd f x v))[i]? = some (.int (upd f x v (Int32.ofNat i))) := by simp [arrF, List.getElem?_map, List.getElem?_range hi]
    rw [e1]
    by_cases q : xn = i
    · subst q
      rw [if_pos rfl, if_pos (by rw [arrF_len]; exact hi)]
      simp [upd, ofNat_of h]
    · rw [if_neg q]
      have ne : ¬ Int32.ofNat i = x := fun e => q (by
        have : (Int32.ofNat i).toInt = (i : Int) := Int32.toInt_ofNat_of_lt (by omega)
        rw [e, h] at this
        omega)
      simp [arrF, List.getElem?_map, List.getElem?_range hi, upd, ne]
  · have e1 : (arrF N (upd f x v))[i]? = none := List.getElem?_eq_none (by rw [arrF_len]; omega)
    have e2 : (arrF N f)[i]? = none := List.getElem?_eq_none (by rw [arrF_len]; omega)
    rw [e1, e2]
    split
    · rename_i q
      subst q
      rw [if_neg (by rw [arrF_len]; omega)]
    · rfl
theorem arrF_zero (N : Nat) : List.replicate N (Value.int 0) = arrF N (fun _ => 0) := by
  apply List.ext_getElem?
  intro i
  by_cases hi : i < N
  · simp [arrF, List.getElem?_map, List.getElem?_range hi, List.getElem?_replicate, hi]
  · rw [List.getElem?_eq_none (by simp; omega), List.getElem?_eq_none (by rw [arrF_len]; omega)]
theorem upd_same {f : Int32 → Int32} {x v : Int32} (h : f x = v) : upd f x v = f := by
  funext i
  unfold upd
  split
  · rename_i e; subst e; exact h.symm
  · rfl
end Rules
end Jvm.Pilot.@@N@@
namespace Jvm.Pilot.@@N@@
open Jvm Jvm.ClassFile Sem Op Lib Jvm.Free Jvm.Stand Jvm.LawKit Jvm.RoadKit Bundle Jvm.Pilot.@@N@@.Jvm.D
theorem own_pd0 : parseMethodDescriptor "()V" = some ⟨[], none⟩ := by decide +kernel
theorem own_pd1 : parseMethodDescriptor "(I)V" = some ⟨[.int], none⟩ := by decide +kernel
theorem own_pd2 : parseMethodDescriptor "()I" = some ⟨[], some (.int)⟩ := by decide +kernel
theorem own_pd3 : parseMethodDescriptor "(I)I" = some ⟨[.int], some (.int)⟩ := by decide +kernel
theorem own_pd4 : parseMethodDescriptor "(II)I" = some ⟨[.int, .int], some (.int)⟩ := by decide +kernel
theorem own_pd5 : parseMethodDescriptor "(II)Z" = some ⟨[.int, .int], some (.boolean)⟩ := by decide +kernel
theorem own_pd6 : parseMethodDescriptor "([I[III)Z" = some ⟨[.array (.int), .array (.int), .int, .int], some (.boolean)⟩ := by decide +kernel
theorem own_fo (Z : State) (a0 : Array Value) (hw : ∀ d ∈ tables_1, d.before a0 Z = true) : FOk Z a0 "org/glasspane/ColourTable" [("colours", "[I", .null), ("counts", "[I", .null), ("slotOf", "[I", .null), ("slots", "[I", .null), ("shift", "I", .int 0), ("size", "I", .int 0)] :=
  (((((((FOk.nil _).cons (n := "size") (d := "I") (t := .int) (Or.inl (hw _ (List.mem_of_getElem? (i := 31) rfl))) (by decide) (by decide)).cons (n := "shift") (d := "I") (t := .int) (Or.inr (hw _ (List.mem_of_getElem? (i := 24) rfl))) (by decide) (by decide)).cons (n := "slots") (d := "[I") (t := .array (.int)) (Or.inr (hw _ (List.mem_of_getElem? (i := 22) rfl))) (by decide) (by decide)).cons (n := "slotOf") (d := "[I") (t := .array (.int)) (Or.inr (hw _ (List.mem_of_getElem? (i := 15) rfl))) (by decide) (by decide)).cons (n := "counts") (d := "[I") (t := .array (.int)) (Or.inr (hw _ (List.mem_of_getElem? (i := 13) rfl))) (by decide) (by decide)).cons (n := "colours") (d := "[I") (t := .array (.int)) (Or.inr (hw _ (List.mem_of_getElem? (i := 11) rfl))) (by decide) (by decide))
def CTab (n0 : Nat) (c0 c1 : ACell) (N S : Nat) (sz sh : Int32) (c k o f : Int32 → Int32) : AHeap := ([c0, c1, .inl ("org/glasspane/ColourTable", [("colours", "[I", .ref (ad n0 3)), ("counts", "[I", .ref (ad n0 4)), ("slotOf", "[I", .ref (ad n0 5)), ("slots", "[I", .ref (ad n0 6)), ("shift", "I", .int sh), ("size", "I", .int sz)]), (.inr (.int, arrF N c)), (.inr (.int, arrF N k)), (.inr (.int, arrF N o)), (.inr (.int, arrF S f))] : AHeap)
theorem CTab_len (n0 : Nat) (c0 c1 : ACell) (N S : Nat) (sz sh : Int32) (c k o f : Int32 → Int32) : (CTab n0 c0 c1 N S sz sh c k o f).length = 7 := rfl
def own_h (x sh : Int32) : Int32 := ushr (x * (-1640531527 : Int32)) sh
def inR (x : Int32) (S : Nat) : Prop := ∃ n : Nat, x.toInt = (n : Int) ∧ n < S
def nxt (i : Int32) (S : Nat) : Int32 := (i + 1) &&& (S.toInt32 - 1)
def prb (N S : Nat) (f c : Int32 → Int32) (x : Int32) : Nat → Int32 → Int32 → Prop
  | 0, i, r => i = r ∧ inR i S ∧ (f i = 0 ∨ (¬ f i = 0 ∧ inR (f i - 1) N ∧ c (f i - 1) = x))
  | n + 1, i, r => inR i S ∧ ¬ f i = 0 ∧ inR (f i - 1) N ∧ ¬ c (f i - 1) = x ∧ prb N S f c x n (nxt i S) r
theorem d7_0 : decode prog_5_method_11_code 0 = .ok (.iload_n 1, 1) := by decide +kernel
theorem d7_1 : decode prog_5_method_11_code 1 = .ok (.ldc 52, 2) := by decide +kernel
theorem d7_3 : decode prog_5_method_11_code 3 = .ok (.imul, 1) := by decide +kernel
theorem d7_4 : decode prog_5_method_11_code 4 = .ok (.aload_n 0, 1) := by decide +kernel
theorem d7_5 : decode prog_5_method_11_code 5 = .ok (.getfield 28, 3) := by decide +kernel
theorem d7_8 : decode prog_5_method_11_code 8 = .ok (.iushr, 1) := by decide +kernel
theorem d7_9 : decode prog_5_method_11_code 9 = .ok (.istore_n 2, 1) := by decide +kernel
theorem d7_10 : decode prog_5_method_11_code 10 = .ok (.aload_n 0, 1) := by decide +kernel
theorem d7_11 : decode prog_5_method_11_code 11 = .ok (.getfield 25, 3) := by decide +kernel
theorem d7_14 : decode prog_5_method_11_code 14 = .ok (.iload_n 2, 1) := by decide +kernel
theorem d7_15 : decode prog_5_method_11_code 15 = .ok (.iaload, 1) := by decide +kernel
theorem d7_16 : decode prog_5_method_11_code 16 = .ok (.ifCond .eq 35, 3) := by decide +kernel
theorem d7_19 : decode prog_5_method_11_code 19 = .ok (.aload_n 0, 1) := by decide +kernel
theorem d7_20 : decode prog_5_method_11_code 20 = .ok (.getfield 7, 3) := by decide +kernel
theorem d7_23 : decode prog_5_method_11_code 23 = .ok (.aload_n 0, 1) := by decide +kernel
theorem d7_24 : decode prog_5_method_11_code 24 = .ok (.getfield 25, 3) := by decide +kernel
theorem d7_27 : decode prog_5_method_11_code 27 = .ok (.iload_n 2, 1) := by decide +kernel
theorem d7_28 : decode prog_5_method_11_code 28 = .ok (.iaload, 1) := by decide +kernel
theorem d7_29 : decode prog_5_method_11_code 29 = .ok (.iconst 1, 1) := by decide +kernel
theorem d7_30 : decode prog_5_method_11_code 30 = .ok (.isub, 1) := by decide +kernel
theorem d7_31 : decode prog_5_method_11_code 31 = .ok (.iaload, 1) := by decide +kernel
theorem d7_32 : decode prog_5_method_11_code 32 = .ok (.iload_n 1, 1) := by decide +kernel
theorem d7_33 : decode prog_5_method_11_code 33 = .ok (.if_icmp .eq 18, 3) := by decide +kernel
theorem d7_36 : decode prog_5_method_11_code 36 = .ok (.iload_n 2, 1) := by decide +kernel
theorem d7_37 : decode prog_5_method_11_code 37 = .ok (.iconst 1, 1) := by decide +kernel
theorem d7_38 : decode prog_5_method_11_code 38 = .ok (.iadd, 1) := by decide +kernel
theorem d7_39 : decode prog_5_method_11_code 39 = .ok (.aload_n 0, 1) := by decide +kernel
theorem d7_40 : decode prog_5_method_11_code 40 = .ok (.getfield 25, 3) := by decide +kernel
theorem d7_43 : decode prog_5_method_11_code 43 = .ok (.arraylength, 1) := by decide +kernel
theorem d7_44 : decode prog_5_method_11_code 44 = .ok (.iconst 1, 1) := by decide +kernel
theorem d7_45 : decode prog_5_method_11_code 45 = .ok (.isub, 1) := by decide +kernel
theorem d7_46 : decode prog_5_method_11_code 46 = .ok (.iand, 1) := by decide +kernel
theorem d7_47 : decode prog_5_method_11_code 47 = .ok (.istore_n 2, 1) := by decide +kernel
theorem d7_48 : decode prog_5_method_11_code 48 = .ok (.goto (-38), 3) := by decide +kernel
theorem d7_51 : decode prog_5_method_11_code 51 = .ok (.iload_n 2, 1) := by decide +kernel
theorem d7_52 : decode prog_5_method_11_code 52 = .ok (.ireturn, 1) := by decide +kernel
theorem own_pn7 : plainName "org/glasspane/ColourTable" = true := by first | (simp [plainName, overriddenIn]; done) | decide +kernel
set_option maxRecDepth 65536 in
set_option maxHeartbeats 40000000 in
theorem m_7 (l : Launch) (Z : State) (a0 : Array Value) (hw : ∀ d ∈ tables_1, d.before a0 Z = true) (n0 : Nat) (ws : List Jvm.Cond) (c0 c1 : ACell) (N S : Nat) (sz sh : Int32) (c k o f : Int32 → Int32) (x r : Int32) (np : Nat) (hp : prb N S f c x np (own_h x sh) r) :
    Meth l Z a0 ws (⟨"org/glasspane/ColourTable", "slot", "(I)I"⟩ : MethodName) prog_5_method_11_code 3 (some (.int)) ({ frames := 0, cells := 0, slots := 0, locals := 0 } : Room) 0 0 n0 #[.ref (ad n0 2), .int x] (CTab n0 c0 c1 N S sz sh c k o f) (fun q A' => q = some (.int r) ∧ A' = CTab n0 c0 c1 N S sz sh c k o f) := by
  refine Meth.of (plainFor_of_name own_pn7) (Ls := [.val (.ref (ad n0 2)), .val (.int x), .unset]) (fun m => by first | (simp [entryFrame, mkF, argsToLocals, Value.category, maxLocals]; done) | rfl) ?_
  intro K G
  have J10 : ∀ (n : Nat) (i : Int32), prb N S f c x n i r → K 10 [.val (.ref (ad n0 2)), .val (.int x), .val (.int i)] [] ([c0, c1, .inl ("org/glasspane/ColourTable", [("colours", "[I", .ref (ad n0 3)), ("counts", "[I", .ref (ad n0 4)), ("slotOf", "[I", .ref (ad n0 5)), ("slots", "[I", .ref (ad n0 6)), ("shift", "I", .int sh), ("size", "I", .int sz)]), (.inr (.int, arrF N c)), (.inr (.int, arrF N k)), (.inr (.int, arrF N o)), (.inr (.int, arrF S f))] : AHeap) 0 0 := by
    intro n
    induction n with
    | zero =>
      intro i hp
      obtain ⟨rfl, ⟨im, him, hil⟩, hz⟩ := hp
      refine G.aloadN d7_10 rfl rfl ?_
      refine G.getf (j := 3) (host := "") d7_11 (Or.inl (hw _ (List.mem_of_getElem? (i := 21) rfl))) rfl rfl ?_
      refine G.iloadN d7_14 rfl ?_
      refine G.iald im d7_15 rfl him (arrF_at him hil) ?_
      rcases hz with hz | ⟨hz, ⟨jm, hjm, hjl⟩, hcx⟩
      · refine G.if_eq 51 d7_16 (by decide) rfl (fun _ => ?_) (fun q => absurd hz q)
        refine G.iloadN d7_51 rfl ?_
        exact G.ireturn rfl d7_52 (Nat.le_of_ble_eq_true rfl) (Nat.le_of_ble_eq_true rfl) ⟨congrArg (fun z => some (Value.int z)) rfl, rfl⟩
      · refine G.if_eq 51 d7_16 (by decide) rfl (fun q => absurd q hz) (fun _ => ?_)
        refine G.aloadN d7_19 rfl rfl ?_
        refine G.getf (j := 0) (host := "") d7_20 (Or.inl (hw _ (List.mem_of_getElem? (i := 10) rfl))) rfl rfl ?_
        refine G.aloadN d7_23 rfl rfl ?_
        refine G.getf (j := 3) (host := "") d7_24 (Or.inl (hw _ (List.mem_of_getElem? (i := 21) rfl))) rfl rfl ?_
        refine G.iloadN d7_27 rfl ?_
        refine G.iald im d7_28 rfl him (arrF_at him hil) ?_
        refine G.iconst (1) d7_29 rfl ?_
        refine G.isub d7_30 ?_
        refine G.iald jm d7_31 rfl hjm (arrF_at hjm hjl) ?_
        refine G.iloadN d7_32 rfl ?_
        refine G.icmp_eq 51 d7_33 (by decide) rfl (fun _ => ?_) (fun q => absurd hcx q)
        refine G.iloadN d7_51 rfl ?_
        exact G.ireturn rfl d7_52 (Nat.le_of_ble_eq_true rfl) (Nat.le_of_ble_eq_true rfl) ⟨congrArg (fun z => some (Value.int z)) rfl, rfl⟩
    | succ n ih =>
      intro i hp
      obtain ⟨⟨im, him, hil⟩, hz, ⟨jm, hjm, hjl⟩, hcx, hn⟩ := hp
      refine G.aloadN d7_10 rfl rfl ?_
      refine G.getf (j := 3) (host := "") d7_11 (Or.inl (hw _ (List.mem_of_getElem? (i := 21) rfl))) rfl rfl ?_
      refine G.iloadN d7_14 rfl ?_
      refine G.iald im d7_15 rfl him (arrF_at him hil) ?_
      refine G.if_eq 51 d7_16 (by decide) rfl (fun q => absurd q hz) (fun _ => ?_)
      refine G.aloadN d7_19 rfl rfl ?_
      refine G.getf (j := 0) (host := "") d7_20 (Or.inl (hw _ (List.mem_of_getElem? (i := 10) rfl))) rfl rfl ?_
      refine G.aloadN d7_23 rfl rfl ?_
      refine G.getf (j := 3) (host := "") d7_24 (Or.inl (hw _ (List.mem_of_getElem? (i := 21) rfl))) rfl rfl ?_
      refine G.iloadN d7_27 rfl ?_
      refine G.iald im d7_28 rfl him (arrF_at him hil) ?_
      refine G.iconst (1) d7_29 rfl ?_
      refine G.isub d7_30 ?_
      refine G.iald jm d7_31 rfl hjm (arrF_at hjm hjl) ?_
      refine G.iloadN d7_32 rfl ?_
      refine G.icmp_eq 51 d7_33 (by decide) rfl (fun q => absurd q hcx) (fun _ => ?_)
      refine G.iloadN d7_36 rfl ?_
      refine G.iconst (1) d7_37 rfl ?_
      refine G.iadd d7_38 ?_
      refine G.aloadN d7_39 rfl rfl ?_
      refine G.getf (j := 3) (host := "") d7_40 (Or.inl (hw _ (List.mem_of_getElem? (i := 21) rfl))) rfl rfl ?_
      refine G.alen (S.toInt32) d7_43 rfl (by rw [arrF_len]) ?_
      refine G.iconst (1) d7_44 rfl ?_
      refine G.isub d7_45 ?_
      refine G.iand d7_46 ?_
      refine G.istoreN2 d7_47 rfl ?_
      refine G.goto 10 d7_48 (by decide) rfl ?_
      exact ih _ hn
  refine G.iloadN d7_0 rfl ?_
  refine G.ldcI d7_1 (hw _ (List.mem_of_getElem? (i := 46) rfl)) ?_
  refine G.imul d7_3 ?_
  refine G.aloadN d7_4 rfl rfl ?_
  refine G.getf (j := 4) (host := "") d7_5 (Or.inl (hw _ (List.mem_of_getElem? (i := 23) rfl))) rfl rfl ?_
  refine G.iushr d7_8 ?_
  refine G.istoreN2 d7_9 rfl ?_
  exact J10 np _ hp
theorem d6_0 : decode prog_5_method_4_code 0 = .ok (.aload_n 0, 1) := by decide +kernel
theorem d6_1 : decode prog_5_method_4_code 1 = .ok (.iload_n 1, 1) := by decide +kernel
theorem d6_2 : decode prog_5_method_4_code 2 = .ok (.invokevirtual 39, 3) := by decide +kernel
theorem d6_5 : decode prog_5_method_4_code 5 = .ok (.istore_n 3, 1) := by decide +kernel
theorem d6_6 : decode prog_5_method_4_code 6 = .ok (.aload_n 0, 1) := by decide +kernel
theorem d6_7 : decode prog_5_method_4_code 7 = .ok (.getfield 25, 3) := by decide +kernel
theorem d6_10 : decode prog_5_method_4_code 10 = .ok (.iload_n 3, 1) := by decide +kernel
theorem d6_11 : decode prog_5_method_4_code 11 = .ok (.iaload, 1) := by decide +kernel
theorem d6_12 : decode prog_5_method_4_code 12 = .ok (.ifCond .eq 29, 3) := by decide +kernel
theorem d6_15 : decode prog_5_method_4_code 15 = .ok (.aload_n 0, 1) := by decide +kernel
theorem d6_16 : decode prog_5_method_4_code 16 = .ok (.getfield 13, 3) := by decide +kernel
theorem d6_19 : decode prog_5_method_4_code 19 = .ok (.aload_n 0, 1) := by decide +kernel
theorem d6_20 : decode prog_5_method_4_code 20 = .ok (.getfield 25, 3) := by decide +kernel
theorem d6_23 : decode prog_5_method_4_code 23 = .ok (.iload_n 3, 1) := by decide +kernel
theorem d6_24 : decode prog_5_method_4_code 24 = .ok (.iaload, 1) := by decide +kernel
theorem d6_25 : decode prog_5_method_4_code 25 = .ok (.iconst 1, 1) := by decide +kernel
theorem d6_26 : decode prog_5_method_4_code 26 = .ok (.isub, 1) := by decide +kernel
theorem d6_27 : decode prog_5_method_4_code 27 = .ok (.dup2, 1) := by decide +kernel
theorem d6_28 : decode prog_5_method_4_code 28 = .ok (.iaload, 1) := by decide +kernel
theorem d6_29 : decode prog_5_method_4_code 29 = .ok (.iload_n 2, 1) := by decide +kernel
theorem d6_30 : decode prog_5_method_4_code 30 = .ok (.iadd, 1) := by decide +kernel
theorem d6_31 : decode prog_5_method_4_code 31 = .ok (.iastore, 1) := by decide +kernel
theorem d6_32 : decode prog_5_method_4_code 32 = .ok (.aload_n 0, 1) := by decide +kernel
theorem d6_33 : decode prog_5_method_4_code 33 = .ok (.getfield 25, 3) := by decide +kernel
theorem d6_36 : decode prog_5_method_4_code 36 = .ok (.iload_n 3, 1) := by decide +kernel
theorem d6_37 : decode prog_5_method_4_code 37 = .ok (.iaload, 1) := by decide +kernel
theorem d6_38 : decode prog_5_method_4_code 38 = .ok (.iconst 1, 1) := by decide +kernel
theorem d6_39 : decode prog_5_method_4_code 39 = .ok (.isub, 1) := by decide +kernel
theorem d6_40 : decode prog_5_method_4_code 40 = .ok (.ireturn, 1) := by decide +kernel
theorem d6_41 : decode prog_5_method_4_code 41 = .ok (.aload_n 0, 1) := by decide +kernel
theorem d6_42 : decode prog_5_method_4_code 42 = .ok (.getfield 32, 3) := by decide +kernel
theorem d6_45 : decode prog_5_method_4_code 45 = .ok (.aload_n 0, 1) := by decide +kernel
theorem d6_46 : decode prog_5_method_4_code 46 = .ok (.getfield 7, 3) := by decide +kernel
theorem d6_49 : decode prog_5_method_4_code 49 = .ok (.arraylength, 1) := by decide +kernel
theorem d6_50 : decode prog_5_method_4_code 50 = .ok (.if_icmp .ne 5, 3) := by decide +kernel
theorem d6_53 : decode prog_5_method_4_code 53 = .ok (.iconst (-1), 1) := by decide +kernel
theorem d6_54 : decode prog_5_method_4_code 54 = .ok (.ireturn, 1) := by decide +kernel
theorem d6_55 : decode prog_5_method_4_code 55 = .ok (.aload_n 0, 1) := by decide +kernel
theorem d6_56 : decode prog_5_method_4_code 56 = .ok (.getfield 7, 3) := by decide +kernel
theorem d6_59 : decode prog_5_method_4_code 59 = .ok (.aload_n 0, 1) := by decide +kernel
theorem d6_60 : decode prog_5_method_4_code 60 = .ok (.getfield 32, 3) := by decide +kernel
theorem d6_63 : decode prog_5_method_4_code 63 = .ok (.iload_n 1, 1) := by decide +kernel
theorem d6_64 : decode prog_5_method_4_code 64 = .ok (.iastore, 1) := by decide +kernel
theorem d6_65 : decode prog_5_method_4_code 65 = .ok (.aload_n 0, 1) := by decide +kernel
theorem d6_66 : decode prog_5_method_4_code 66 = .ok (.getfield 13, 3) := by decide +kernel
theorem d6_69 : decode prog_5_method_4_code 69 = .ok (.aload_n 0, 1) := by decide +kernel
theorem d6_70 : decode prog_5_method_4_code 70 = .ok (.getfield 32, 3) := by decide +kernel
theorem d6_73 : decode prog_5_method_4_code 73 = .ok (.iload_n 2, 1) := by decide +kernel
theorem d6_74 : decode prog_5_method_4_code 74 = .ok (.iastore, 1) := by decide +kernel
theorem d6_75 : decode prog_5_method_4_code 75 = .ok (.aload_n 0, 1) := by decide +kernel
theorem d6_76 : decode prog_5_method_4_code 76 = .ok (.getfield 16, 3) := by decide +kernel
theorem d6_79 : decode prog_5_method_4_code 79 = .ok (.aload_n 0, 1) := by decide +kernel
theorem d6_80 : decode prog_5_method_4_code 80 = .ok (.getfield 32, 3) := by decide +kernel
theorem d6_83 : decode prog_5_method_4_code 83 = .ok (.iload_n 3, 1) := by decide +kernel
theorem d6_84 : decode prog_5_method_4_code 84 = .ok (.iastore, 1) := by decide +kernel
theorem d6_85 : decode prog_5_method_4_code 85 = .ok (.aload_n 0, 1) := by decide +kernel
theorem d6_86 : decode prog_5_method_4_code 86 = .ok (.getfield 25, 3) := by decide +kernel
theorem d6_89 : decode prog_5_method_4_code 89 = .ok (.iload_n 3, 1) := by decide +kernel
theorem d6_90 : decode prog_5_method_4_code 90 = .ok (.aload_n 0, 1) := by decide +kernel
theorem d6_91 : decode prog_5_method_4_code 91 = .ok (.dup, 1) := by decide +kernel
theorem d6_92 : decode prog_5_method_4_code 92 = .ok (.getfield 32, 3) := by decide +kernel
theorem d6_95 : decode prog_5_method_4_code 95 = .ok (.iconst 1, 1) := by decide +kernel
theorem d6_96 : decode prog_5_method_4_code 96 = .ok (.iadd, 1) := by decide +kernel
theorem d6_97 : decode prog_5_method_4_code 97 = .ok (.dup_x1, 1) := by decide +kernel
theorem d6_98 : decode prog_5_method_4_code 98 = .ok (.putfield 32, 3) := by decide +kernel
theorem d6_101 : decode prog_5_method_4_code 101 = .ok (.iastore, 1) := by decide +kernel
theorem d6_102 : decode prog_5_method_4_code 102 = .ok (.aload_n 0, 1) := by decide +kernel
theorem d6_103 : decode prog_5_method_4_code 103 = .ok (.getfield 32, 3) := by decide +kernel
theorem d6_106 : decode prog_5_method_4_code 106 = .ok (.iconst 1, 1) := by decide +kernel
theorem d6_107 : decode prog_5_method_4_code 107 = .ok (.isub, 1) := by decide +kernel
theorem d6_108 : decode prog_5_method_4_code 108 = .ok (.ireturn, 1) := by decide +kernel
def own_xm_6o (sz : Int32) (sh : Int32) (c : Int32 → Int32) (k : Int32 → Int32) (o : Int32 → Int32) (f : Int32 → Int32) (x : Int32) (cnt : Int32) (r : Int32) (z : Int32) : Int32 := z
set_option maxRecDepth 65536 in
set_option maxHeartbeats 40000000 in
theorem m_6o (l : Launch) (Z : State) (a0 : Array Value) (hw : ∀ d ∈ tables_1, d.before a0 Z = true) (n0 : Nat) (ws : List Jvm.Cond) (c0 c1 : ACell) (N S : Nat) (sz sh : Int32) (c k o f : Int32 → Int32) (x cnt r : Int32) (np : Nat) (hp : prb N S f c x np (own_h x sh) r) (rn : Nat) (hr : r.toInt = (rn : Int)) (hrl : rn < S) (hN : N ≤ 8) (hS : S ≤ 8) (hf : ¬ f r = 0) (z : Int32) (hz : f r - 1 = z) (zn : Nat) (hzn : z.toInt = (zn : Int)) (hzl : zn < N) :
    Meth l Z a0 ws (⟨"org/glasspane/ColourTable", "indexOfAdded", "(II)I"⟩ : MethodName) prog_5_method_4_code 4 (some (.int)) ({ frames := 1, cells := 0, slots := 0, locals := 20 } : Room) 0 0 n0 #[.ref (ad n0 2), .int x, .int cnt] ([c0, c1, .inl ("org/glasspane/ColourTable", [("colours", "[I", .ref (ad n0 3)), ("counts", "[I", .ref (ad n0 4)), ("slotOf", "[I", .ref (ad n0 5)), ("slots", "[I", .ref (ad n0 6)), ("shift", "I", .int sh), ("size", "I", .int sz)]), (.inr (.int, arrF N c)), (.inr (.int, arrF N k)), (.inr (.int, arrF N o)), (.inr (.int, arrF S f))] : AHeap) (fun q A' => q = some (.int z) ∧ A' = CTab n0 c0 c1 N S sz sh c (upd k z (k z + cnt)) o f) := by
  refine Meth.of (plainFor_of_name own_pn7) (Ls := [.val (.ref (ad n0 2)), .val (.int x), .val (.int cnt), .unset]) (fun m => by first | (simp [entryFrame, mkF, argsToLocals, Value.category, maxLocals]; done) | rfl) ?_
  intro K G
  have he : own_xm_6o sz sh c k o f x cnt r z = own_xm_6o sz sh c k o f x cnt r z := rfl
  refine G.aloadN d6_0 rfl rfl ?_
  refine G.iloadN d6_1 rfl ?_
  refine G.pcall (y2 := ⟨"org/glasspane/ColourTable", "mostCommon", "()I"⟩) [_] rfl d6_2 (hw _ (List.mem_of_getElem? (i := 42) rfl)) (hw _ (List.mem_of_getElem? (i := 44) rfl)) (hw _ (List.mem_of_getElem? (i := 28) rfl)) rfl (hw _ (List.mem_of_getElem? (i := 43) rfl)) (hw _ (List.mem_of_getElem? (i := 3) rfl)) (hw _ (List.mem_of_getElem? (i := 45) rfl)) (by decide) rfl (m_7 l Z a0 hw n0 [] _ _ _ _ _ _ _ _ _ _ _ r np hp) own_pd3 rfl rfl (Nat.le_of_ble_eq_true rfl) (Nat.le_of_ble_eq_true rfl) (Nat.le_of_ble_eq_true rfl) (Nat.le_of_ble_eq_true rfl) (by rintro _ _ ⟨rfl, rfl⟩; rfl) ?_
  rintro _ _ ⟨rfl, rfl⟩
  show K _ _ _ ([c0, c1, .inl ("org/glasspane/ColourTable", [("colours", "[I", .ref (ad n0 3)), ("counts", "[I", .ref (ad n0 4)), ("slotOf", "[I", .ref (ad n0 5)), ("slots", "[I", .ref (ad n0 6)), ("shift", "I", .int sh), ("size", "I", .int sz)]), (.inr (.int, arrF N c)), (.inr (.int, arrF N k)), (.inr (.int, arrF N o)), (.inr (.int, arrF S f))] : AHeap) _ _
  refine G.istoreN3 d6_5 rfl ?_
  refine G.aloadN d6_6 rfl rfl ?_
  refine G.getf (j := 3) (host := "") d6_7 (Or.inl (hw _ (List.mem_of_getElem? (i := 21) rfl))) rfl rfl ?_
  refine G.iloadN d6_10 rfl ?_
  refine G.iald rn d6_11 rfl hr (arrF_at hr hrl) ?_
  refine G.if_eq 41 d6_12 (by decide) rfl (fun h12 => absurd h12 (hf)) (fun _ => ?_)
  refine G.aloadN d6_15 rfl rfl ?_
  refine G.getf (j := 1) (host := "") d6_16 (Or.inl (hw _ (List.mem_of_getElem? (i := 12) rfl))) rfl rfl ?_
  refine G.aloadN d6_19 rfl rfl ?_
  refine G.getf (j := 3) (host := "") d6_20 (Or.inl (hw _ (List.mem_of_getElem? (i := 21) rfl))) rfl rfl ?_
  refine G.iloadN d6_23 rfl ?_
  refine G.iald rn d6_24 rfl hr (arrF_at hr hrl) ?_
  refine G.iconst (1) d6_25 rfl ?_
  refine G.isub d6_26 ?_
  rw [hz]
  refine G.dup2 d6_27 rfl rfl ?_
  refine G.iald zn d6_28 rfl hzn (arrF_at hzn hzl) ?_
  refine G.iloadN d6_29 rfl ?_
  refine G.iadd d6_30 ?_
  refine G.iast zn d6_31 rfl hzn (by rw [arrF_len]; exact hzl) ?_
  try simp only [List.set_cons_zero, List.set_cons_succ, List.length_cons, List.length_nil, List.nil_append, List.cons_append, Nat.zero_add, Nat.reduceAdd]
  rw [arrF_set hzn (by omega)]
  refine G.aloadN d6_32 rfl rfl ?_
  refine G.getf (j := 3) (host := "") d6_33 (Or.inl (hw _ (List.mem_of_getElem? (i := 21) rfl))) rfl rfl ?_
  refine G.iloadN d6_36 rfl ?_
  refine G.iald rn d6_37 rfl hr (arrF_at hr hrl) ?_
  refine G.iconst (1) d6_38 rfl ?_
  refine G.isub d6_39 ?_
  rw [hz]
  exact G.ireturn rfl d6_40 (Nat.le_of_ble_eq_true rfl) (Nat.le_of_ble_eq_true rfl) ⟨rfl, rfl⟩
def own_xm_6n (sz : Int32) (sh : Int32) (c : Int32 → Int32) (k : Int32 → Int32) (o : Int32 → Int32) (f : Int32 → Int32) (x : Int32) (cnt : Int32) (r : Int32) (sz' : Int32) : Int32 := sz
set_option maxRecDepth 65536 in
set_option maxHeartbeats 40000000 in
theorem m_6n (l : Launch) (Z : State) (a0 : Array Value) (hw : ∀ d ∈ tables_1, d.before a0 Z = true) (n0 : Nat) (ws : List Jvm.Cond) (c0 c1 : ACell) (N S : Nat) (sz sh : Int32) (c k o f : Int32 → Int32) (x cnt r : Int32) (np : Nat) (hp : prb N S f c x np (own_h x sh) r) (rn : Nat) (hr : r.toInt = (rn : Int)) (hrl : rn < S) (hN : N ≤ 8) (hS : S ≤ 8) (hf : f r = 0) (hcap : ¬ sz = N.toInt32) (sn : Nat) (hsn : sz.toInt = (sn : Int)) (hsl : sn < N) (sz' : Int32) (hs : sz + 1 = sz') (hsm : sz' - 1 = sz) :
    Meth l Z a0 ws (⟨"org/glasspane/ColourTable", "indexOfAdded", "(II)I"⟩ : MethodName) prog_5_method_4_code 4 (some (.int)) ({ frames := 1, cells := 0, slots := 0, locals := 20 } : Room) 0 0 n0 #[.ref (ad n0 2), .int x, .int cnt] ([c0, c1, .inl ("org/glasspane/ColourTable", [("colours", "[I", .ref (ad n0 3)), ("counts", "[I", .ref (ad n0 4)), ("slotOf", "[I", .ref (ad n0 5)), ("slots", "[I", .ref (ad n0 6)), ("shift", "I", .int sh), ("size", "I", .int sz)]), (.inr (.int, arrF N c)), (.inr (.int, arrF N k)), (.inr (.int, arrF N o)), (.inr (.int, arrF S f))] : AHeap) (fun q A' => q = some (.int sz) ∧ A' = CTab n0 c0 c1 N S sz' sh (upd c sz x) (upd k sz cnt) (upd o sz r) (upd f r sz')) := by
  refine Meth.of (plainFor_of_name own_pn7) (Ls := [.val (.ref (ad n0 2)), .val (.int x), .val (.int cnt), .unset]) (fun m => by first | (simp [entryFrame, mkF, argsToLocals, Value.category, maxLocals]; done) | rfl) ?_
  intro K G
  have he : own_xm_6n sz sh c k o f x cnt r sz' = own_xm_6n sz sh c k o f x cnt r sz' := rfl
  refine G.aloadN d6_0 rfl rfl ?_
  refine G.iloadN d6_1 rfl ?_
  refine G.pcall (y2 := ⟨"org/glasspane/ColourTable", "mostCommon", "()I"⟩) [_] rfl d6_2 (hw _ (List.mem_of_getElem? (i := 42) rfl)) (hw _ (List.mem_of_getElem? (i := 44) rfl)) (hw _ (List.mem_of_getElem? (i := 28) rfl)) rfl (hw _ (List.mem_of_getElem? (i := 43) rfl)) (hw _ (List.mem_of_getElem? (i := 3) rfl)) (hw _ (List.mem_of_getElem? (i := 45) rfl)) (by decide) rfl (m_7 l Z a0 hw n0 [] _ _ _ _ _ _ _ _ _ _ _ r np hp) own_pd3 rfl rfl (Nat.le_of_ble_eq_true rfl) (Nat.le_of_ble_eq_true rfl) (Nat.le_of_ble_eq_true rfl) (Nat.le_of_ble_eq_true rfl) (by rintro _ _ ⟨rfl, rfl⟩; rfl) ?_
  rintro _ _ ⟨rfl, rfl⟩
  show K _ _ _ ([c0, c1, .inl ("org/glasspane/ColourTable", [("colours", "[I", .ref (ad n0 3)), ("counts", "[I", .ref (ad n0 4)), ("slotOf", "[I", .ref (ad n0 5)), ("slots", "[I", .ref (ad n0 6)), ("shift", "I", .int sh), ("size", "I", .int sz)]), (.inr (.int, arrF N c)), (.inr (.int, arrF N k)), (.inr (.int, arrF N o)), (.inr (.int, arrF S f))] : AHeap) _ _
  refine G.istoreN3 d6_5 rfl ?_
  refine G.aloadN d6_6 rfl rfl ?_
  refine G.getf (j := 3) (host := "") d6_7 (Or.inl (hw _ (List.mem_of_getElem? (i := 21) rfl))) rfl rfl ?_
  refine G.iloadN d6_10 rfl ?_
  refine G.iald rn d6_11 rfl hr (arrF_at hr hrl) ?_
  refine G.if_eq 41 d6_12 (by decide) rfl (fun _ => ?_) (fun h12 => absurd h12 (fun q => q hf))
  refine G.aloadN d6_41 rfl rfl ?_
  refine G.getf (j := 5) (host := "") d6_42 (Or.inl (hw _ (List.mem_of_getElem? (i := 30) rfl))) rfl rfl ?_
  refine G.aloadN d6_45 rfl rfl ?_
  refine G.getf (j := 0) (host := "") d6_46 (Or.inl (hw _ (List.mem_of_getElem? (i := 10) rfl))) rfl rfl ?_
  refine G.alen (N.toInt32) d6_49 rfl (by rw [arrF_len]) ?_
  refine G.icmp_ne 55 d6_50 (by decide) rfl (fun _ => ?_) (fun h50 => absurd h50 (hcap))
  refine G.aloadN d6_55 rfl rfl ?_
  refine G.getf (j := 0) (host := "") d6_56 (Or.inl (hw _ (List.mem_of_getElem? (i := 10) rfl))) rfl rfl ?_
  refine G.aloadN d6_59 rfl rfl ?_
  refine G.getf (j := 5) (host := "") d6_60 (Or.inl (hw _ (List.mem_of_getElem? (i := 30) rfl))) rfl rfl ?_
  refine G.iloadN d6_63 rfl ?_
  refine G.iast sn d6_64 rfl hsn (by rw [arrF_len]; exact hsl) ?_
  try simp only [List.set_cons_zero, List.set_cons_succ, List.length_cons, List.length_nil, List.nil_append, List.cons_append, Nat.zero_add, Nat.reduceAdd]
  rw [arrF_set hsn (by omega)]
  refine G.aloadN d6_65 rfl rfl ?_
  refine G.getf (j := 1) (host := "") d6_66 (Or.inl (hw _ (List.mem_of_getElem? (i := 12) rfl))) rfl rfl ?_
  refine G.aloadN d6_69 rfl rfl ?_
  refine G.getf (j := 5) (host := "") d6_70 (Or.inl (hw _ (List.mem_of_getElem? (i := 30) rfl))) rfl rfl ?_
  refine G.iloadN d6_73 rfl ?_
  refine G.iast sn d6_74 rfl hsn (by rw [arrF_len]; exact hsl) ?_
  try simp only [List.set_cons_zero, List.set_cons_succ, List.length_cons, List.length_nil, List.nil_append, List.cons_append, Nat.zero_add, Nat.reduceAdd]
  rw [arrF_set hsn (by omega)]
  refine G.aloadN d6_75 rfl rfl ?_
  refine G.getf (j := 2) (host := "") d6_76 (Or.inl (hw _ (List.mem_of_getElem? (i := 14) rfl))) rfl rfl ?_
  refine G.aloadN d6_79 rfl rfl ?_
  refine G.getf (j := 5) (host := "") d6_80 (Or.inl (hw _ (List.mem_of_getElem? (i := 30) rfl))) rfl rfl ?_
  refine G.iloadN d6_83 rfl ?_
  refine G.iast sn d6_84 rfl hsn (by rw [arrF_len]; exact hsl) ?_
  try simp only [List.set_cons_zero, List.set_cons_succ, List.length_cons, List.length_nil, List.nil_append, List.cons_append, Nat.zero_add, Nat.reduceAdd]
  rw [arrF_set hsn (by omega)]
  refine G.aloadN d6_85 rfl rfl ?_
  refine G.getf (j := 3) (host := "") d6_86 (Or.inl (hw _ (List.mem_of_getElem? (i := 21) rfl))) rfl rfl ?_
  refine G.iloadN d6_89 rfl ?_
  refine G.aloadN d6_90 rfl rfl ?_
  refine G.dup d6_91 rfl ?_
  refine G.getf (j := 5) (host := "") d6_92 (Or.inl (hw _ (List.mem_of_getElem? (i := 30) rfl))) rfl rfl ?_
  refine G.iconst (1) d6_95 rfl ?_
  refine G.iadd d6_96 ?_
  rw [hs]
  refine G.dupX1 d6_97 rfl rfl ?_
  refine G.putf (j := 5) (host := "") d6_98 (Or.inl (hw _ (List.mem_of_getElem? (i := 30) rfl))) (Or.inl (hw _ (List.mem_of_getElem? (i := 31) rfl))) (hw _ (List.mem_of_getElem? (i := 2) rfl)) (ty := .int) (by decide) rfl rfl rfl rfl ?_
  try simp only [List.set_cons_zero, List.set_cons_succ, List.length_cons, List.length_nil, List.nil_append, List.cons_append, Nat.zero_add, Nat.reduceAdd]
  refine G.iast rn d6_101 rfl hr (by rw [arrF_len]; exact hrl) ?_
  try simp only [List.set_cons_zero, List.set_cons_succ, List.length_cons, List.length_nil, List.nil_append, List.cons_append, Nat.zero_add, Nat.reduceAdd]
  rw [arrF_set hr (by omega)]
  refine G.aloadN d6_102 rfl rfl ?_
  refine G.getf (j := 5) (host := "") d6_103 (Or.inl (hw _ (List.mem_of_getElem? (i := 30) rfl))) rfl rfl ?_
  refine G.iconst (1) d6_106 rfl ?_
  refine G.isub d6_107 ?_
  rw [hsm]
  exact G.ireturn rfl d6_108 (Nat.le_of_ble_eq_true rfl) (Nat.le_of_ble_eq_true rfl) ⟨rfl, rfl⟩
def own_xm_6f (sz : Int32) (sh : Int32) (c : Int32 → Int32) (k : Int32 → Int32) (o : Int32 → Int32) (f : Int32 → Int32) (x : Int32) (cnt : Int32) (r : Int32) : Int32 := (-1 : Int32)
set_option maxRecDepth 65536 in
set_option maxHeartbeats 40000000 in
theorem m_6f (l : Launch) (Z : State) (a0 : Array Value) (hw : ∀ d ∈ tables_1, d.before a0 Z = true) (n0 : Nat) (ws : List Jvm.Cond) (c0 c1 : ACell) (N S : Nat) (sz sh : Int32) (c k o f : Int32 → Int32) (x cnt r : Int32) (np : Nat) (hp : prb N S f c x np (own_h x sh) r) (rn : Nat) (hr : r.toInt = (rn : Int)) (hrl : rn < S) (hN : N ≤ 8) (hS : S ≤ 8) (hf : f r = 0) (hcap : sz = N.toInt32) :
    Meth l Z a0 ws (⟨"org/glasspane/ColourTable", "indexOfAdded", "(II)I"⟩ : MethodName) prog_5_method_4_code 4 (some (.int)) ({ frames := 1, cells := 0, slots := 0, locals := 20 } : Room) 0 0 n0 #[.ref (ad n0 2), .int x, .int cnt] ([c0, c1, .inl ("org/glasspane/ColourTable", [("colours", "[I", .ref (ad n0 3)), ("counts", "[I", .ref (ad n0 4)), ("slotOf", "[I", .ref (ad n0 5)), ("slots", "[I", .ref (ad n0 6)), ("shift", "I", .int sh), ("size", "I", .int sz)]), (.inr (.int, arrF N c)), (.inr (.int, arrF N k)), (.inr (.int, arrF N o)), (.inr (.int, arrF S f))] : AHeap) (fun q A' => q = some (.int (-1)) ∧ A' = CTab n0 c0 c1 N S sz sh c k o f) := by
  refine Meth.of (plainFor_of_name own_pn7) (Ls := [.val (.ref (ad n0 2)), .val (.int x), .val (.int cnt), .unset]) (fun m => by first | (simp [entryFrame, mkF, argsToLocals, Value.category, maxLocals]; done) | rfl) ?_
  intro K G
  have he : own_xm_6f sz sh c k o f x cnt r = own_xm_6f sz sh c k o f x cnt r := rfl
  refine G.aloadN d6_0 rfl rfl ?_
  refine G.iloadN d6_1 rfl ?_
  refine G.pcall (y2 := ⟨"org/glasspane/ColourTable", "mostCommon", "()I"⟩) [_] rfl d6_2 (hw _ (List.mem_of_getElem? (i := 42) rfl)) (hw _ (List.mem_of_getElem? (i := 44) rfl)) (hw _ (List.mem_of_getElem? (i := 28) rfl)) rfl (hw _ (List.mem_of_getElem? (i := 43) rfl)) (hw _ (List.mem_of_getElem? (i := 3) rfl)) (hw _ (List.mem_of_getElem? (i := 45) rfl)) (by decide) rfl (m_7 l Z a0 hw n0 [] _ _ _ _ _ _ _ _ _ _ _ r np hp) own_pd3 rfl rfl (Nat.le_of_ble_eq_true rfl) (Nat.le_of_ble_eq_true rfl) (Nat.le_of_ble_eq_true rfl) (Nat.le_of_ble_eq_true rfl) (by rintro _ _ ⟨rfl, rfl⟩; rfl) ?_
  rintro _ _ ⟨rfl, rfl⟩
  show K _ _ _ ([c0, c1, .inl ("org/glasspane/ColourTable", [("colours", "[I", .ref (ad n0 3)), ("counts", "[I", .ref (ad n0 4)), ("slotOf", "[I", .ref (ad n0 5)), ("slots", "[I", .ref (ad n0 6)), ("shift", "I", .int sh), ("size", "I", .int sz)]), (.inr (.int, arrF N c)), (.inr (.int, arrF N k)), (.inr (.int, arrF N o)), (.inr (.int, arrF S f))] : AHeap) _ _
  refine G.istoreN3 d6_5 rfl ?_
  refine G.aloadN d6_6 rfl rfl ?_
  refine G.getf (j := 3) (host := "") d6_7 (Or.inl (hw _ (List.mem_of_getElem? (i := 21) rfl))) rfl rfl ?_
  refine G.iloadN d6_10 rfl ?_
  refine G.iald rn d6_11 rfl hr (arrF_at hr hrl) ?_
  refine G.if_eq 41 d6_12 (by decide) rfl (fun _ => ?_) (fun h12 => absurd h12 (fun q => q hf))
  refine G.aloadN d6_41 rfl rfl ?_
  refine G.getf (j := 5) (host := "") d6_42 (Or.inl (hw _ (List.mem_of_getElem? (i := 30) rfl))) rfl rfl ?_
  refine G.aloadN d6_45 rfl rfl ?_
  refine G.getf (j := 0) (host := "") d6_46 (Or.inl (hw _ (List.mem_of_getElem? (i := 10) rfl))) rfl rfl ?_
  refine G.alen (N.toInt32) d6_49 rfl (by rw [arrF_len]) ?_
  refine G.icmp_ne 55 d6_50 (by decide) rfl (fun h50 => absurd h50 (fun q => q hcap)) (fun _ => ?_)
  refine G.iconst (-1) d6_53 rfl ?_
  exact G.ireturn rfl d6_54 (Nat.le_of_ble_eq_true rfl) (Nat.le_of_ble_eq_true rfl) ⟨rfl, rfl⟩
theorem d5_0 : decode prog_5_method_3_code 0 = .ok (.aload_n 0, 1) := by decide +kernel
theorem d5_1 : decode prog_5_method_3_code 1 = .ok (.iload_n 1, 1) := by decide +kernel
theorem d5_2 : decode prog_5_method_3_code 2 = .ok (.iload_n 2, 1) := by decide +kernel
theorem d5_3 : decode prog_5_method_3_code 3 = .ok (.invokevirtual 35, 3) := by decide +kernel
theorem d5_6 : decode prog_5_method_3_code 6 = .ok (.ifCond .lt 7, 3) := by decide +kernel
theorem d5_9 : decode prog_5_method_3_code 9 = .ok (.iconst 1, 1) := by decide +kernel
theorem d5_10 : decode prog_5_method_3_code 10 = .ok (.goto 4, 3) := by decide +kernel
theorem d5_13 : decode prog_5_method_3_code 13 = .ok (.iconst 0, 1) := by decide +kernel
theorem d5_14 : decode prog_5_method_3_code 14 = .ok (.ireturn, 1) := by decide +kernel
def own_xm_5o (sz : Int32) (sh : Int32) (c : Int32 → Int32) (k : Int32 → Int32) (o : Int32 → Int32) (f : Int32 → Int32) (x : Int32) (cnt : Int32) (r : Int32) (z : Int32) : Int32 := (1 : Int32)
set_option maxRecDepth 65536 in
set_option maxHeartbeats 40000000 in
theorem m_5o (l : Launch) (Z : State) (a0 : Array Value) (hw : ∀ d ∈ tables_1, d.before a0 Z = true) (n0 : Nat) (ws : List Jvm.Cond) (c0 c1 : ACell) (N S : Nat) (sz sh : Int32) (c k o f : Int32 → Int32) (x cnt r : Int32) (np : Nat) (hp : prb N S f c x np (own_h x sh) r) (rn : Nat) (hr : r.toInt = (rn : Int)) (hrl : rn < S) (hN : N ≤ 8) (hS : S ≤ 8) (hf : ¬ f r = 0) (z : Int32) (hz : f r - 1 = z) (zn : Nat) (hzn : z.toInt = (zn : Int)) (hzl : zn < N) (hnn : ¬ z < 0) :
    Meth l Z a0 ws (⟨"org/glasspane/ColourTable", "add", "(II)Z"⟩ : MethodName) prog_5_method_3_code 3 (some (.boolean)) ({ frames := 2, cells := 0, slots := 0, locals := 40 } : Room) 0 0 n0 #[.ref (ad n0 2), .int x, .int cnt] ([c0, c1, .inl ("org/glasspane/ColourTable", [("colours", "[I", .ref (ad n0 3)), ("counts", "[I", .ref (ad n0 4)), ("slotOf", "[I", .ref (ad n0 5)), ("slots", "[I", .ref (ad n0 6)), ("shift", "I", .int sh), ("size", "I", .int sz)]), (.inr (.int, arrF N c)), (.inr (.int, arrF N k)), (.inr (.int, arrF N o)), (.inr (.int, arrF S f))] : AHeap) (fun q A' => q = some (.int 1) ∧ A' = CTab n0 c0 c1 N S sz sh c (upd k z (k z + cnt)) o f) := by
  refine Meth.of (plainFor_of_name own_pn7) (Ls := [.val (.ref (ad n0 2)), .val (.int x), .val (.int cnt)]) (fun m => by first | (simp [entryFrame, mkF, argsToLocals, Value.category, maxLocals]; done) | rfl) ?_
  intro K G
  have he : own_xm_5o sz sh c k o f x cnt r z = own_xm_5o sz sh c k o f x cnt r z := rfl
  refine G.aloadN d5_0 rfl rfl ?_
  refine G.iloadN d5_1 rfl ?_
  refine G.iloadN d5_2 rfl ?_
  refine G.vcall [_, _] rfl d5_3 (hw _ (List.mem_of_getElem? (i := 37) rfl)) (hw _ (List.mem_of_getElem? (i := 38) rfl)) (hw _ (List.mem_of_getElem? (i := 40) rfl)) (hw _ (List.mem_of_getElem? (i := 39) rfl)) (hw _ (List.mem_of_getElem? (i := 3) rfl)) (hw _ (List.mem_of_getElem? (i := 41) rfl)) (by decide) rfl (m_6o l Z a0 hw n0 [] _ _ _ _ _ _ _ _ _ _ _ _ _ _ hp _ hr hrl hN hS hf _ hz _ hzn hzl) own_pd4 rfl rfl (Nat.le_of_ble_eq_true rfl) (Nat.le_of_ble_eq_true rfl) (Nat.le_of_ble_eq_true rfl) (Nat.le_of_ble_eq_true rfl) (by rintro _ _ ⟨rfl, rfl⟩; rfl) ?_
  rintro _ _ ⟨rfl, rfl⟩
  refine G.if_lt 13 d5_6 (by decide) rfl (fun h6 => absurd h6 (hnn)) (fun _ => ?_)
  refine G.iconst (1) d5_9 rfl ?_
  refine G.goto 14 d5_10 (by decide) rfl ?_
  exact G.zreturn rfl d5_14 rfl (Nat.le_of_ble_eq_true rfl) (Nat.le_of_ble_eq_true rfl) ⟨rfl, rfl⟩
def own_xm_5n (sz : Int32) (sh : Int32) (c : Int32 → Int32) (k : Int32 → Int32) (o : Int32 → Int32) (f : Int32 → Int32) (x : Int32) (cnt : Int32) (r : Int32) (sz' : Int32) : Int32 := (1 : Int32)
set_option maxRecDepth 65536 in
set_option maxHeartbeats 40000000 in
theorem m_5n (l : Launch) (Z : State) (a0 : Array Value) (hw : ∀ d ∈ tables_1, d.before a0 Z = true) (n0 : Nat) (ws : List Jvm.Cond) (c0 c1 : ACell) (N S : Nat) (sz sh : Int32) (c k o f : Int32 → Int32) (x cnt r : Int32) (np : Nat) (hp : prb N S f c x np (own_h x sh) r) (rn : Nat) (hr : r.toInt = (rn : Int)) (hrl : rn < S) (hN : N ≤ 8) (hS : S ≤ 8) (hf : f r = 0) (hcap : ¬ sz = N.toInt32) (sn : Nat) (hsn : sz.toInt = (sn : Int)) (hsl : sn < N) (sz' : Int32) (hs : sz + 1 = sz') (hsm : sz' - 1 = sz) (hnn : ¬ sz < 0) :
    Meth l Z a0 ws (⟨"org/glasspane/ColourTable", "add", "(II)Z"⟩ : MethodName) prog_5_method_3_code 3 (some (.boolean)) ({ frames := 2, cells := 0, slots := 0, locals := 40 } : Room) 0 0 n0 #[.ref (ad n0 2), .int x, .int cnt] ([c0, c1, .inl ("org/glasspane/ColourTable", [("colours", "[I", .ref (ad n0 3)), ("counts", "[I", .ref (ad n0 4)), ("slotOf", "[I", .ref (ad n0 5)), ("slots", "[I", .ref (ad n0 6)), ("shift", "I", .int sh), ("size", "I", .int sz)]), (.inr (.int, arrF N c)), (.inr (.int, arrF N k)), (.inr (.int, arrF N o)), (.inr (.int, arrF S f))] : AHeap) (fun q A' => q = some (.int 1) ∧ A' = CTab n0 c0 c1 N S sz' sh (upd c sz x) (upd k sz cnt) (upd o sz r) (upd f r sz')) := by
  refine Meth.of (plainFor_of_name own_pn7) (Ls := [.val (.ref (ad n0 2)), .val (.int x), .val (.int cnt)]) (fun m => by first | (simp [entryFrame, mkF, argsToLocals, Value.category, maxLocals]; done) | rfl) ?_
  intro K G
  have he : own_xm_5n sz sh c k o f x cnt r sz' = own_xm_5n sz sh c k o f x cnt r sz' := rfl
  refine G.aloadN d5_0 rfl rfl ?_
  refine G.iloadN d5_1 rfl ?_
  refine G.iloadN d5_2 rfl ?_
  refine G.vcall [_, _] rfl d5_3 (hw _ (List.mem_of_getElem? (i := 37) rfl)) (hw _ (List.mem_of_getElem? (i := 38) rfl)) (hw _ (List.mem_of_getElem? (i := 40) rfl)) (hw _ (List.mem_of_getElem? (i := 39) rfl)) (hw _ (List.mem_of_getElem? (i := 3) rfl)) (hw _ (List.mem_of_getElem? (i := 41) rfl)) (by decide) rfl (m_6n l Z a0 hw n0 [] _ _ _ _ _ _ _ _ _ _ _ _ _ _ hp _ hr hrl hN hS hf hcap _ hsn hsl _ hs hsm) own_pd4 rfl rfl (Nat.le_of_ble_eq_true rfl) (Nat.le_of_ble_eq_true rfl) (Nat.le_of_ble_eq_true rfl) (Nat.le_of_ble_eq_true rfl) (by rintro _ _ ⟨rfl, rfl⟩; rfl) ?_
  rintro _ _ ⟨rfl, rfl⟩
  refine G.if_lt 13 d5_6 (by decide) rfl (fun h6 => absurd h6 (hnn)) (fun _ => ?_)
  refine G.iconst (1) d5_9 rfl ?_
  refine G.goto 14 d5_10 (by decide) rfl ?_
  exact G.zreturn rfl d5_14 rfl (Nat.le_of_ble_eq_true rfl) (Nat.le_of_ble_eq_true rfl) ⟨rfl, rfl⟩
def own_xm_5f (sz : Int32) (sh : Int32) (c : Int32 → Int32) (k : Int32 → Int32) (o : Int32 → Int32) (f : Int32 → Int32) (x : Int32) (cnt : Int32) (r : Int32) : Int32 := (0 : Int32)
set_option maxRecDepth 65536 in
set_option maxHeartbeats 40000000 in
theorem m_5f (l : Launch) (Z : State) (a0 : Array Value) (hw : ∀ d ∈ tables_1, d.before a0 Z = true) (n0 : Nat) (ws : List Jvm.Cond) (c0 c1 : ACell) (N S : Nat) (sz sh : Int32) (c k o f : Int32 → Int32) (x cnt r : Int32) (np : Nat) (hp : prb N S f c x np (own_h x sh) r) (rn : Nat) (hr : r.toInt = (rn : Int)) (hrl : rn < S) (hN : N ≤ 8) (hS : S ≤ 8) (hf : f r = 0) (hcap : sz = N.toInt32) :
    Meth l Z a0 ws (⟨"org/glasspane/ColourTable", "add", "(II)Z"⟩ : MethodName) prog_5_method_3_code 3 (some (.boolean)) ({ frames := 2, cells := 0, slots := 0, locals := 40 } : Room) 0 0 n0 #[.ref (ad n0 2), .int x, .int cnt] ([c0, c1, .inl ("org/glasspane/ColourTable", [("colours", "[I", .ref (ad n0 3)), ("counts", "[I", .ref (ad n0 4)), ("slotOf", "[I", .ref (ad n0 5)), ("slots", "[I", .ref (ad n0 6)), ("shift", "I", .int sh), ("size", "I", .int sz)]), (.inr (.int, arrF N c)), (.inr (.int, arrF N k)), (.inr (.int, arrF N o)), (.inr (.int, arrF S f))] : AHeap) (fun q A' => q = some (.int 0) ∧ A' = CTab n0 c0 c1 N S sz sh c k o f) := by
  refine Meth.of (plainFor_of_name own_pn7) (Ls := [.val (.ref (ad n0 2)), .val (.int x), .val (.int cnt)]) (fun m => by first | (simp [entryFrame, mkF, argsToLocals, Value.category, maxLocals]; done) | rfl) ?_
  intro K G
  have he : own_xm_5f sz sh c k o f x cnt r = own_xm_5f sz sh c k o f x cnt r := rfl
  refine G.aloadN d5_0 rfl rfl ?_
  refine G.iloadN d5_1 rfl ?_
  refine G.iloadN d5_2 rfl ?_
  refine G.vcall [_, _] rfl d5_3 (hw _ (List.mem_of_getElem? (i := 37) rfl)) (hw _ (List.mem_of_getElem? (i := 38) rfl)) (hw _ (List.mem_of_getElem? (i := 40) rfl)) (hw _ (List.mem_of_getElem? (i := 39) rfl)) (hw _ (List.mem_of_getElem? (i := 3) rfl)) (hw _ (List.mem_of_getElem? (i := 41) rfl)) (by decide) rfl (m_6f l Z a0 hw n0 [] _ _ _ _ _ _ _ _ _ _ _ _ _ _ hp _ hr hrl hN hS hf hcap) own_pd4 rfl rfl (Nat.le_of_ble_eq_true rfl) (Nat.le_of_ble_eq_true rfl) (Nat.le_of_ble_eq_true rfl) (Nat.le_of_ble_eq_true rfl) (by rintro _ _ ⟨rfl, rfl⟩; rfl) ?_
  rintro _ _ ⟨rfl, rfl⟩
  refine G.if_lt 13 d5_6 (by decide) rfl (fun _ => ?_) (fun h6 => absurd h6 (by decide))
  refine G.iconst (0) d5_13 rfl ?_
  exact G.zreturn rfl d5_14 rfl (Nat.le_of_ble_eq_true rfl) (Nat.le_of_ble_eq_true rfl) ⟨rfl, rfl⟩
theorem d3_0 : decode jdk_33_method_47_code 0 = .ok (.iload_n 0, 1) := by decide +kernel
theorem d3_1 : decode jdk_33_method_47_code 1 = .ok (.ifCond .gt 14, 3) := by decide +kernel
theorem d3_4 : decode jdk_33_method_47_code 4 = .ok (.iload_n 0, 1) := by decide +kernel
theorem d3_5 : decode jdk_33_method_47_code 5 = .ok (.ifCond .ne 8, 3) := by decide +kernel
theorem d3_8 : decode jdk_33_method_47_code 8 = .ok (.bipush 32, 2) := by decide +kernel
theorem d3_10 : decode jdk_33_method_47_code 10 = .ok (.goto 4, 3) := by decide +kernel
theorem d3_13 : decode jdk_33_method_47_code 13 = .ok (.iconst 0, 1) := by decide +kernel
theorem d3_14 : decode jdk_33_method_47_code 14 = .ok (.ireturn, 1) := by decide +kernel
theorem d3_15 : decode jdk_33_method_47_code 15 = .ok (.bipush 31, 2) := by decide +kernel
theorem d3_17 : decode jdk_33_method_47_code 17 = .ok (.istore_n 1, 1) := by decide +kernel
theorem d3_18 : decode jdk_33_method_47_code 18 = .ok (.iload_n 0, 1) := by decide +kernel
theorem d3_19 : decode jdk_33_method_47_code 19 = .ok (.ldc_w 264, 3) := by decide +kernel
theorem d3_22 : decode jdk_33_method_47_code 22 = .ok (.if_icmp .lt 11, 3) := by decide +kernel
theorem d3_25 : decode jdk_33_method_47_code 25 = .ok (.iinc 1 (-16), 3) := by decide +kernel
theorem d3_28 : decode jdk_33_method_47_code 28 = .ok (.iload_n 0, 1) := by decide +kernel
theorem d3_29 : decode jdk_33_method_47_code 29 = .ok (.bipush 16, 2) := by decide +kernel
theorem d3_31 : decode jdk_33_method_47_code 31 = .ok (.iushr, 1) := by decide +kernel
theorem d3_32 : decode jdk_33_method_47_code 32 = .ok (.istore_n 0, 1) := by decide +kernel
theorem d3_33 : decode jdk_33_method_47_code 33 = .ok (.iload_n 0, 1) := by decide +kernel
theorem d3_34 : decode jdk_33_method_47_code 34 = .ok (.sipush 256, 3) := by decide +kernel
theorem d3_37 : decode jdk_33_method_47_code 37 = .ok (.if_icmp .lt 11, 3) := by decide +kernel
theorem d3_40 : decode jdk_33_method_47_code 40 = .ok (.iinc 1 (-8), 3) := by decide +kernel
theorem d3_43 : decode jdk_33_method_47_code 43 = .ok (.iload_n 0, 1) := by decide +kernel
theorem d3_44 : decode jdk_33_method_47_code 44 = .ok (.bipush 8, 2) := by decide +kernel
theorem d3_46 : decode jdk_33_method_47_code 46 = .ok (.iushr, 1) := by decide +kernel
theorem d3_47 : decode jdk_33_method_47_code 47 = .ok (.istore_n 0, 1) := by decide +kernel
theorem d3_48 : decode jdk_33_method_47_code 48 = .ok (.iload_n 0, 1) := by decide +kernel
theorem d3_49 : decode jdk_33_method_47_code 49 = .ok (.bipush 16, 2) := by decide +kernel
theorem d3_51 : decode jdk_33_method_47_code 51 = .ok (.if_icmp .lt 10, 3) := by decide +kernel
theorem d3_54 : decode jdk_33_method_47_code 54 = .ok (.iinc 1 (-4), 3) := by decide +kernel
theorem d3_57 : decode jdk_33_method_47_code 57 = .ok (.iload_n 0, 1) := by decide +kernel
theorem d3_58 : decode jdk_33_method_47_code 58 = .ok (.iconst 4, 1) := by decide +kernel
theorem d3_59 : decode jdk_33_method_47_code 59 = .ok (.iushr, 1) := by decide +kernel
theorem d3_60 : decode jdk_33_method_47_code 60 = .ok (.istore_n 0, 1) := by decide +kernel
theorem d3_61 : decode jdk_33_method_47_code 61 = .ok (.iload_n 0, 1) := by decide +kernel
theorem d3_62 : decode jdk_33_method_47_code 62 = .ok (.iconst 4, 1) := by decide +kernel
theorem d3_63 : decode jdk_33_method_47_code 63 = .ok (.if_icmp .lt 10, 3) := by decide +kernel
theorem d3_66 : decode jdk_33_method_47_code 66 = .ok (.iinc 1 (-2), 3) := by decide +kernel
theorem d3_69 : decode jdk_33_method_47_code 69 = .ok (.iload_n 0, 1) := by decide +kernel
theorem d3_70 : decode jdk_33_method_47_code 70 = .ok (.iconst 2, 1) := by decide +kernel
theorem d3_71 : decode jdk_33_method_47_code 71 = .ok (.iushr, 1) := by decide +kernel
theorem d3_72 : decode jdk_33_method_47_code 72 = .ok (.istore_n 0, 1) := by decide +kernel
theorem d3_73 : decode jdk_33_method_47_code 73 = .ok (.iload_n 1, 1) := by decide +kernel
theorem d3_74 : decode jdk_33_method_47_code 74 = .ok (.iload_n 0, 1) := by decide +kernel
theorem d3_75 : decode jdk_33_method_47_code 75 = .ok (.iconst 1, 1) := by decide +kernel
theorem d3_76 : decode jdk_33_method_47_code 76 = .ok (.iushr, 1) := by decide +kernel
theorem d3_77 : decode jdk_33_method_47_code 77 = .ok (.isub, 1) := by decide +kernel
theorem d3_78 : decode jdk_33_method_47_code 78 = .ok (.ireturn, 1) := by decide +kernel
def own_nlz_73 (l0 : Int32) (l1 : Int32) : Int32 := (l1 - (ushr l0 (1 : Int32)))
def own_nlz_61 (l0 : Int32) (l1 : Int32) : Int32 := (if l0 < (4 : Int32) then own_nlz_73 l0 l1 else own_nlz_73 (ushr l0 (2 : Int32)) (l1 + (-2 : Int32)))
def own_nlz_48 (l0 : Int32) (l1 : Int32) : Int32 := (if l0 < (16 : Int32) then own_nlz_61 l0 l1 else own_nlz_61 (ushr l0 (4 : Int32)) (l1 + (-4 : Int32)))
def own_nlz_33 (l0 : Int32) (l1 : Int32) : Int32 := (if l0 < (256 : Int32) then own_nlz_48 l0 l1 else own_nlz_48 (ushr l0 (8 : Int32)) (l1 + (-8 : Int32)))
def own_nlz (x0 : Int32) : Int32 := (if (0 : Int32) < x0 then (if x0 < (65536 : Int32) then own_nlz_33 x0 (31 : Int32) else own_nlz_33 (ushr x0 (16 : Int32)) ((31 : Int32) + (-16 : Int32))) else (if x0 = (0 : Int32) then (32 : Int32) else (0 : Int32)))
theorem own_pf8 : plainFor (⟨"java/lang/Integer", "numberOfLeadingZeros", "(I)I"⟩ : MethodName) = true := by decide +kernel
set_option maxRecDepth 65536 in
set_option maxHeartbeats 40000000 in
theorem m_3 (l : Launch) (Z : State) (a0 : Array Value) (hw : ∀ d ∈ tables_1, d.before a0 Z = true) (n0 : Nat) (ws : List Jvm.Cond) (x0 : Int32) (A : AHeap) :
    Meth l Z a0 ws (⟨"java/lang/Integer", "numberOfLeadingZeros", "(I)I"⟩ : MethodName) jdk_33_method_47_code 2 (some (.int)) ({ frames := 0, cells := 0, slots := 0, locals := 0 } : Room) 0 0 n0 #[.int x0] A (fun r A' => r = some (.int (own_nlz x0)) ∧ A' = A) := by
  refine Meth.of own_pf8 (Ls := [.val (.int x0), .unset]) (fun m => by first | (simp [entryFrame, mkF, argsToLocals, Value.category, maxLocals]; done) | rfl) ?_
  intro K G
  have J73 : ∀ (l0 : Int32) (l1 : Int32), own_nlz x0 = own_nlz_73 l0 l1 → K 73 [.val (.int l0), .val (.int l1)] [] A 0 0 := by
    intro l0 l1 he
    refine G.iloadN d3_73 rfl ?_
    refine G.iloadN d3_74 rfl ?_
    refine G.iconst (1) d3_75 rfl ?_
    refine G.iushr d3_76 ?_
    refine G.isub d3_77 ?_
    exact G.ireturn rfl d3_78 (Nat.le_of_ble_eq_true rfl) (Nat.le_of_ble_eq_true rfl) ⟨congrArg (fun z => some (Value.int z)) he.symm, rfl⟩
  have J61 : ∀ (l0 : Int32) (l1 : Int32), own_nlz x0 = own_nlz_61 l0 l1 → K 61 [.val (.int l0), .val (.int l1)] [] A 0 0 := by
    intro l0 l1 he
    refine G.iloadN d3_61 rfl ?_
    refine G.iconst (4) d3_62 rfl ?_
    refine G.icmp_lt 73 d3_63 (by decide) rfl (fun h63 => ?_) (fun h63 => ?_)
    · replace he := he.trans (if_pos h63)
      exact J73 _ _ he
    · replace he := he.trans (if_neg h63)
      refine G.iinc1 (-2) d3_66 rfl rfl ?_
      refine G.iloadN d3_69 rfl ?_
      refine G.iconst (2) d3_70 rfl ?_
      refine G.iushr d3_71 ?_
      refine G.istoreN0 d3_72 rfl ?_
      exact J73 _ _ he
  have J48 : ∀ (l0 : Int32) (l1 : Int32), own_nlz x0 = own_nlz_48 l0 l1 → K 48 [.val (.int l0), .val (.int l1)] [] A 0 0 := by
    intro l0 l1 he
    refine G.iloadN d3_48 rfl ?_
    refine G.bipush (16) d3_49 rfl ?_
    refine G.icmp_lt 61 d3_51 (by decide) rfl (fun h51 => ?_) (fun h51 => ?_)
    · replace he := he.trans (if_pos h51)
      exact J61 _ _ he
    · replace he := he.trans (if_neg h51)
      refine G.iinc1 (-4) d3_54 rfl rfl ?_
      refine G.iloadN d3_57 rfl ?_
      refine G.iconst (4) d3_58 rfl ?_
      refine G.iushr d3_59 ?_
      refine G.istoreN0 d3_60 rfl ?_
      exact J61 _ _ he
  have J33 : ∀ (l0 : Int32) (l1 : Int32), own_nlz x0 = own_nlz_33 l0 l1 → K 33 [.val (.int l0), .val (.int l1)] [] A 0 0 := by
    intro l0 l1 he
    refine G.iloadN d3_33 rfl ?_
    refine G.sipush (256) d3_34 rfl ?_
    refine G.icmp_lt 48 d3_37 (by decide) rfl (fun h37 => ?_) (fun h37 => ?_)
    · replace he := he.trans (if_pos h37)
      exact J48 _ _ he
    · replace he := he.trans (if_neg h37)
      refine G.iinc1 (-8) d3_40 rfl rfl ?_
      refine G.iloadN d3_43 rfl ?_
      refine G.bipush (8) d3_44 rfl ?_
      refine G.iushr d3_46 ?_
      refine G.istoreN0 d3_47 rfl ?_
      exact J48 _ _ he
  have he : own_nlz x0 = own_nlz x0 := rfl
  refine G.iloadN d3_0 rfl ?_
  refine G.if_gt 15 d3_1 (by decide) rfl (fun h1 => ?_) (fun h1 => ?_)
  · replace he := he.trans (if_pos h1)
    refine G.bipush (31) d3_15 rfl ?_
    refine G.istoreN1 d3_17 rfl ?_
    refine G.iloadN d3_18 rfl ?_
    refine G.ldcwI d3_19 (hw _ (List.mem_of_getElem? (i := 20) rfl)) ?_
    refine G.icmp_lt 33 d3_22 (by decide) rfl (fun h22 => ?_) (fun h22 => ?_)
    · replace he := he.trans (if_pos h22)
      exact J33 _ _ he
    · replace he := he.trans (if_neg h22)
      refine G.iinc1 (-16) d3_25 rfl rfl ?_
      refine G.iloadN d3_28 rfl ?_
      refine G.bipush (16) d3_29 rfl ?_
      refine G.iushr d3_31 ?_
      refine G.istoreN0 d3_32 rfl ?_
      exact J33 _ _ he
  · replace he := he.trans (if_neg h1)
    refine G.iloadN d3_4 rfl ?_
    refine G.if_ne 13 d3_5 (by decide) rfl (fun h5 => ?_) (fun h5 => ?_)
    · replace he := he.trans (if_neg h5)
      refine G.iconst (0) d3_13 rfl ?_
      exact G.ireturn rfl d3_14 (Nat.le_of_ble_eq_true rfl) (Nat.le_of_ble_eq_true rfl) ⟨congrArg (fun z => some (Value.int z)) he.symm, rfl⟩
    · replace he := he.trans (if_pos h5)
      refine G.bipush (32) d3_8 rfl ?_
      refine G.goto 14 d3_10 (by decide) rfl ?_
      exact G.ireturn rfl d3_14 (Nat.le_of_ble_eq_true rfl) (Nat.le_of_ble_eq_true rfl) ⟨congrArg (fun z => some (Value.int z)) he.symm, rfl⟩
theorem d1_0 : decode prog_5_method_1_code 0 = .ok (.aload_n 0, 1) := by decide +kernel
theorem d1_1 : decode prog_5_method_1_code 1 = .ok (.invokespecial 1, 3) := by decide +kernel
theorem d1_4 : decode prog_5_method_1_code 4 = .ok (.aload_n 0, 1) := by decide +kernel
theorem d1_5 : decode prog_5_method_1_code 5 = .ok (.iload_n 1, 1) := by decide +kernel
theorem d1_6 : decode prog_5_method_1_code 6 = .ok (.newarray .int, 2) := by decide +kernel
theorem d1_8 : decode prog_5_method_1_code 8 = .ok (.putfield 7, 3) := by decide +kernel
theorem d1_11 : decode prog_5_method_1_code 11 = .ok (.aload_n 0, 1) := by decide +kernel
theorem d1_12 : decode prog_5_method_1_code 12 = .ok (.iload_n 1, 1) := by decide +kernel
theorem d1_13 : decode prog_5_method_1_code 13 = .ok (.newarray .int, 2) := by decide +kernel
theorem d1_15 : decode prog_5_method_1_code 15 = .ok (.putfield 13, 3) := by decide +kernel
theorem d1_18 : decode prog_5_method_1_code 18 = .ok (.aload_n 0, 1) := by decide +kernel
theorem d1_19 : decode prog_5_method_1_code 19 = .ok (.iload_n 1, 1) := by decide +kernel
theorem d1_20 : decode prog_5_method_1_code 20 = .ok (.newarray .int, 2) := by decide +kernel
theorem d1_22 : decode prog_5_method_1_code 22 = .ok (.putfield 16, 3) := by decide +kernel
theorem d1_25 : decode prog_5_method_1_code 25 = .ok (.bipush 32, 2) := by decide +kernel
theorem d1_27 : decode prog_5_method_1_code 27 = .ok (.iconst 2, 1) := by decide +kernel
theorem d1_28 : decode prog_5_method_1_code 28 = .ok (.iload_n 1, 1) := by decide +kernel
theorem d1_29 : decode prog_5_method_1_code 29 = .ok (.imul, 1) := by decide +kernel
theorem d1_30 : decode prog_5_method_1_code 30 = .ok (.iconst 1, 1) := by decide +kernel
theorem d1_31 : decode prog_5_method_1_code 31 = .ok (.isub, 1) := by decide +kernel
theorem d1_32 : decode prog_5_method_1_code 32 = .ok (.invokestatic 21, 3) := by decide +kernel
theorem d1_35 : decode prog_5_method_1_code 35 = .ok (.isub, 1) := by decide +kernel
theorem d1_36 : decode prog_5_method_1_code 36 = .ok (.istore_n 2, 1) := by decide +kernel
theorem d1_37 : decode prog_5_method_1_code 37 = .ok (.aload_n 0, 1) := by decide +kernel
theorem d1_38 : decode prog_5_method_1_code 38 = .ok (.iconst 1, 1) := by decide +kernel
theorem d1_39 : decode prog_5_method_1_code 39 = .ok (.iload_n 2, 1) := by decide +kernel
theorem d1_40 : decode prog_5_method_1_code 40 = .ok (.ishl, 1) := by decide +kernel
theorem d1_41 : decode prog_5_method_1_code 41 = .ok (.newarray .int, 2) := by decide +kernel
theorem d1_43 : decode prog_5_method_1_code 43 = .ok (.putfield 25, 3) := by decide +kernel
theorem d1_46 : decode prog_5_method_1_code 46 = .ok (.aload_n 0, 1) := by decide +kernel
theorem d1_47 : decode prog_5_method_1_code 47 = .ok (.bipush 32, 2) := by decide +kernel
theorem d1_49 : decode prog_5_method_1_code 49 = .ok (.iload_n 2, 1) := by decide +kernel
theorem d1_50 : decode prog_5_method_1_code 50 = .ok (.isub, 1) := by decide +kernel
theorem d1_51 : decode prog_5_method_1_code 51 = .ok (.putfield 28, 3) := by decide +kernel
theorem d1_54 : decode prog_5_method_1_code 54 = .ok (.return_, 1) := by decide +kernel
def own_xm_1 : Int32 := (0 : Int32)
set_option maxRecDepth 65536 in
set_option maxHeartbeats 40000000 in
theorem m_1 (l : Launch) (Z : State) (a0 : Array Value) (hw : ∀ d ∈ tables_1, d.before a0 Z = true) (n0 : Nat) (ws : List Jvm.Cond) (c0 c1 : ACell)  :
    Meth l Z a0 ws (⟨"org/glasspane/ColourTable", "<init>", "(I)V"⟩ : MethodName) prog_5_method_1_code 3 none ({ frames := 1, cells := 4, slots := 17, locals := 20 } : Room) 4 17 n0 #[.ref (ad n0 2), .int (3 : Int32)] ([c0, c1, .inl ("org/glasspane/ColourTable", [("colours", "[I", .null), ("counts", "[I", .null), ("slotOf", "[I", .null), ("slots", "[I", .null), ("shift", "I", .int (0 : Int32)), ("size", "I", .int (0 : Int32))])] : AHeap) (fun q A' => q = none ∧ A' = CTab n0 c0 c1 3 8 0 29 (fun _ => 0) (fun _ => 0) (fun _ => 0) (fun _ => 0)) := by
  refine Meth.of (plainFor_of_name own_pn7) (Ls := [.val (.ref (ad n0 2)), .val (.int (3 : Int32)), .unset]) (fun m => by first | (simp [entryFrame, mkF, argsToLocals, Value.category, maxLocals]; done) | rfl) ?_
  intro K G
  have he : own_xm_1 = own_xm_1 := rfl
  refine G.aloadN d1_0 rfl rfl ?_
  refine G.initObj d1_1 (hw _ (List.mem_of_getElem? (i := 7) rfl)) (hw _ (List.mem_of_getElem? (i := 8) rfl)) (hw _ (List.mem_of_getElem? (i := 9) rfl)) rfl (Nat.le_of_ble_eq_true rfl) (Nat.le_of_ble_eq_true rfl) ?_
  refine G.aloadN d1_4 rfl rfl ?_
  refine G.iloadN d1_5 rfl ?_
  refine G.newarr 3 3 d1_6 (hw _ (List.mem_of_getElem? (i := 0) rfl)) (by decide) (Nat.le_of_ble_eq_true rfl) (by decide) (Nat.le_of_ble_eq_true rfl) (Nat.le_of_ble_eq_true rfl) rfl ?_
  try simp only [List.set_cons_zero, List.set_cons_succ, List.length_cons, List.length_nil, List.nil_append, List.cons_append, Nat.zero_add, Nat.reduceAdd]
  rw [show List.replicate 3 (defaultValue (newarray.typeOf .int)) = arrF 3 (fun _ => 0) from arrF_zero 3]
  refine G.putf (j := 0) (host := "") d1_8 (Or.inl (hw _ (List.mem_of_getElem? (i := 10) rfl))) (Or.inr ⟨(hw _ (List.mem_of_getElem? (i := 11) rfl)), rfl, rfl⟩) (hw _ (List.mem_of_getElem? (i := 2) rfl)) (ty := .array (.int)) (by decide) rfl rfl rfl rfl ?_
  try simp only [List.set_cons_zero, List.set_cons_succ, List.length_cons, List.length_nil, List.nil_append, List.cons_append, Nat.zero_add, Nat.reduceAdd]
  refine G.aloadN d1_11 rfl rfl ?_
  refine G.iloadN d1_12 rfl ?_
  refine G.newarr 3 3 d1_13 (hw _ (List.mem_of_getElem? (i := 0) rfl)) (by decide) (Nat.le_of_ble_eq_true rfl) (by decide) (Nat.le_of_ble_eq_true rfl) (Nat.le_of_ble_eq_true rfl) rfl ?_
  try simp only [List.set_cons_zero, List.set_cons_succ, List.length_cons, List.length_nil, List.nil_append, List.cons_append, Nat.zero_add, Nat.reduceAdd]
  rw [show List.replicate 3 (defaultValue (newarray.typeOf .int)) = arrF 3 (fun _ => 0) from arrF_zero 3]
  refine G.putf (j := 1) (host := "") d1_15 (Or.inl (hw _ (List.mem_of_getElem? (i := 12) rfl))) (Or.inr ⟨(hw _ (List.mem_of_getElem? (i := 13) rfl)), rfl, rfl⟩) (hw _ (List.mem_of_getElem? (i := 2) rfl)) (ty := .array (.int)) (by decide) rfl rfl rfl rfl ?_
  try simp only [List.set_cons_zero, List.set_cons_succ, List.length_cons, List.length_nil, List.nil_append, List.cons_append, Nat.zero_add, Nat.reduceAdd]
  refine G.aloadN d1_18 rfl rfl ?_
  refine G.iloadN d1_19 rfl ?_
  refine G.newarr 3 3 d1_20 (hw _ (List.mem_of_getElem? (i := 0) rfl)) (by decide) (Nat.le_of_ble_eq_true rfl) (by decide) (Nat.le_of_ble_eq_true rfl) (Nat.le_of_ble_eq_true rfl) rfl ?_
  try simp only [List.set_cons_zero, List.set_cons_succ, List.length_cons, List.length_nil, List.nil_append, List.cons_append, Nat.zero_add, Nat.reduceAdd]
  rw [show List.replicate 3 (defaultValue (newarray.typeOf .int)) = arrF 3 (fun _ => 0) from arrF_zero 3]
  refine G.putf (j := 2) (host := "") d1_22 (Or.inl (hw _ (List.mem_of_getElem? (i := 14) rfl))) (Or.inr ⟨(hw _ (List.mem_of_getElem? (i := 15) rfl)), rfl, rfl⟩) (hw _ (List.mem_of_getElem? (i := 2) rfl)) (ty := .array (.int)) (by decide) rfl rfl rfl rfl ?_
  try simp only [List.set_cons_zero, List.set_cons_succ, List.length_cons, List.length_nil, List.nil_append, List.cons_append, Nat.zero_add, Nat.reduceAdd]
  refine G.bipush (32) d1_25 rfl ?_
  refine G.iconst (2) d1_27 rfl ?_
  refine G.iloadN d1_28 rfl ?_
  refine G.imul d1_29 ?_
  refine G.iconst (1) d1_30 rfl ?_
  refine G.isub d1_31 ?_
  refine G.scall [_] rfl d1_32 (hw _ (List.mem_of_getElem? (i := 16) rfl)) (hw _ (List.mem_of_getElem? (i := 17) rfl)) (hw _ (List.mem_of_getElem? (i := 18) rfl)) (hw _ (List.mem_of_getElem? (i := 19) rfl)) (by decide) (m_3 l Z a0 hw n0 [] _ _) own_pd3 rfl rfl (Nat.le_of_ble_eq_true rfl) (Nat.le_of_ble_eq_true rfl) (Nat.le_of_ble_eq_true rfl) (Nat.le_of_ble_eq_true rfl) (by rintro _ _ ⟨rfl, rfl⟩; rfl) ?_
  rintro _ _ ⟨rfl, rfl⟩
  rw [show own_nlz _ = (29 : Int32) from by decide]
  refine G.isub d1_35 ?_
  refine G.istoreN2 d1_36 rfl ?_
  refine G.aloadN d1_37 rfl rfl ?_
  refine G.iconst (1) d1_38 rfl ?_
  refine G.iloadN d1_39 rfl ?_
  refine G.ishl d1_40 ?_
  refine G.newarr 8 8 d1_41 (hw _ (List.mem_of_getElem? (i := 0) rfl)) (by decide) (Nat.le_of_ble_eq_true rfl) (by decide) (Nat.le_of_ble_eq_true rfl) (Nat.le_of_ble_eq_true rfl) rfl ?_
  try simp only [List.set_cons_zero, List.set_cons_succ, List.length_cons, List.length_nil, List.nil_append, List.cons_append, Nat.zero_add, Nat.reduceAdd]
  rw [show List.replicate 8 (defaultValue (newarray.typeOf .int)) = arrF 8 (fun _ => 0) from arrF_zero 8]
  refine G.putf (j := 3) (host := "") d1_43 (Or.inl (hw _ (List.mem_of_getElem? (i := 21) rfl))) (Or.inr ⟨(hw _ (List.mem_of_getElem? (i := 22) rfl)), rfl, rfl⟩) (hw _ (List.mem_of_getElem? (i := 2) rfl)) (ty := .array (.int)) (by decide) rfl rfl rfl rfl ?_
  try simp only [List.set_cons_zero, List.set_cons_succ, List.length_cons, List.length_nil, List.nil_append, List.cons_append, Nat.zero_add, Nat.reduceAdd]
  refine G.aloadN d1_46 rfl rfl ?_
  refine G.bipush (32) d1_47 rfl ?_
  refine G.iloadN d1_49 rfl ?_
  refine G.isub d1_50 ?_
  refine G.putf (j := 4) (host := "") d1_51 (Or.inl (hw _ (List.mem_of_getElem? (i := 23) rfl))) (Or.inr ⟨(hw _ (List.mem_of_getElem? (i := 24) rfl)), rfl, rfl⟩) (hw _ (List.mem_of_getElem? (i := 2) rfl)) (ty := .int) (by decide) rfl rfl rfl rfl ?_
  try simp only [List.set_cons_zero, List.set_cons_succ, List.length_cons, List.length_nil, List.nil_append, List.cons_append, Nat.zero_add, Nat.reduceAdd]
  exact G.vreturn rfl d1_54 (Nat.le_of_ble_eq_true rfl) (Nat.le_of_ble_eq_true rfl) ⟨rfl, rfl⟩
def CTl (n0 : Nat) (N S : Nat) (sz sh : Int32) (c k o f : Int32 → Int32) : AHeap := ([.inl ("org/glasspane/ColourTable", [("colours", "[I", .ref (ad n0 3)), ("counts", "[I", .ref (ad n0 4)), ("slotOf", "[I", .ref (ad n0 5)), ("slots", "[I", .ref (ad n0 6)), ("shift", "I", .int sh), ("size", "I", .int sz)]), (.inr (.int, arrF N c)), (.inr (.int, arrF N k)), (.inr (.int, arrF N o)), (.inr (.int, arrF S f))] : AHeap)
theorem CTab_split (n0 : Nat) (c0 c1 : ACell) (N S : Nat) (sz sh : Int32) (c k o f : Int32 → Int32) : CTab n0 c0 c1 N S sz sh c k o f = c0 :: c1 :: CTl n0 N S sz sh c k o f := rfl
theorem d4_0 : decode prog_5_method_8_code 0 = .ok (.iconst 0, 1) := by decide +kernel
theorem d4_1 : decode prog_5_method_8_code 1 = .ok (.istore_n 1, 1) := by decide +kernel
theorem d4_2 : decode prog_5_method_8_code 2 = .ok (.iconst 1, 1) := by decide +kernel
theorem d4_3 : decode prog_5_method_8_code 3 = .ok (.istore_n 2, 1) := by decide +kernel
theorem d4_4 : decode prog_5_method_8_code 4 = .ok (.iload_n 2, 1) := by decide +kernel
theorem d4_5 : decode prog_5_method_8_code 5 = .ok (.aload_n 0, 1) := by decide +kernel
theorem d4_6 : decode prog_5_method_8_code 6 = .ok (.getfield 32, 3) := by decide +kernel
theorem d4_9 : decode prog_5_method_8_code 9 = .ok (.if_icmp .ge 56, 3) := by decide +kernel
theorem d4_12 : decode prog_5_method_8_code 12 = .ok (.aload_n 0, 1) := by decide +kernel
theorem d4_13 : decode prog_5_method_8_code 13 = .ok (.getfield 13, 3) := by decide +kernel
theorem d4_16 : decode prog_5_method_8_code 16 = .ok (.iload_n 2, 1) := by decide +kernel
theorem d4_17 : decode prog_5_method_8_code 17 = .ok (.iaload, 1) := by decide +kernel
theorem d4_18 : decode prog_5_method_8_code 18 = .ok (.aload_n 0, 1) := by decide +kernel
theorem d4_19 : decode prog_5_method_8_code 19 = .ok (.getfield 13, 3) := by decide +kernel
theorem d4_22 : decode prog_5_method_8_code 22 = .ok (.iload_n 1, 1) := by decide +kernel
theorem d4_23 : decode prog_5_method_8_code 23 = .ok (.iaload, 1) := by decide +kernel
theorem d4_24 : decode prog_5_method_8_code 24 = .ok (.if_icmp .gt 33, 3) := by decide +kernel
theorem d4_27 : decode prog_5_method_8_code 27 = .ok (.aload_n 0, 1) := by decide +kernel
theorem d4_28 : decode prog_5_method_8_code 28 = .ok (.getfield 13, 3) := by decide +kernel
theorem d4_31 : decode prog_5_method_8_code 31 = .ok (.iload_n 2, 1) := by decide +kernel
theorem d4_32 : decode prog_5_method_8_code 32 = .ok (.iaload, 1) := by decide +kernel
theorem d4_33 : decode prog_5_method_8_code 33 = .ok (.aload_n 0, 1) := by decide +kernel
theorem d4_34 : decode prog_5_method_8_code 34 = .ok (.getfield 13, 3) := by decide +kernel
theorem d4_37 : decode prog_5_method_8_code 37 = .ok (.iload_n 1, 1) := by decide +kernel
theorem d4_38 : decode prog_5_method_8_code 38 = .ok (.iaload, 1) := by decide +kernel
theorem d4_39 : decode prog_5_method_8_code 39 = .ok (.if_icmp .ne 20, 3) := by decide +kernel
theorem d4_42 : decode prog_5_method_8_code 42 = .ok (.aload_n 0, 1) := by decide +kernel
theorem d4_43 : decode prog_5_method_8_code 43 = .ok (.getfield 7, 3) := by decide +kernel
theorem d4_46 : decode prog_5_method_8_code 46 = .ok (.iload_n 2, 1) := by decide +kernel
theorem d4_47 : decode prog_5_method_8_code 47 = .ok (.iaload, 1) := by decide +kernel
theorem d4_48 : decode prog_5_method_8_code 48 = .ok (.aload_n 0, 1) := by decide +kernel
theorem d4_49 : decode prog_5_method_8_code 49 = .ok (.getfield 7, 3) := by decide +kernel
theorem d4_52 : decode prog_5_method_8_code 52 = .ok (.iload_n 1, 1) := by decide +kernel
theorem d4_53 : decode prog_5_method_8_code 53 = .ok (.iaload, 1) := by decide +kernel
theorem d4_54 : decode prog_5_method_8_code 54 = .ok (.if_icmp .ge 5, 3) := by decide +kernel
theorem d4_57 : decode prog_5_method_8_code 57 = .ok (.iload_n 2, 1) := by decide +kernel
theorem d4_58 : decode prog_5_method_8_code 58 = .ok (.istore_n 1, 1) := by decide +kernel
theorem d4_59 : decode prog_5_method_8_code 59 = .ok (.iinc 2 1, 3) := by decide +kernel
theorem d4_62 : decode prog_5_method_8_code 62 = .ok (.goto (-58), 3) := by decide +kernel
theorem d4_65 : decode prog_5_method_8_code 65 = .ok (.iload_n 1, 1) := by decide +kernel
theorem d4_66 : decode prog_5_method_8_code 66 = .ok (.ireturn, 1) := by decide +kernel
def own_mc0 (c : Int32 → Int32) (k : Int32 → Int32) : Int32 := (0 : Int32)
set_option maxRecDepth 65536 in
set_option maxHeartbeats 40000000 in
theorem m_4_0 (l : Launch) (Z : State) (a0 : Array Value) (hw : ∀ d ∈ tables_1, d.before a0 Z = true) (n0 : Nat) (ws : List Jvm.Cond) (c0 c1 : ACell) (sh : Int32) (c k o f : Int32 → Int32) :
    Meth l Z a0 ws (⟨"org/glasspane/ColourTable", "mostCommon", "()I"⟩ : MethodName) prog_5_method_8_code 3 (some (.int)) ({ frames := 0, cells := 0, slots := 0, locals := 0 } : Room) 0 0 n0 #[.ref (ad n0 2)] ([c0, c1, .inl ("org/glasspane/ColourTable", [("colours", "[I", .ref (ad n0 3)), ("counts", "[I", .ref (ad n0 4)), ("slotOf", "[I", .ref (ad n0 5)), ("slots", "[I", .ref (ad n0 6)), ("shift", "I", .int sh), ("size", "I", .int (0 : Int32))]), (.inr (.int, arrF 3 c)), (.inr (.int, arrF 3 k)), (.inr (.int, arrF 3 o)), (.inr (.int, arrF 8 f))] : AHeap) (fun q A' => q = some (.int (own_mc0 c k)) ∧ A' = CTab n0 c0 c1 3 8 0 sh c k o f) := by
  refine Meth.of (plainFor_of_name own_pn7) (Ls := [.val (.ref (ad n0 2)), .unset, .unset]) (fun m => by first | (simp [entryFrame, mkF, argsToLocals, Value.category, maxLocals]; done) | rfl) ?_
  intro K G
  have he : own_mc0 c k = own_mc0 c k := rfl
  refine G.iconst (0) d4_0 rfl ?_
  refine G.istoreN1 d4_1 rfl ?_
  refine G.iconst (1) d4_2 rfl ?_
  refine G.istoreN2 d4_3 rfl ?_
  refine G.iloadN d4_4 rfl ?_
  refine G.aloadN d4_5 rfl rfl ?_
  refine G.getf (j := 5) (host := "") d4_6 (Or.inl (hw _ (List.mem_of_getElem? (i := 30) rfl))) rfl rfl ?_
  refine G.icmp_ge 65 d4_9 (by decide) rfl (fun _ => ?_) (fun h9 => absurd h9 (by decide))
  refine G.iloadN d4_65 rfl ?_
  exact G.ireturn rfl d4_66 (Nat.le_of_ble_eq_true rfl) (Nat.le_of_ble_eq_true rfl) ⟨congrArg (fun z => some (Value.int z)) he.symm, rfl⟩
def own_mc1 (c : Int32 → Int32) (k : Int32 → Int32) : Int32 := (0 : Int32)
set_option maxRecDepth 65536 in
set_option maxHeartbeats 40000000 in
theorem m_4_1 (l : Launch) (Z : State) (a0 : Array Value) (hw : ∀ d ∈ tables_1, d.before a0 Z = true) (n0 : Nat) (ws : List Jvm.Cond) (c0 c1 : ACell) (sh : Int32) (c k o f : Int32 → Int32) :
    Meth l Z a0 ws (⟨"org/glasspane/ColourTable", "mostCommon", "()I"⟩ : MethodName) prog_5_method_8_code 3 (some (.int)) ({ frames := 0, cells := 0, slots := 0, locals := 0 } : Room) 0 0 n0 #[.ref (ad n0 2)] ([c0, c1, .inl ("org/glasspane/ColourTable", [("colours", "[I", .ref (ad n0 3)), ("counts", "[I", .ref (ad n0 4)), ("slotOf", "[I", .ref (ad n0 5)), ("slots", "[I", .ref (ad n0 6)), ("shift", "I", .int sh), ("size", "I", .int (1 : Int32))]), (.inr (.int, arrF 3 c)), (.inr (.int, arrF 3 k)), (.inr (.int, arrF 3 o)), (.inr (.int, arrF 8 f))] : AHeap) (fun q A' => q = some (.int (own_mc1 c k)) ∧ A' = CTab n0 c0 c1 3 8 1 sh c k o f) := by
  refine Meth.of (plainFor_of_name own_pn7) (Ls := [.val (.ref (ad n0 2)), .unset, .unset]) (fun m => by first | (simp [entryFrame, mkF, argsToLocals, Value.category, maxLocals]; done) | rfl) ?_
  intro K G
  have he : own_mc1 c k = own_mc1 c k := rfl
  refine G.iconst (0) d4_0 rfl ?_
  refine G.istoreN1 d4_1 rfl ?_
  refine G.iconst (1) d4_2 rfl ?_
  refine G.istoreN2 d4_3 rfl ?_
  refine G.iloadN d4_4 rfl ?_
  refine G.aloadN d4_5 rfl rfl ?_
  refine G.getf (j := 5) (host := "") d4_6 (Or.inl (hw _ (List.mem_of_getElem? (i := 30) rfl))) rfl rfl ?_
  refine G.icmp_ge 65 d4_9 (by decide) rfl (fun _ => ?_) (fun h9 => absurd h9 (by decide))
  refine G.iloadN d4_65 rfl ?_
  exact G.ireturn rfl d4_66 (Nat.le_of_ble_eq_true rfl) (Nat.le_of_ble_eq_true rfl) ⟨congrArg (fun z => some (Value.int z)) he.symm, rfl⟩
def own_mc2 (c : Int32 → Int32) (k : Int32 → Int32) : Int32 := (if (k 0) < (k 1) then (1 : Int32) else (if (k 1) = (k 0) then (if (c 1) < (c 0) then (1 : Int32) else (0 : Int32)) else (0 : Int32)))
set_option maxRecDepth 65536 in
set_option maxHeartbeats 40000000 in
theorem m_4_2 (l : Launch) (Z : State) (a0 : Array Value) (hw : ∀ d ∈ tables_1, d.before a0 Z = true) (n0 : Nat) (ws : List Jvm.Cond) (c0 c1 : ACell) (sh : Int32) (c k o f : Int32 → Int32) :
    Meth l Z a0 ws (⟨"org/glasspane/ColourTable", "mostCommon", "()I"⟩ : MethodName) prog_5_method_8_code 3 (some (.int)) ({ frames := 0, cells := 0, slots := 0, locals := 0 } : Room) 0 0 n0 #[.ref (ad n0 2)] ([c0, c1, .inl ("org/glasspane/ColourTable", [("colours", "[I", .ref (ad n0 3)), ("counts", "[I", .ref (ad n0 4)), ("slotOf", "[I", .ref (ad n0 5)), ("slots", "[I", .ref (ad n0 6)), ("shift", "I", .int sh), ("size", "I", .int (2 : Int32))]), (.inr (.int, arrF 3 c)), (.inr (.int, arrF 3 k)), (.inr (.int, arrF 3 o)), (.inr (.int, arrF 8 f))] : AHeap) (fun q A' => q = some (.int (own_mc2 c k)) ∧ A' = CTab n0 c0 c1 3 8 2 sh c k o f) := by
  refine Meth.of (plainFor_of_name own_pn7) (Ls := [.val (.ref (ad n0 2)), .unset, .unset]) (fun m => by first | (simp [entryFrame, mkF, argsToLocals, Value.category, maxLocals]; done) | rfl) ?_
  intro K G
  have he : own_mc2 c k = own_mc2 c k := rfl
  refine G.iconst (0) d4_0 rfl ?_
  refine G.istoreN1 d4_1 rfl ?_
  refine G.iconst (1) d4_2 rfl ?_
  refine G.istoreN2 d4_3 rfl ?_
  refine G.iloadN d4_4 rfl ?_
  refine G.aloadN d4_5 rfl rfl ?_
  refine G.getf (j := 5) (host := "") d4_6 (Or.inl (hw _ (List.mem_of_getElem? (i := 30) rfl))) rfl rfl ?_
  refine G.icmp_ge 65 d4_9 (by decide) rfl (fun h9 => absurd h9 (by decide)) (fun _ => ?_)
  refine G.aloadN d4_12 rfl rfl ?_
  refine G.getf (j := 1) (host := "") d4_13 (Or.inl (hw _ (List.mem_of_getElem? (i := 12) rfl))) rfl rfl ?_
  refine G.iloadN d4_16 rfl ?_
  refine G.iald 1 d4_17 rfl (by decide) (arrF_at (x := 1) (by decide) (by decide)) ?_
  refine G.aloadN d4_18 rfl rfl ?_
  refine G.getf (j := 1) (host := "") d4_19 (Or.inl (hw _ (List.mem_of_getElem? (i := 12) rfl))) rfl rfl ?_
  refine G.iloadN d4_22 rfl ?_
  refine G.iald 0 d4_23 rfl (by decide) (arrF_at (x := 0) (by decide) (by decide)) ?_
  refine G.icmp_gt 57 d4_24 (by decide) rfl (fun h24 => ?_) (fun h24 => ?_)
  · replace he := he.trans (if_pos h24)
    refine G.iloadN d4_57 rfl ?_
    refine G.istoreN1 d4_58 rfl ?_
    refine G.iinc2 (1) d4_59 rfl rfl ?_
    refine G.goto 4 d4_62 (by decide) rfl ?_
    refine G.iloadN d4_4 rfl ?_
    refine G.aloadN d4_5 rfl rfl ?_
    refine G.getf (j := 5) (host := "") d4_6 (Or.inl (hw _ (List.mem_of_getElem? (i := 30) rfl))) rfl rfl ?_
    refine G.icmp_ge 65 d4_9 (by decide) rfl (fun _ => ?_) (fun h9 => absurd h9 (by decide))
    refine G.iloadN d4_65 rfl ?_
    exact G.ireturn rfl d4_66 (Nat.le_of_ble_eq_true rfl) (Nat.le_of_ble_eq_true rfl) ⟨congrArg (fun z => some (Value.int z)) he.symm, rfl⟩
  · replace he := he.trans (if_neg h24)
    refine G.aloadN d4_27 rfl rfl ?_
    refine G.getf (j := 1) (host := "") d4_28 (Or.inl (hw _ (List.mem_of_getElem? (i := 12) rfl))) rfl rfl ?_
    refine G.iloadN d4_31 rfl ?_
    refine G.iald 1 d4_32 rfl (by decide) (arrF_at (x := 1) (by decide) (by decide)) ?_
    refine G.aloadN d4_33 rfl rfl ?_
    refine G.getf (j := 1) (host := "") d4_34 (Or.inl (hw _ (List.mem_of_getElem? (i := 12) rfl))) rfl rfl ?_
    refine G.iloadN d4_37 rfl ?_
    refine G.iald 0 d4_38 rfl (by decide) (arrF_at (x := 0) (by decide) (by decide)) ?_
    refine G.icmp_ne 59 d4_39 (by decide) rfl (fun h39 => ?_) (fun h39 => ?_)
    · replace he := he.trans (if_neg h39)
      refine G.iinc2 (1) d4_59 rfl rfl ?_
      refine G.goto 4 d4_62 (by decide) rfl ?_
      refine G.iloadN d4_4 rfl ?_
      refine G.aloadN d4_5 rfl rfl ?_
      refine G.getf (j := 5) (host := "") d4_6 (Or.inl (hw _ (List.mem_of_getElem? (i := 30) rfl))) rfl rfl ?_
      refine G.icmp_ge 65 d4_9 (by decide) rfl (fun _ => ?_) (fun h9 => absurd h9 (by decide))
      refine G.iloadN d4_65 rfl ?_
      exact G.ireturn rfl d4_66 (Nat.le_of_ble_eq_true rfl) (Nat.le_of_ble_eq_true rfl) ⟨congrArg (fun z => some (Value.int z)) he.symm, rfl⟩
    · replace he := he.trans (if_pos h39)
      refine G.aloadN d4_42 rfl rfl ?_
      refine G.getf (j := 0) (host := "") d4_43 (Or.inl (hw _ (List.mem_of_getElem? (i := 10) rfl))) rfl rfl ?_
      refine G.iloadN d4_46 rfl ?_
      refine G.iald 1 d4_47 rfl (by decide) (arrF_at (x := 1) (by decide) (by decide)) ?_
      refine G.aloadN d4_48 rfl rfl ?_
      refine G.getf (j := 0) (host := "") d4_49 (Or.inl (hw _ (List.mem_of_getElem? (i := 10) rfl))) rfl rfl ?_
      refine G.iloadN d4_52 rfl ?_
      refine G.iald 0 d4_53 rfl (by decide) (arrF_at (x := 0) (by decide) (by decide)) ?_
      refine G.icmp_ge 59 d4_54 (by decide) rfl (fun h54 => ?_) (fun h54 => ?_)
      · replace he := he.trans (if_neg h54)
        refine G.iinc2 (1) d4_59 rfl rfl ?_
        refine G.goto 4 d4_62 (by decide) rfl ?_
        refine G.iloadN d4_4 rfl ?_
        refine G.aloadN d4_5 rfl rfl ?_
        refine G.getf (j := 5) (host := "") d4_6 (Or.inl (hw _ (List.mem_of_getElem? (i := 30) rfl))) rfl rfl ?_
        refine G.icmp_ge 65 d4_9 (by decide) rfl (fun _ => ?_) (fun h9 => absurd h9 (by decide))
        refine G.iloadN d4_65 rfl ?_
        exact G.ireturn rfl d4_66 (Nat.le_of_ble_eq_true rfl) (Nat.le_of_ble_eq_true rfl) ⟨congrArg (fun z => some (Value.int z)) he.symm, rfl⟩
      · replace he := he.trans (if_pos h54)
        refine G.iloadN d4_57 rfl ?_
        refine G.istoreN1 d4_58 rfl ?_
        refine G.iinc2 (1) d4_59 rfl rfl ?_
        refine G.goto 4 d4_62 (by decide) rfl ?_
        refine G.iloadN d4_4 rfl ?_
        refine G.aloadN d4_5 rfl rfl ?_
        refine G.getf (j := 5) (host := "") d4_6 (Or.inl (hw _ (List.mem_of_getElem? (i := 30) rfl))) rfl rfl ?_
        refine G.icmp_ge 65 d4_9 (by decide) rfl (fun _ => ?_) (fun h9 => absurd h9 (by decide))
        refine G.iloadN d4_65 rfl ?_
        exact G.ireturn rfl d4_66 (Nat.le_of_ble_eq_true rfl) (Nat.le_of_ble_eq_true rfl) ⟨congrArg (fun z => some (Value.int z)) he.symm, rfl⟩
def own_mc3 (c : Int32 → Int32) (k : Int32 → Int32) : Int32 := (if (k 0) < (k 1) then (if (k 1) < (k 2) then ((1 : Int32) + (1 : Int32)) else (if (k 2) = (k 1) then (if (c 2) < (c 1) then ((1 : Int32) + (1 : Int32)) else (1 : Int32)) else (1 : Int32))) else (if (k 1) = (k 0) then (if (c 1) < (c 0) then (if (k 1) < (k 2) then ((1 : Int32) + (1 : Int32)) else (if (k 2) = (k 1) then (if (c 2) < (c 1) then ((1 : Int32) + (1 : Int32)) else (1 : Int32)) else (1 : Int32))) else (if (k 0) < (k 2) then ((1 : Int32) + (1 : Int32)) else (if (k 2) = (k 0) then (if (c 2) < (c 0) then ((1 : Int32) + (1 : Int32)) else (0 : Int32)) else (0 : Int32)))) else (if (k 0) < (k 2) then ((1 : Int32) + (1 : Int32)) else (if (k 2) = (k 0) then (if (c 2) < (c 0) then ((1 : Int32) + (1 : Int32)) else (0 : Int32)) else (0 : Int32)))))
set_option maxRecDepth 65536 in
set_option maxHeartbeats 40000000 in
theorem m_4_3 (l : Launch) (Z : State) (a0 : Array Value) (hw : ∀ d ∈ tables_1, d.before a0 Z = true) (n0 : Nat) (ws : List Jvm.Cond) (c0 c1 : ACell) (sh : Int32) (c k o f : Int32 → Int32) :
    Meth l Z a0 ws (⟨"org/glasspane/ColourTable", "mostCommon", "()I"⟩ : MethodName) prog_5_method_8_code 3 (some (.int)) ({ frames := 0, cells := 0, slots := 0, locals := 0 } : Room) 0 0 n0 #[.ref (ad n0 2)] ([c0, c1, .inl ("org/glasspane/ColourTable", [("colours", "[I", .ref (ad n0 3)), ("counts", "[I", .ref (ad n0 4)), ("slotOf", "[I", .ref (ad n0 5)), ("slots", "[I", .ref (ad n0 6)), ("shift", "I", .int sh), ("size", "I", .int (3 : Int32))]), (.inr (.int, arrF 3 c)), (.inr (.int, arrF 3 k)), (.inr (.int, arrF 3 o)), (.inr (.int, arrF 8 f))] : AHeap) (fun q A' => q = some (.int (own_mc3 c k)) ∧ A' = CTab n0 c0 c1 3 8 3 sh c k o f) := by
  refine Meth.of (plainFor_of_name own_pn7) (Ls := [.val (.ref (ad n0 2)), .unset, .unset]) (fun m => by first | (simp [entryFrame, mkF, argsToLocals, Value.category, maxLocals]; done) | rfl) ?_
  intro K G
  have he : own_mc3 c k = own_mc3 c k := rfl
  refine G.iconst (0) d4_0 rfl ?_
  refine G.istoreN1 d4_1 rfl ?_
  refine G.iconst (1) d4_2 rfl ?_
  refine G.istoreN2 d4_3 rfl ?_
  refine G.iloadN d4_4 rfl ?_
  refine G.aloadN d4_5 rfl rfl ?_
  refine G.getf (j := 5) (host := "") d4_6 (Or.inl (hw _ (List.mem_of_getElem? (i := 30) rfl))) rfl rfl ?_
  refine G.icmp_ge 65 d4_9 (by decide) rfl (fun h9 => absurd h9 (by decide)) (fun _ => ?_)
  refine G.aloadN d4_12 rfl rfl ?_
  refine G.getf (j := 1) (host := "") d4_13 (Or.inl (hw _ (List.mem_of_getElem? (i := 12) rfl))) rfl rfl ?_
  refine G.iloadN d4_16 rfl ?_
  refine G.iald 1 d4_17 rfl (by decide) (arrF_at (x := 1) (by decide) (by decide)) ?_
  refine G.aloadN d4_18 rfl rfl ?_
  refine G.getf (j := 1) (host := "") d4_19 (Or.inl (hw _ (List.mem_of_getElem? (i := 12) rfl))) rfl rfl ?_
  refine G.iloadN d4_22 rfl ?_
  refine G.iald 0 d4_23 rfl (by decide) (arrF_at (x := 0) (by decide) (by decide)) ?_
  refine G.icmp_gt 57 d4_24 (by decide) rfl (fun h24 => ?_) (fun h24 => ?_)
  · replace he := he.trans (if_pos h24)
    refine G.iloadN d4_57 rfl ?_
    refine G.istoreN1 d4_58 rfl ?_
    refine G.iinc2 (1) d4_59 rfl rfl ?_
    refine G.goto 4 d4_62 (by decide) rfl ?_
    refine G.iloadN d4_4 rfl ?_
    refine G.aloadN d4_5 rfl rfl ?_
    refine G.getf (j := 5) (host := "") d4_6 (Or.inl (hw _ (List.mem_of_getElem? (i := 30) rfl))) rfl rfl ?_
    refine G.icmp_ge 65 d4_9 (by decide) rfl (fun h9 => absurd h9 (by decide)) (fun _ => ?_)
    refine G.aloadN d4_12 rfl rfl ?_
    refine G.getf (j := 1) (host := "") d4_13 (Or.inl (hw _ (List.mem_of_getElem? (i := 12) rfl))) rfl rfl ?_
    refine G.iloadN d4_16 rfl ?_
    refine G.iald 2 d4_17 rfl (by decide) (arrF_at (x := 2) (by decide) (by decide)) ?_
    refine G.aloadN d4_18 rfl rfl ?_
    refine G.getf (j := 1) (host := "") d4_19 (Or.inl (hw _ (List.mem_of_getElem? (i := 12) rfl))) rfl rfl ?_
    refine G.iloadN d4_22 rfl ?_
    refine G.iald 1 d4_23 rfl (by decide) (arrF_at (x := 1) (by decide) (by decide)) ?_
    refine G.icmp_gt 57 d4_24 (by decide) rfl (fun h24 => ?_) (fun h24 => ?_)
    · replace he := he.trans (if_pos h24)
      refine G.iloadN d4_57 rfl ?_
      refine G.istoreN1 d4_58 rfl ?_
      refine G.iinc2 (1) d4_59 rfl rfl ?_
      refine G.goto 4 d4_62 (by decide) rfl ?_
      refine G.iloadN d4_4 rfl ?_
      refine G.aloadN d4_5 rfl rfl ?_
      refine G.getf (j := 5) (host := "") d4_6 (Or.inl (hw _ (List.mem_of_getElem? (i := 30) rfl))) rfl rfl ?_
      refine G.icmp_ge 65 d4_9 (by decide) rfl (fun _ => ?_) (fun h9 => absurd h9 (by decide))
      refine G.iloadN d4_65 rfl ?_
      exact G.ireturn rfl d4_66 (Nat.le_of_ble_eq_true rfl) (Nat.le_of_ble_eq_true rfl) ⟨congrArg (fun z => some (Value.int z)) he.symm, rfl⟩
    · replace he := he.trans (if_neg h24)
      refine G.aloadN d4_27 rfl rfl ?_
      refine G.getf (j := 1) (host := "") d4_28 (Or.inl (hw _ (List.mem_of_getElem? (i := 12) rfl))) rfl rfl ?_
      refine G.iloadN d4_31 rfl ?_
      refine G.iald 2 d4_32 rfl (by decide) (arrF_at (x := 2) (by decide) (by decide)) ?_
      refine G.aloadN d4_33 rfl rfl ?_
      refine G.getf (j := 1) (host := "") d4_34 (Or.inl (hw _ (List.mem_of_getElem? (i := 12) rfl))) rfl rfl ?_
      refine G.iloadN d4_37 rfl ?_
      refine G.iald 1 d4_38 rfl (by decide) (arrF_at (x := 1) (by decide) (by decide)) ?_
      refine G.icmp_ne 59 d4_39 (by decide) rfl (fun h39 => ?_) (fun h39 => ?_)
      · replace he := he.trans (if_neg h39)
        refine G.iinc2 (1) d4_59 rfl rfl ?_
        refine G.goto 4 d4_62 (by decide) rfl ?_
        refine G.iloadN d4_4 rfl ?_
        refine G.aloadN d4_5 rfl rfl ?_
        refine G.getf (j := 5) (host := "") d4_6 (Or.inl (hw _ (List.mem_of_getElem? (i := 30) rfl))) rfl rfl ?_
        refine G.icmp_ge 65 d4_9 (by decide) rfl (fun _ => ?_) (fun h9 => absurd h9 (by decide))
        refine G.iloadN d4_65 rfl ?_
        exact G.ireturn rfl d4_66 (Nat.le_of_ble_eq_true rfl) (Nat.le_of_ble_eq_true rfl) ⟨congrArg (fun z => some (Value.int z)) he.symm, rfl⟩
      · replace he := he.trans (if_pos h39)
        refine G.aloadN d4_42 rfl rfl ?_
        refine G.getf (j := 0) (host := "") d4_43 (Or.inl (hw _ (List.mem_of_getElem? (i := 10) rfl))) rfl rfl ?_
        refine G.iloadN d4_46 rfl ?_
        refine G.iald 2 d4_47 rfl (by decide) (arrF_at (x := 2) (by decide) (by decide)) ?_
        refine G.aloadN d4_48 rfl rfl ?_
        refine G.getf (j := 0) (host := "") d4_49 (Or.inl (hw _ (List.mem_of_getElem? (i := 10) rfl))) rfl rfl ?_
        refine G.iloadN d4_52 rfl ?_
        refine G.iald 1 d4_53 rfl (by decide) (arrF_at (x := 1) (by decide) (by decide)) ?_
        refine G.icmp_ge 59 d4_54 (by decide) rfl (fun h54 => ?_) (fun h54 => ?_)
        · replace he := he.trans (if_neg h54)
          refine G.iinc2 (1) d4_59 rfl rfl ?_
          refine G.goto 4 d4_62 (by decide) rfl ?_
          refine G.iloadN d4_4 rfl ?_
          refine G.aloadN d4_5 rfl rfl ?_
          refine G.getf (j := 5) (host := "") d4_6 (Or.inl (hw _ (List.mem_of_getElem? (i := 30) rfl))) rfl rfl ?_
          refine G.icmp_ge 65 d4_9 (by decide) rfl (fun _ => ?_) (fun h9 => absurd h9 (by decide))
          refine G.iloadN d4_65 rfl ?_
          exact G.ireturn rfl d4_66 (Nat.le_of_ble_eq_true rfl) (Nat.le_of_ble_eq_true rfl) ⟨congrArg (fun z => some (Value.int z)) he.symm, rfl⟩
        · replace he := he.trans (if_pos h54)
          refine G.iloadN d4_57 rfl ?_
          refine G.istoreN1 d4_58 rfl ?_
          refine G.iinc2 (1) d4_59 rfl rfl ?_
          refine G.goto 4 d4_62 (by decide) rfl ?_
          refine G.iloadN d4_4 rfl ?_
          refine G.aloadN d4_5 rfl rfl ?_
          refine G.getf (j := 5) (host := "") d4_6 (Or.inl (hw _ (List.mem_of_getElem? (i := 30) rfl))) rfl rfl ?_
          refine G.icmp_ge 65 d4_9 (by decide) rfl (fun _ => ?_) (fun h9 => absurd h9 (by decide))
          refine G.iloadN d4_65 rfl ?_
          exact G.ireturn rfl d4_66 (Nat.le_of_ble_eq_true rfl) (Nat.le_of_ble_eq_true rfl) ⟨congrArg (fun z => some (Value.int z)) he.symm, rfl⟩
  · replace he := he.trans (if_neg h24)
    refine G.aloadN d4_27 rfl rfl ?_
    refine G.getf (j := 1) (host := "") d4_28 (Or.inl (hw _ (List.mem_of_getElem? (i := 12) rfl))) rfl rfl ?_
    refine G.iloadN d4_31 rfl ?_
    refine G.iald 1 d4_32 rfl (by decide) (arrF_at (x := 1) (by decide) (by decide)) ?_
    refine G.aloadN d4_33 rfl rfl ?_
    refine G.getf (j := 1) (host := "") d4_34 (Or.inl (hw _ (List.mem_of_getElem? (i := 12) rfl))) rfl rfl ?_
    refine G.iloadN d4_37 rfl ?_
    refine G.iald 0 d4_38 rfl (by decide) (arrF_at (x := 0) (by decide) (by decide)) ?_
    refine G.icmp_ne 59 d4_39 (by decide) rfl (fun h39 => ?_) (fun h39 => ?_)
    · replace he := he.trans (if_neg h39)
      refine G.iinc2 (1) d4_59 rfl rfl ?_
      refine G.goto 4 d4_62 (by decide) rfl ?_
      refine G.iloadN d4_4 rfl ?_
      refine G.aloadN d4_5 rfl rfl ?_
      refine G.getf (j := 5) (host := "") d4_6 (Or.inl (hw _ (List.mem_of_getElem? (i := 30) rfl))) rfl rfl ?_
      refine G.icmp_ge 65 d4_9 (by decide) rfl (fun h9 => absurd h9 (by decide)) (fun _ => ?_)
      refine G.aloadN d4_12 rfl rfl ?_
      refine G.getf (j := 1) (host := "") d4_13 (Or.inl (hw _ (List.mem_of_getElem? (i := 12) rfl))) rfl rfl ?_
      refine G.iloadN d4_16 rfl ?_
      refine G.iald 2 d4_17 rfl (by decide) (arrF_at (x := 2) (by decide) (by decide)) ?_
      refine G.aloadN d4_18 rfl rfl ?_
      refine G.getf (j := 1) (host := "") d4_19 (Or.inl (hw _ (List.mem_of_getElem? (i := 12) rfl))) rfl rfl ?_
      refine G.iloadN d4_22 rfl ?_
      refine G.iald 0 d4_23 rfl (by decide) (arrF_at (x := 0) (by decide) (by decide)) ?_
      refine G.icmp_gt 57 d4_24 (by decide) rfl (fun h24 => ?_) (fun h24 => ?_)
      · replace he := he.trans (if_pos h24)
        refine G.iloadN d4_57 rfl ?_
        refine G.istoreN1 d4_58 rfl ?_
        refine G.iinc2 (1) d4_59 rfl rfl ?_
        refine G.goto 4 d4_62 (by decide) rfl ?_
        refine G.iloadN d4_4 rfl ?_
        refine G.aloadN d4_5 rfl rfl ?_
        refine G.getf (j := 5) (host := "") d4_6 (Or.inl (hw _ (List.mem_of_getElem? (i := 30) rfl))) rfl rfl ?_
        refine G.icmp_ge 65 d4_9 (by decide) rfl (fun _ => ?_) (fun h9 => absurd h9 (by decide))
        refine G.iloadN d4_65 rfl ?_
        exact G.ireturn rfl d4_66 (Nat.le_of_ble_eq_true rfl) (Nat.le_of_ble_eq_true rfl) ⟨congrArg (fun z => some (Value.int z)) he.symm, rfl⟩
      · replace he := he.trans (if_neg h24)
        refine G.aloadN d4_27 rfl rfl ?_
        refine G.getf (j := 1) (host := "") d4_28 (Or.inl (hw _ (List.mem_of_getElem? (i := 12) rfl))) rfl rfl ?_
        refine G.iloadN d4_31 rfl ?_
        refine G.iald 2 d4_32 rfl (by decide) (arrF_at (x := 2) (by decide) (by decide)) ?_
        refine G.aloadN d4_33 rfl rfl ?_
        refine G.getf (j := 1) (host := "") d4_34 (Or.inl (hw _ (List.mem_of_getElem? (i := 12) rfl))) rfl rfl ?_
        refine G.iloadN d4_37 rfl ?_
        refine G.iald 0 d4_38 rfl (by decide) (arrF_at (x := 0) (by decide) (by decide)) ?_
        refine G.icmp_ne 59 d4_39 (by decide) rfl (fun h39 => ?_) (fun h39 => ?_)
        · replace he := he.trans (if_neg h39)
          refine G.iinc2 (1) d4_59 rfl rfl ?_
          refine G.goto 4 d4_62 (by decide) rfl ?_
          refine G.iloadN d4_4 rfl ?_
          refine G.aloadN d4_5 rfl rfl ?_
          refine G.getf (j := 5) (host := "") d4_6 (Or.inl (hw _ (List.mem_of_getElem? (i := 30) rfl))) rfl rfl ?_
          refine G.icmp_ge 65 d4_9 (by decide) rfl (fun _ => ?_) (fun h9 => absurd h9 (by decide))
          refine G.iloadN d4_65 rfl ?_
          exact G.ireturn rfl d4_66 (Nat.le_of_ble_eq_true rfl) (Nat.le_of_ble_eq_true rfl) ⟨congrArg (fun z => some (Value.int z)) he.symm, rfl⟩
        · replace he := he.trans (if_pos h39)
          refine G.aloadN d4_42 rfl rfl ?_
          refine G.getf (j := 0) (host := "") d4_43 (Or.inl (hw _ (List.mem_of_getElem? (i := 10) rfl))) rfl rfl ?_
          refine G.iloadN d4_46 rfl ?_
          refine G.iald 2 d4_47 rfl (by decide) (arrF_at (x := 2) (by decide) (by decide)) ?_
          refine G.aloadN d4_48 rfl rfl ?_
          refine G.getf (j := 0) (host := "") d4_49 (Or.inl (hw _ (List.mem_of_getElem? (i := 10) rfl))) rfl rfl ?_
          refine G.iloadN d4_52 rfl ?_
          refine G.iald 0 d4_53 rfl (by decide) (arrF_at (x := 0) (by decide) (by decide)) ?_
          refine G.icmp_ge 59 d4_54 (by decide) rfl (fun h54 => ?_) (fun h54 => ?_)
          · replace he := he.trans (if_neg h54)
            refine G.iinc2 (1) d4_59 rfl rfl ?_
            refine G.goto 4 d4_62 (by decide) rfl ?_
            refine G.iloadN d4_4 rfl ?_
            refine G.aloadN d4_5 rfl rfl ?_
            refine G.getf (j := 5) (host := "") d4_6 (Or.inl (hw _ (List.mem_of_getElem? (i := 30) rfl))) rfl rfl ?_
            refine G.icmp_ge 65 d4_9 (by decide) rfl (fun _ => ?_) (fun h9 => absurd h9 (by decide))
            refine G.iloadN d4_65 rfl ?_
            exact G.ireturn rfl d4_66 (Nat.le_of_ble_eq_true rfl) (Nat.le_of_ble_eq_true rfl) ⟨congrArg (fun z => some (Value.int z)) he.symm, rfl⟩
          · replace he := he.trans (if_pos h54)
            refine G.iloadN d4_57 rfl ?_
            refine G.istoreN1 d4_58 rfl ?_
            refine G.iinc2 (1) d4_59 rfl rfl ?_
            refine G.goto 4 d4_62 (by decide) rfl ?_
            refine G.iloadN d4_4 rfl ?_
            refine G.aloadN d4_5 rfl rfl ?_
            refine G.getf (j := 5) (host := "") d4_6 (Or.inl (hw _ (List.mem_of_getElem? (i := 30) rfl))) rfl rfl ?_
            refine G.icmp_ge 65 d4_9 (by decide) rfl (fun _ => ?_) (fun h9 => absurd h9 (by decide))
            refine G.iloadN d4_65 rfl ?_
            exact G.ireturn rfl d4_66 (Nat.le_of_ble_eq_true rfl) (Nat.le_of_ble_eq_true rfl) ⟨congrArg (fun z => some (Value.int z)) he.symm, rfl⟩
    · replace he := he.trans (if_pos h39)
      refine G.aloadN d4_42 rfl rfl ?_
      refine G.getf (j := 0) (host := "") d4_43 (Or.inl (hw _ (List.mem_of_getElem? (i := 10) rfl))) rfl rfl ?_
      refine G.iloadN d4_46 rfl ?_
      refine G.iald 1 d4_47 rfl (by decide) (arrF_at (x := 1) (by decide) (by decide)) ?_
      refine G.aloadN d4_48 rfl rfl ?_
      refine G.getf (j := 0) (host := "") d4_49 (Or.inl (hw _ (List.mem_of_getElem? (i := 10) rfl))) rfl rfl ?_
      refine G.iloadN d4_52 rfl ?_
      refine G.iald 0 d4_53 rfl (by decide) (arrF_at (x := 0) (by decide) (by decide)) ?_
      refine G.icmp_ge 59 d4_54 (by decide) rfl (fun h54 => ?_) (fun h54 => ?_)
      · replace he := he.trans (if_neg h54)
        refine G.iinc2 (1) d4_59 rfl rfl ?_
        refine G.goto 4 d4_62 (by decide) rfl ?_
        refine G.iloadN d4_4 rfl ?_
        refine G.aloadN d4_5 rfl rfl ?_
        refine G.getf (j := 5) (host := "") d4_6 (Or.inl (hw _ (List.mem_of_getElem? (i := 30) rfl))) rfl rfl ?_
        refine G.icmp_ge 65 d4_9 (by decide) rfl (fun h9 => absurd h9 (by decide)) (fun _ => ?_)
        refine G.aloadN d4_12 rfl rfl ?_
        refine G.getf (j := 1) (host := "") d4_13 (Or.inl (hw _ (List.mem_of_getElem? (i := 12) rfl))) rfl rfl ?_
        refine G.iloadN d4_16 rfl ?_
        refine G.iald 2 d4_17 rfl (by decide) (arrF_at (x := 2) (by decide) (by decide)) ?_
        refine G.aloadN d4_18 rfl rfl ?_
        refine G.getf (j := 1) (host := "") d4_19 (Or.inl (hw _ (List.mem_of_getElem? (i := 12) rfl))) rfl rfl ?_
        refine G.iloadN d4_22 rfl ?_
        refine G.iald 0 d4_23 rfl (by decide) (arrF_at (x := 0) (by decide) (by decide)) ?_
        refine G.icmp_gt 57 d4_24 (by decide) rfl (fun h24 => ?_) (fun h24 => ?_)
        · replace he := he.trans (if_pos h24)
          refine G.iloadN d4_57 rfl ?_
          refine G.istoreN1 d4_58 rfl ?_
          refine G.iinc2 (1) d4_59 rfl rfl ?_
          refine G.goto 4 d4_62 (by decide) rfl ?_
          refine G.iloadN d4_4 rfl ?_
          refine G.aloadN d4_5 rfl rfl ?_
          refine G.getf (j := 5) (host := "") d4_6 (Or.inl (hw _ (List.mem_of_getElem? (i := 30) rfl))) rfl rfl ?_
          refine G.icmp_ge 65 d4_9 (by decide) rfl (fun _ => ?_) (fun h9 => absurd h9 (by decide))
          refine G.iloadN d4_65 rfl ?_
          exact G.ireturn rfl d4_66 (Nat.le_of_ble_eq_true rfl) (Nat.le_of_ble_eq_true rfl) ⟨congrArg (fun z => some (Value.int z)) he.symm, rfl⟩
        · replace he := he.trans (if_neg h24)
          refine G.aloadN d4_27 rfl rfl ?_
          refine G.getf (j := 1) (host := "") d4_28 (Or.inl (hw _ (List.mem_of_getElem? (i := 12) rfl))) rfl rfl ?_
          refine G.iloadN d4_31 rfl ?_
          refine G.iald 2 d4_32 rfl (by decide) (arrF_at (x := 2) (by decide) (by decide)) ?_
          refine G.aloadN d4_33 rfl rfl ?_
          refine G.getf (j := 1) (host := "") d4_34 (Or.inl (hw _ (List.mem_of_getElem? (i := 12) rfl))) rfl rfl ?_
          refine G.iloadN d4_37 rfl ?_
          refine G.iald 0 d4_38 rfl (by decide) (arrF_at (x := 0) (by decide) (by decide)) ?_
          refine G.icmp_ne 59 d4_39 (by decide) rfl (fun h39 => ?_) (fun h39 => ?_)
          · replace he := he.trans (if_neg h39)
            refine G.iinc2 (1) d4_59 rfl rfl ?_
            refine G.goto 4 d4_62 (by decide) rfl ?_
            refine G.iloadN d4_4 rfl ?_
            refine G.aloadN d4_5 rfl rfl ?_
            refine G.getf (j := 5) (host := "") d4_6 (Or.inl (hw _ (List.mem_of_getElem? (i := 30) rfl))) rfl rfl ?_
            refine G.icmp_ge 65 d4_9 (by decide) rfl (fun _ => ?_) (fun h9 => absurd h9 (by decide))
            refine G.iloadN d4_65 rfl ?_
            exact G.ireturn rfl d4_66 (Nat.le_of_ble_eq_true rfl) (Nat.le_of_ble_eq_true rfl) ⟨congrArg (fun z => some (Value.int z)) he.symm, rfl⟩
          · replace he := he.trans (if_pos h39)
            refine G.aloadN d4_42 rfl rfl ?_
            refine G.getf (j := 0) (host := "") d4_43 (Or.inl (hw _ (List.mem_of_getElem? (i := 10) rfl))) rfl rfl ?_
            refine G.iloadN d4_46 rfl ?_
            refine G.iald 2 d4_47 rfl (by decide) (arrF_at (x := 2) (by decide) (by decide)) ?_
            refine G.aloadN d4_48 rfl rfl ?_
            refine G.getf (j := 0) (host := "") d4_49 (Or.inl (hw _ (List.mem_of_getElem? (i := 10) rfl))) rfl rfl ?_
            refine G.iloadN d4_52 rfl ?_
            refine G.iald 0 d4_53 rfl (by decide) (arrF_at (x := 0) (by decide) (by decide)) ?_
            refine G.icmp_ge 59 d4_54 (by decide) rfl (fun h54 => ?_) (fun h54 => ?_)
            · replace he := he.trans (if_neg h54)
              refine G.iinc2 (1) d4_59 rfl rfl ?_
              refine G.goto 4 d4_62 (by decide) rfl ?_
              refine G.iloadN d4_4 rfl ?_
              refine G.aloadN d4_5 rfl rfl ?_
              refine G.getf (j := 5) (host := "") d4_6 (Or.inl (hw _ (List.mem_of_getElem? (i := 30) rfl))) rfl rfl ?_
              refine G.icmp_ge 65 d4_9 (by decide) rfl (fun _ => ?_) (fun h9 => absurd h9 (by decide))
              refine G.iloadN d4_65 rfl ?_
              exact G.ireturn rfl d4_66 (Nat.le_of_ble_eq_true rfl) (Nat.le_of_ble_eq_true rfl) ⟨congrArg (fun z => some (Value.int z)) he.symm, rfl⟩
            · replace he := he.trans (if_pos h54)
              refine G.iloadN d4_57 rfl ?_
              refine G.istoreN1 d4_58 rfl ?_
              refine G.iinc2 (1) d4_59 rfl rfl ?_
              refine G.goto 4 d4_62 (by decide) rfl ?_
              refine G.iloadN d4_4 rfl ?_
              refine G.aloadN d4_5 rfl rfl ?_
              refine G.getf (j := 5) (host := "") d4_6 (Or.inl (hw _ (List.mem_of_getElem? (i := 30) rfl))) rfl rfl ?_
              refine G.icmp_ge 65 d4_9 (by decide) rfl (fun _ => ?_) (fun h9 => absurd h9 (by decide))
              refine G.iloadN d4_65 rfl ?_
              exact G.ireturn rfl d4_66 (Nat.le_of_ble_eq_true rfl) (Nat.le_of_ble_eq_true rfl) ⟨congrArg (fun z => some (Value.int z)) he.symm, rfl⟩
      · replace he := he.trans (if_pos h54)
        refine G.iloadN d4_57 rfl ?_
        refine G.istoreN1 d4_58 rfl ?_
        refine G.iinc2 (1) d4_59 rfl rfl ?_
        refine G.goto 4 d4_62 (by decide) rfl ?_
        refine G.iloadN d4_4 rfl ?_
        refine G.aloadN d4_5 rfl rfl ?_
        refine G.getf (j := 5) (host := "") d4_6 (Or.inl (hw _ (List.mem_of_getElem? (i := 30) rfl))) rfl rfl ?_
        refine G.icmp_ge 65 d4_9 (by decide) rfl (fun h9 => absurd h9 (by decide)) (fun _ => ?_)
        refine G.aloadN d4_12 rfl rfl ?_
        refine G.getf (j := 1) (host := "") d4_13 (Or.inl (hw _ (List.mem_of_getElem? (i := 12) rfl))) rfl rfl ?_
        refine G.iloadN d4_16 rfl ?_
        refine G.iald 2 d4_17 rfl (by decide) (arrF_at (x := 2) (by decide) (by decide)) ?_
        refine G.aloadN d4_18 rfl rfl ?_
        refine G.getf (j := 1) (host := "") d4_19 (Or.inl (hw _ (List.mem_of_getElem? (i := 12) rfl))) rfl rfl ?_
        refine G.iloadN d4_22 rfl ?_
        refine G.iald 1 d4_23 rfl (by decide) (arrF_at (x := 1) (by decide) (by decide)) ?_
        refine G.icmp_gt 57 d4_24 (by decide) rfl (fun h24 => ?_) (fun h24 => ?_)
        · replace he := he.trans (if_pos h24)
          refine G.iloadN d4_57 rfl ?_
          refine G.istoreN1 d4_58 rfl ?_
          refine G.iinc2 (1) d4_59 rfl rfl ?_
          refine G.goto 4 d4_62 (by decide) rfl ?_
          refine G.iloadN d4_4 rfl ?_
          refine G.aloadN d4_5 rfl rfl ?_
          refine G.getf (j := 5) (host := "") d4_6 (Or.inl (hw _ (List.mem_of_getElem? (i := 30) rfl))) rfl rfl ?_
          refine G.icmp_ge 65 d4_9 (by decide) rfl (fun _ => ?_) (fun h9 => absurd h9 (by decide))
          refine G.iloadN d4_65 rfl ?_
          exact G.ireturn rfl d4_66 (Nat.le_of_ble_eq_true rfl) (Nat.le_of_ble_eq_true rfl) ⟨congrArg (fun z => some (Value.int z)) he.symm, rfl⟩
        · replace he := he.trans (if_neg h24)
          refine G.aloadN d4_27 rfl rfl ?_
          refine G.getf (j := 1) (host := "") d4_28 (Or.inl (hw _ (List.mem_of_getElem? (i := 12) rfl))) rfl rfl ?_
          refine G.iloadN d4_31 rfl ?_
          refine G.iald 2 d4_32 rfl (by decide) (arrF_at (x := 2) (by decide) (by decide)) ?_
          refine G.aloadN d4_33 rfl rfl ?_
          refine G.getf (j := 1) (host := "") d4_34 (Or.inl (hw _ (List.mem_of_getElem? (i := 12) rfl))) rfl rfl ?_
          refine G.iloadN d4_37 rfl ?_
          refine G.iald 1 d4_38 rfl (by decide) (arrF_at (x := 1) (by decide) (by decide)) ?_
          refine G.icmp_ne 59 d4_39 (by decide) rfl (fun h39 => ?_) (fun h39 => ?_)
          · replace he := he.trans (if_neg h39)
            refine G.iinc2 (1) d4_59 rfl rfl ?_
            refine G.goto 4 d4_62 (by decide) rfl ?_
            refine G.iloadN d4_4 rfl ?_
            refine G.aloadN d4_5 rfl rfl ?_
            refine G.getf (j := 5) (host := "") d4_6 (Or.inl (hw _ (List.mem_of_getElem? (i := 30) rfl))) rfl rfl ?_
            refine G.icmp_ge 65 d4_9 (by decide) rfl (fun _ => ?_) (fun h9 => absurd h9 (by decide))
            refine G.iloadN d4_65 rfl ?_
            exact G.ireturn rfl d4_66 (Nat.le_of_ble_eq_true rfl) (Nat.le_of_ble_eq_true rfl) ⟨congrArg (fun z => some (Value.int z)) he.symm, rfl⟩
          · replace he := he.trans (if_pos h39)
            refine G.aloadN d4_42 rfl rfl ?_
            refine G.getf (j := 0) (host := "") d4_43 (Or.inl (hw _ (List.mem_of_getElem? (i := 10) rfl))) rfl rfl ?_
            refine G.iloadN d4_46 rfl ?_
            refine G.iald 2 d4_47 rfl (by decide) (arrF_at (x := 2) (by decide) (by decide)) ?_
            refine G.aloadN d4_48 rfl rfl ?_
            refine G.getf (j := 0) (host := "") d4_49 (Or.inl (hw _ (List.mem_of_getElem? (i := 10) rfl))) rfl rfl ?_
            refine G.iloadN d4_52 rfl ?_
            refine G.iald 1 d4_53 rfl (by decide) (arrF_at (x := 1) (by decide) (by decide)) ?_
            refine G.icmp_ge 59 d4_54 (by decide) rfl (fun h54 => ?_) (fun h54 => ?_)
            · replace he := he.trans (if_neg h54)
              refine G.iinc2 (1) d4_59 rfl rfl ?_
              refine G.goto 4 d4_62 (by decide) rfl ?_
              refine G.iloadN d4_4 rfl ?_
              refine G.aloadN d4_5 rfl rfl ?_
              refine G.getf (j := 5) (host := "") d4_6 (Or.inl (hw _ (List.mem_of_getElem? (i := 30) rfl))) rfl rfl ?_
              refine G.icmp_ge 65 d4_9 (by decide) rfl (fun _ => ?_) (fun h9 => absurd h9 (by decide))
              refine G.iloadN d4_65 rfl ?_
              exact G.ireturn rfl d4_66 (Nat.le_of_ble_eq_true rfl) (Nat.le_of_ble_eq_true rfl) ⟨congrArg (fun z => some (Value.int z)) he.symm, rfl⟩
            · replace he := he.trans (if_pos h54)
              refine G.iloadN d4_57 rfl ?_
              refine G.istoreN1 d4_58 rfl ?_
              refine G.iinc2 (1) d4_59 rfl rfl ?_
              refine G.goto 4 d4_62 (by decide) rfl ?_
              refine G.iloadN d4_4 rfl ?_
              refine G.aloadN d4_5 rfl rfl ?_
              refine G.getf (j := 5) (host := "") d4_6 (Or.inl (hw _ (List.mem_of_getElem? (i := 30) rfl))) rfl rfl ?_
              refine G.icmp_ge 65 d4_9 (by decide) rfl (fun _ => ?_) (fun h9 => absurd h9 (by decide))
              refine G.iloadN d4_65 rfl ?_
              exact G.ireturn rfl d4_66 (Nat.le_of_ble_eq_true rfl) (Nat.le_of_ble_eq_true rfl) ⟨congrArg (fun z => some (Value.int z)) he.symm, rfl⟩
theorem d8_0 : decode method_2_code 0 = .ok (.aload_n 1, 1) := by decide +kernel
theorem d8_1 : decode method_2_code 1 = .ok (.iload_n 2, 1) := by decide +kernel
theorem d8_2 : decode method_2_code 2 = .ok (.iaload, 1) := by decide +kernel
theorem d8_3 : decode method_2_code 3 = .ok (.aload_n 1, 1) := by decide +kernel
theorem d8_4 : decode method_2_code 4 = .ok (.iload_n 3, 1) := by decide +kernel
theorem d8_5 : decode method_2_code 5 = .ok (.iaload, 1) := by decide +kernel
theorem d8_6 : decode method_2_code 6 = .ok (.if_icmp .le 5, 3) := by decide +kernel
theorem d8_9 : decode method_2_code 9 = .ok (.iconst 1, 1) := by decide +kernel
theorem d8_10 : decode method_2_code 10 = .ok (.ireturn, 1) := by decide +kernel
theorem d8_11 : decode method_2_code 11 = .ok (.aload_n 1, 1) := by decide +kernel
theorem d8_12 : decode method_2_code 12 = .ok (.iload_n 2, 1) := by decide +kernel
theorem d8_13 : decode method_2_code 13 = .ok (.iaload, 1) := by decide +kernel
theorem d8_14 : decode method_2_code 14 = .ok (.aload_n 1, 1) := by decide +kernel
theorem d8_15 : decode method_2_code 15 = .ok (.iload_n 3, 1) := by decide +kernel
theorem d8_16 : decode method_2_code 16 = .ok (.iaload, 1) := by decide +kernel
theorem d8_17 : decode method_2_code 17 = .ok (.if_icmp .ne 14, 3) := by decide +kernel
theorem d8_20 : decode method_2_code 20 = .ok (.aload_n 0, 1) := by decide +kernel
theorem d8_21 : decode method_2_code 21 = .ok (.iload_n 2, 1) := by decide +kernel
theorem d8_22 : decode method_2_code 22 = .ok (.iaload, 1) := by decide +kernel
theorem d8_23 : decode method_2_code 23 = .ok (.aload_n 0, 1) := by decide +kernel
theorem d8_24 : decode method_2_code 24 = .ok (.iload_n 3, 1) := by decide +kernel
theorem d8_25 : decode method_2_code 25 = .ok (.iaload, 1) := by decide +kernel
theorem d8_26 : decode method_2_code 26 = .ok (.if_icmp .ge 5, 3) := by decide +kernel
theorem d8_29 : decode method_2_code 29 = .ok (.iconst 1, 1) := by decide +kernel
theorem d8_30 : decode method_2_code 30 = .ok (.ireturn, 1) := by decide +kernel
theorem d8_31 : decode method_2_code 31 = .ok (.iconst 0, 1) := by decide +kernel
theorem d8_32 : decode method_2_code 32 = .ok (.ireturn, 1) := by decide +kernel
def own_bt01 (v0 : Int32) (v1 : Int32) (v2 : Int32) (k0 : Int32) (k1 : Int32) (k2 : Int32) : Int32 := (if k1 < k0 then (1 : Int32) else (if k0 = k1 then (if v0 < v1 then (1 : Int32) else (0 : Int32)) else (0 : Int32)))
theorem own_pn9 : plainName "org/glasspane/ColourTableMostCommonPinLaw" = true := by first | (simp [plainName, overriddenIn]; done) | decide +kernel
set_option maxRecDepth 65536 in
set_option maxHeartbeats 40000000 in
theorem m_8_01 (l : Launch) (Z : State) (a0 : Array Value) (hw : ∀ d ∈ tables_1, d.before a0 Z = true) (n0 : Nat) (ws : List Jvm.Cond) (v0 v1 v2 k0 k1 k2 : Int32) (tl : AHeap) :
    Meth l Z a0 ws (⟨"org/glasspane/ColourTableMostCommonPinLaw", "beats", "([I[III)Z"⟩ : MethodName) method_2_code 4 (some (.boolean)) ({ frames := 0, cells := 0, slots := 0, locals := 0 } : Room) 0 0 n0 #[.ref (ad n0 0), .ref (ad n0 1), .int (0 : Int32), .int (1 : Int32)] (.inr (.int, [.int v0, .int v1, .int v2]) :: .inr (.int, [.int k0, .int k1, .int k2]) :: tl : AHeap) (fun q A' => q = some (.int (own_bt01 v0 v1 v2 k0 k1 k2)) ∧ A' = (.inr (.int, [.int v0, .int v1, .int v2]) :: .inr (.int, [.int k0, .int k1, .int k2]) :: tl : AHeap)) := by
  refine Meth.of (plainFor_of_name own_pn9) (Ls := [.val (.ref (ad n0 0)), .val (.ref (ad n0 1)), .val (.int (0 : Int32)), .val (.int (1 : Int32))]) (fun m => by first | (simp [entryFrame, mkF, argsToLocals, Value.category, maxLocals]; done) | rfl) ?_
  intro K G
  have he : own_bt01 v0 v1 v2 k0 k1 k2 = own_bt01 v0 v1 v2 k0 k1 k2 := rfl
  refine G.aloadN d8_0 rfl rfl ?_
  refine G.iloadN d8_1 rfl ?_
  refine G.iald (0) d8_2 rfl (by decide) rfl ?_
  refine G.aloadN d8_3 rfl rfl ?_
  refine G.iloadN d8_4 rfl ?_
  refine G.iald (1) d8_5 rfl (by decide) rfl ?_
  refine G.icmp_le 11 d8_6 (by decide) rfl (fun h6 => ?_) (fun h6 => ?_)
  · replace he := he.trans (if_neg h6)
    refine G.aloadN d8_11 rfl rfl ?_
    refine G.iloadN d8_12 rfl ?_
    refine G.iald (0) d8_13 rfl (by decide) rfl ?_
    refine G.aloadN d8_14 rfl rfl ?_
    refine G.iloadN d8_15 rfl ?_
    refine G.iald (1) d8_16 rfl (by decide) rfl ?_
    refine G.icmp_ne 31 d8_17 (by decide) rfl (fun h17 => ?_) (fun h17 => ?_)
    · replace he := he.trans (if_neg h17)
      refine G.iconst (0) d8_31 rfl ?_
      exact G.zreturn rfl d8_32 rfl (Nat.le_of_ble_eq_true rfl) (Nat.le_of_ble_eq_true rfl) ⟨congrArg (fun z => some (Value.int z)) he.symm, rfl⟩
    · replace he := he.trans (if_pos h17)
      refine G.aloadN d8_20 rfl rfl ?_
      refine G.iloadN d8_21 rfl ?_
      refine G.iald (0) d8_22 rfl (by decide) rfl ?_
      refine G.aloadN d8_23 rfl rfl ?_
      refine G.iloadN d8_24 rfl ?_
      refine G.iald (1) d8_25 rfl (by decide) rfl ?_
      refine G.icmp_ge 31 d8_26 (by decide) rfl (fun h26 => ?_) (fun h26 => ?_)
      · replace he := he.trans (if_neg h26)
        refine G.iconst (0) d8_31 rfl ?_
        exact G.zreturn rfl d8_32 rfl (Nat.le_of_ble_eq_true rfl) (Nat.le_of_ble_eq_true rfl) ⟨congrArg (fun z => some (Value.int z)) he.symm, rfl⟩
      · replace he := he.trans (if_pos h26)
        refine G.iconst (1) d8_29 rfl ?_
        exact G.zreturn rfl d8_30 rfl (Nat.le_of_ble_eq_true rfl) (Nat.le_of_ble_eq_true rfl) ⟨congrArg (fun z => some (Value.int z)) he.symm, rfl⟩
  · replace he := he.trans (if_pos h6)
    refine G.iconst (1) d8_9 rfl ?_
    exact G.zreturn rfl d8_10 rfl (Nat.le_of_ble_eq_true rfl) (Nat.le_of_ble_eq_true rfl) ⟨congrArg (fun z => some (Value.int z)) he.symm, rfl⟩
def own_bt02 (v0 : Int32) (v1 : Int32) (v2 : Int32) (k0 : Int32) (k1 : Int32) (k2 : Int32) : Int32 := (if k2 < k0 then (1 : Int32) else (if k0 = k2 then (if v0 < v2 then (1 : Int32) else (0 : Int32)) else (0 : Int32)))
set_option maxRecDepth 65536 in
set_option maxHeartbeats 40000000 in
theorem m_8_02 (l : Launch) (Z : State) (a0 : Array Value) (hw : ∀ d ∈ tables_1, d.before a0 Z = true) (n0 : Nat) (ws : List Jvm.Cond) (v0 v1 v2 k0 k1 k2 : Int32) (tl : AHeap) :
    Meth l Z a0 ws (⟨"org/glasspane/ColourTableMostCommonPinLaw", "beats", "([I[III)Z"⟩ : MethodName) method_2_code 4 (some (.boolean)) ({ frames := 0, cells := 0, slots := 0, locals := 0 } : Room) 0 0 n0 #[.ref (ad n0 0), .ref (ad n0 1), .int (0 : Int32), .int (2 : Int32)] (.inr (.int, [.int v0, .int v1, .int v2]) :: .inr (.int, [.int k0, .int k1, .int k2]) :: tl : AHeap) (fun q A' => q = some (.int (own_bt02 v0 v1 v2 k0 k1 k2)) ∧ A' = (.inr (.int, [.int v0, .int v1, .int v2]) :: .inr (.int, [.int k0, .int k1, .int k2]) :: tl : AHeap)) := by
  refine Meth.of (plainFor_of_name own_pn9) (Ls := [.val (.ref (ad n0 0)), .val (.ref (ad n0 1)), .val (.int (0 : Int32)), .val (.int (2 : Int32))]) (fun m => by first | (simp [entryFrame, mkF, argsToLocals, Value.category, maxLocals]; done) | rfl) ?_
  intro K G
  have he : own_bt02 v0 v1 v2 k0 k1 k2 = own_bt02 v0 v1 v2 k0 k1 k2 := rfl
  refine G.aloadN d8_0 rfl rfl ?_
  refine G.iloadN d8_1 rfl ?_
  refine G.iald (0) d8_2 rfl (by decide) rfl ?_
  refine G.aloadN d8_3 rfl rfl ?_
  refine G.iloadN d8_4 rfl ?_
  refine G.iald (2) d8_5 rfl (by decide) rfl ?_
  refine G.icmp_le 11 d8_6 (by decide) rfl (fun h6 => ?_) (fun h6 => ?_)
  · replace he := he.trans (if_neg h6)
    refine G.aloadN d8_11 rfl rfl ?_
    refine G.iloadN d8_12 rfl ?_
    refine G.iald (0) d8_13 rfl (by decide) rfl ?_
    refine G.aloadN d8_14 rfl rfl ?_
    refine G.iloadN d8_15 rfl ?_
    refine G.iald (2) d8_16 rfl (by decide) rfl ?_
    refine G.icmp_ne 31 d8_17 (by decide) rfl (fun h17 => ?_) (fun h17 => ?_)
    · replace he := he.trans (if_neg h17)
      refine G.iconst (0) d8_31 rfl ?_
      exact G.zreturn rfl d8_32 rfl (Nat.le_of_ble_eq_true rfl) (Nat.le_of_ble_eq_true rfl) ⟨congrArg (fun z => some (Value.int z)) he.symm, rfl⟩
    · replace he := he.trans (if_pos h17)
      refine G.aloadN d8_20 rfl rfl ?_
      refine G.iloadN d8_21 rfl ?_
      refine G.iald (0) d8_22 rfl (by decide) rfl ?_
      refine G.aloadN d8_23 rfl rfl ?_
      refine G.iloadN d8_24 rfl ?_
      refine G.iald (2) d8_25 rfl (by decide) rfl ?_
      refine G.icmp_ge 31 d8_26 (by decide) rfl (fun h26 => ?_) (fun h26 => ?_)
      · replace he := he.trans (if_neg h26)
        refine G.iconst (0) d8_31 rfl ?_
        exact G.zreturn rfl d8_32 rfl (Nat.le_of_ble_eq_true rfl) (Nat.le_of_ble_eq_true rfl) ⟨congrArg (fun z => some (Value.int z)) he.symm, rfl⟩
      · replace he := he.trans (if_pos h26)
        refine G.iconst (1) d8_29 rfl ?_
        exact G.zreturn rfl d8_30 rfl (Nat.le_of_ble_eq_true rfl) (Nat.le_of_ble_eq_true rfl) ⟨congrArg (fun z => some (Value.int z)) he.symm, rfl⟩
  · replace he := he.trans (if_pos h6)
    refine G.iconst (1) d8_9 rfl ?_
    exact G.zreturn rfl d8_10 rfl (Nat.le_of_ble_eq_true rfl) (Nat.le_of_ble_eq_true rfl) ⟨congrArg (fun z => some (Value.int z)) he.symm, rfl⟩
def own_bt10 (v0 : Int32) (v1 : Int32) (v2 : Int32) (k0 : Int32) (k1 : Int32) (k2 : Int32) : Int32 := (if k0 < k1 then (1 : Int32) else (if k1 = k0 then (if v1 < v0 then (1 : Int32) else (0 : Int32)) else (0 : Int32)))
set_option maxRecDepth 65536 in
set_option maxHeartbeats 40000000 in
theorem m_8_10 (l : Launch) (Z : State) (a0 : Array Value) (hw : ∀ d ∈ tables_1, d.before a0 Z = true) (n0 : Nat) (ws : List Jvm.Cond) (v0 v1 v2 k0 k1 k2 : Int32) (tl : AHeap) :
    Meth l Z a0 ws (⟨"org/glasspane/ColourTableMostCommonPinLaw", "beats", "([I[III)Z"⟩ : MethodName) method_2_code 4 (some (.boolean)) ({ frames := 0, cells := 0, slots := 0, locals := 0 } : Room) 0 0 n0 #[.ref (ad n0 0), .ref (ad n0 1), .int (1 : Int32), .int (0 : Int32)] (.inr (.int, [.int v0, .int v1, .int v2]) :: .inr (.int, [.int k0, .int k1, .int k2]) :: tl : AHeap) (fun q A' => q = some (.int (own_bt10 v0 v1 v2 k0 k1 k2)) ∧ A' = (.inr (.int, [.int v0, .int v1, .int v2]) :: .inr (.int, [.int k0, .int k1, .int k2]) :: tl : AHeap)) := by
  refine Meth.of (plainFor_of_name own_pn9) (Ls := [.val (.ref (ad n0 0)), .val (.ref (ad n0 1)), .val (.int (1 : Int32)), .val (.int (0 : Int32))]) (fun m => by first | (simp [entryFrame, mkF, argsToLocals, Value.category, maxLocals]; done) | rfl) ?_
  intro K G
  have he : own_bt10 v0 v1 v2 k0 k1 k2 = own_bt10 v0 v1 v2 k0 k1 k2 := rfl
  refine G.aloadN d8_0 rfl rfl ?_
  refine G.iloadN d8_1 rfl ?_
  refine G.iald (1) d8_2 rfl (by decide) rfl ?_
  refine G.aloadN d8_3 rfl rfl ?_
  refine G.iloadN d8_4 rfl ?_
  refine G.iald (0) d8_5 rfl (by decide) rfl ?_
  refine G.icmp_le 11 d8_6 (by decide) rfl (fun h6 => ?_) (fun h6 => ?_)
  · replace he := he.trans (if_neg h6)
    refine G.aloadN d8_11 rfl rfl ?_
    refine G.iloadN d8_12 rfl ?_
    refine G.iald (1) d8_13 rfl (by decide) rfl ?_
    refine G.aloadN d8_14 rfl rfl ?_
    refine G.iloadN d8_15 rfl ?_
    refine G.iald (0) d8_16 rfl (by decide) rfl ?_
    refine G.icmp_ne 31 d8_17 (by decide) rfl (fun h17 => ?_) (fun h17 => ?_)
    · replace he := he.trans (if_neg h17)
      refine G.iconst (0) d8_31 rfl ?_
      exact G.zreturn rfl d8_32 rfl (Nat.le_of_ble_eq_true rfl) (Nat.le_of_ble_eq_true rfl) ⟨congrArg (fun z => some (Value.int z)) he.symm, rfl⟩
    · replace he := he.trans (if_pos h17)
      refine G.aloadN d8_20 rfl rfl ?_
      refine G.iloadN d8_21 rfl ?_
      refine G.iald (1) d8_22 rfl (by decide) rfl ?_
      refine G.aloadN d8_23 rfl rfl ?_
      refine G.iloadN d8_24 rfl ?_
      refine G.iald (0) d8_25 rfl (by decide) rfl ?_
      refine G.icmp_ge 31 d8_26 (by decide) rfl (fun h26 => ?_) (fun h26 => ?_)
      · replace he := he.trans (if_neg h26)
        refine G.iconst (0) d8_31 rfl ?_
        exact G.zreturn rfl d8_32 rfl (Nat.le_of_ble_eq_true rfl) (Nat.le_of_ble_eq_true rfl) ⟨congrArg (fun z => some (Value.int z)) he.symm, rfl⟩
      · replace he := he.trans (if_pos h26)
        refine G.iconst (1) d8_29 rfl ?_
        exact G.zreturn rfl d8_30 rfl (Nat.le_of_ble_eq_true rfl) (Nat.le_of_ble_eq_true rfl) ⟨congrArg (fun z => some (Value.int z)) he.symm, rfl⟩
  · replace he := he.trans (if_pos h6)
    refine G.iconst (1) d8_9 rfl ?_
    exact G.zreturn rfl d8_10 rfl (Nat.le_of_ble_eq_true rfl) (Nat.le_of_ble_eq_true rfl) ⟨congrArg (fun z => some (Value.int z)) he.symm, rfl⟩
def own_bt12 (v0 : Int32) (v1 : Int32) (v2 : Int32) (k0 : Int32) (k1 : Int32) (k2 : Int32) : Int32 := (if k2 < k1 then (1 : Int32) else (if k1 = k2 then (if v1 < v2 then (1 : Int32) else (0 : Int32)) else (0 : Int32)))
set_option maxRecDepth 65536 in
set_option maxHeartbeats 40000000 in
theorem m_8_12 (l : Launch) (Z : State) (a0 : Array Value) (hw : ∀ d ∈ tables_1, d.before a0 Z = true) (n0 : Nat) (ws : List Jvm.Cond) (v0 v1 v2 k0 k1 k2 : Int32) (tl : AHeap) :
    Meth l Z a0 ws (⟨"org/glasspane/ColourTableMostCommonPinLaw", "beats", "([I[III)Z"⟩ : MethodName) method_2_code 4 (some (.boolean)) ({ frames := 0, cells := 0, slots := 0, locals := 0 } : Room) 0 0 n0 #[.ref (ad n0 0), .ref (ad n0 1), .int (1 : Int32), .int (2 : Int32)] (.inr (.int, [.int v0, .int v1, .int v2]) :: .inr (.int, [.int k0, .int k1, .int k2]) :: tl : AHeap) (fun q A' => q = some (.int (own_bt12 v0 v1 v2 k0 k1 k2)) ∧ A' = (.inr (.int, [.int v0, .int v1, .int v2]) :: .inr (.int, [.int k0, .int k1, .int k2]) :: tl : AHeap)) := by
  refine Meth.of (plainFor_of_name own_pn9) (Ls := [.val (.ref (ad n0 0)), .val (.ref (ad n0 1)), .val (.int (1 : Int32)), .val (.int (2 : Int32))]) (fun m => by first | (simp [entryFrame, mkF, argsToLocals, Value.category, maxLocals]; done) | rfl) ?_
  intro K G
  have he : own_bt12 v0 v1 v2 k0 k1 k2 = own_bt12 v0 v1 v2 k0 k1 k2 := rfl
  refine G.aloadN d8_0 rfl rfl ?_
  refine G.iloadN d8_1 rfl ?_
  refine G.iald (1) d8_2 rfl (by decide) rfl ?_
  refine G.aloadN d8_3 rfl rfl ?_
  refine G.iloadN d8_4 rfl ?_
  refine G.iald (2) d8_5 rfl (by decide) rfl ?_
  refine G.icmp_le 11 d8_6 (by decide) rfl (fun h6 => ?_) (fun h6 => ?_)
  · replace he := he.trans (if_neg h6)
    refine G.aloadN d8_11 rfl rfl ?_
    refine G.iloadN d8_12 rfl ?_
    refine G.iald (1) d8_13 rfl (by decide) rfl ?_
    refine G.aloadN d8_14 rfl rfl ?_
    refine G.iloadN d8_15 rfl ?_
    refine G.iald (2) d8_16 rfl (by decide) rfl ?_
    refine G.icmp_ne 31 d8_17 (by decide) rfl (fun h17 => ?_) (fun h17 => ?_)
    · replace he := he.trans (if_neg h17)
      refine G.iconst (0) d8_31 rfl ?_
      exact G.zreturn rfl d8_32 rfl (Nat.le_of_ble_eq_true rfl) (Nat.le_of_ble_eq_true rfl) ⟨congrArg (fun z => some (Value.int z)) he.symm, rfl⟩
    · replace he := he.trans (if_pos h17)
      refine G.aloadN d8_20 rfl rfl ?_
      refine G.iloadN d8_21 rfl ?_
      refine G.iald (1) d8_22 rfl (by decide) rfl ?_
      refine G.aloadN d8_23 rfl rfl ?_
      refine G.iloadN d8_24 rfl ?_
      refine G.iald (2) d8_25 rfl (by decide) rfl ?_
      refine G.icmp_ge 31 d8_26 (by decide) rfl (fun h26 => ?_) (fun h26 => ?_)
      · replace he := he.trans (if_neg h26)
        refine G.iconst (0) d8_31 rfl ?_
        exact G.zreturn rfl d8_32 rfl (Nat.le_of_ble_eq_true rfl) (Nat.le_of_ble_eq_true rfl) ⟨congrArg (fun z => some (Value.int z)) he.symm, rfl⟩
      · replace he := he.trans (if_pos h26)
        refine G.iconst (1) d8_29 rfl ?_
        exact G.zreturn rfl d8_30 rfl (Nat.le_of_ble_eq_true rfl) (Nat.le_of_ble_eq_true rfl) ⟨congrArg (fun z => some (Value.int z)) he.symm, rfl⟩
  · replace he := he.trans (if_pos h6)
    refine G.iconst (1) d8_9 rfl ?_
    exact G.zreturn rfl d8_10 rfl (Nat.le_of_ble_eq_true rfl) (Nat.le_of_ble_eq_true rfl) ⟨congrArg (fun z => some (Value.int z)) he.symm, rfl⟩
def own_bt20 (v0 : Int32) (v1 : Int32) (v2 : Int32) (k0 : Int32) (k1 : Int32) (k2 : Int32) : Int32 := (if k0 < k2 then (1 : Int32) else (if k2 = k0 then (if v2 < v0 then (1 : Int32) else (0 : Int32)) else (0 : Int32)))
set_option maxRecDepth 65536 in
set_option maxHeartbeats 40000000 in
theorem m_8_20 (l : Launch) (Z : State) (a0 : Array Value) (hw : ∀ d ∈ tables_1, d.before a0 Z = true) (n0 : Nat) (ws : List Jvm.Cond) (v0 v1 v2 k0 k1 k2 : Int32) (tl : AHeap) :
    Meth l Z a0 ws (⟨"org/glasspane/ColourTableMostCommonPinLaw", "beats", "([I[III)Z"⟩ : MethodName) method_2_code 4 (some (.boolean)) ({ frames := 0, cells := 0, slots := 0, locals := 0 } : Room) 0 0 n0 #[.ref (ad n0 0), .ref (ad n0 1), .int (2 : Int32), .int (0 : Int32)] (.inr (.int, [.int v0, .int v1, .int v2]) :: .inr (.int, [.int k0, .int k1, .int k2]) :: tl : AHeap) (fun q A' => q = some (.int (own_bt20 v0 v1 v2 k0 k1 k2)) ∧ A' = (.inr (.int, [.int v0, .int v1, .int v2]) :: .inr (.int, [.int k0, .int k1, .int k2]) :: tl : AHeap)) := by
  refine Meth.of (plainFor_of_name own_pn9) (Ls := [.val (.ref (ad n0 0)), .val (.ref (ad n0 1)), .val (.int (2 : Int32)), .val (.int (0 : Int32))]) (fun m => by first | (simp [entryFrame, mkF, argsToLocals, Value.category, maxLocals]; done) | rfl) ?_
  intro K G
  have he : own_bt20 v0 v1 v2 k0 k1 k2 = own_bt20 v0 v1 v2 k0 k1 k2 := rfl
  refine G.aloadN d8_0 rfl rfl ?_
  refine G.iloadN d8_1 rfl ?_
  refine G.iald (2) d8_2 rfl (by decide) rfl ?_
  refine G.aloadN d8_3 rfl rfl ?_
  refine G.iloadN d8_4 rfl ?_
  refine G.iald (0) d8_5 rfl (by decide) rfl ?_
  refine G.icmp_le 11 d8_6 (by decide) rfl (fun h6 => ?_) (fun h6 => ?_)
  · replace he := he.trans (if_neg h6)
    refine G.aloadN d8_11 rfl rfl ?_
    refine G.iloadN d8_12 rfl ?_
    refine G.iald (2) d8_13 rfl (by decide) rfl ?_
    refine G.aloadN d8_14 rfl rfl ?_
    refine G.iloadN d8_15 rfl ?_
    refine G.iald (0) d8_16 rfl (by decide) rfl ?_
    refine G.icmp_ne 31 d8_17 (by decide) rfl (fun h17 => ?_) (fun h17 => ?_)
    · replace he := he.trans (if_neg h17)
      refine G.iconst (0) d8_31 rfl ?_
      exact G.zreturn rfl d8_32 rfl (Nat.le_of_ble_eq_true rfl) (Nat.le_of_ble_eq_true rfl) ⟨congrArg (fun z => some (Value.int z)) he.symm, rfl⟩
    · replace he := he.trans (if_pos h17)
      refine G.aloadN d8_20 rfl rfl ?_
      refine G.iloadN d8_21 rfl ?_
      refine G.iald (2) d8_22 rfl (by decide) rfl ?_
      refine G.aloadN d8_23 rfl rfl ?_
      refine G.iloadN d8_24 rfl ?_
      refine G.iald (0) d8_25 rfl (by decide) rfl ?_
      refine G.icmp_ge 31 d8_26 (by decide) rfl (fun h26 => ?_) (fun h26 => ?_)
      · replace he := he.trans (if_neg h26)
        refine G.iconst (0) d8_31 rfl ?_
        exact G.zreturn rfl d8_32 rfl (Nat.le_of_ble_eq_true rfl) (Nat.le_of_ble_eq_true rfl) ⟨congrArg (fun z => some (Value.int z)) he.symm, rfl⟩
      · replace he := he.trans (if_pos h26)
        refine G.iconst (1) d8_29 rfl ?_
        exact G.zreturn rfl d8_30 rfl (Nat.le_of_ble_eq_true rfl) (Nat.le_of_ble_eq_true rfl) ⟨congrArg (fun z => some (Value.int z)) he.symm, rfl⟩
  · replace he := he.trans (if_pos h6)
    refine G.iconst (1) d8_9 rfl ?_
    exact G.zreturn rfl d8_10 rfl (Nat.le_of_ble_eq_true rfl) (Nat.le_of_ble_eq_true rfl) ⟨congrArg (fun z => some (Value.int z)) he.symm, rfl⟩
def own_bt21 (v0 : Int32) (v1 : Int32) (v2 : Int32) (k0 : Int32) (k1 : Int32) (k2 : Int32) : Int32 := (if k1 < k2 then (1 : Int32) else (if k2 = k1 then (if v2 < v1 then (1 : Int32) else (0 : Int32)) else (0 : Int32)))
set_option maxRecDepth 65536 in
set_option maxHeartbeats 40000000 in
theorem m_8_21 (l : Launch) (Z : State) (a0 : Array Value) (hw : ∀ d ∈ tables_1, d.before a0 Z = true) (n0 : Nat) (ws : List Jvm.Cond) (v0 v1 v2 k0 k1 k2 : Int32) (tl : AHeap) :
    Meth l Z a0 ws (⟨"org/glasspane/ColourTableMostCommonPinLaw", "beats", "([I[III)Z"⟩ : MethodName) method_2_code 4 (some (.boolean)) ({ frames := 0, cells := 0, slots := 0, locals := 0 } : Room) 0 0 n0 #[.ref (ad n0 0), .ref (ad n0 1), .int (2 : Int32), .int (1 : Int32)] (.inr (.int, [.int v0, .int v1, .int v2]) :: .inr (.int, [.int k0, .int k1, .int k2]) :: tl : AHeap) (fun q A' => q = some (.int (own_bt21 v0 v1 v2 k0 k1 k2)) ∧ A' = (.inr (.int, [.int v0, .int v1, .int v2]) :: .inr (.int, [.int k0, .int k1, .int k2]) :: tl : AHeap)) := by
  refine Meth.of (plainFor_of_name own_pn9) (Ls := [.val (.ref (ad n0 0)), .val (.ref (ad n0 1)), .val (.int (2 : Int32)), .val (.int (1 : Int32))]) (fun m => by first | (simp [entryFrame, mkF, argsToLocals, Value.category, maxLocals]; done) | rfl) ?_
  intro K G
  have he : own_bt21 v0 v1 v2 k0 k1 k2 = own_bt21 v0 v1 v2 k0 k1 k2 := rfl
  refine G.aloadN d8_0 rfl rfl ?_
  refine G.iloadN d8_1 rfl ?_
  refine G.iald (2) d8_2 rfl (by decide) rfl ?_
  refine G.aloadN d8_3 rfl rfl ?_
  refine G.iloadN d8_4 rfl ?_
  refine G.iald (1) d8_5 rfl (by decide) rfl ?_
  refine G.icmp_le 11 d8_6 (by decide) rfl (fun h6 => ?_) (fun h6 => ?_)
  · replace he := he.trans (if_neg h6)
    refine G.aloadN d8_11 rfl rfl ?_
    refine G.iloadN d8_12 rfl ?_
    refine G.iald (2) d8_13 rfl (by decide) rfl ?_
    refine G.aloadN d8_14 rfl rfl ?_
    refine G.iloadN d8_15 rfl ?_
    refine G.iald (1) d8_16 rfl (by decide) rfl ?_
    refine G.icmp_ne 31 d8_17 (by decide) rfl (fun h17 => ?_) (fun h17 => ?_)
    · replace he := he.trans (if_neg h17)
      refine G.iconst (0) d8_31 rfl ?_
      exact G.zreturn rfl d8_32 rfl (Nat.le_of_ble_eq_true rfl) (Nat.le_of_ble_eq_true rfl) ⟨congrArg (fun z => some (Value.int z)) he.symm, rfl⟩
    · replace he := he.trans (if_pos h17)
      refine G.aloadN d8_20 rfl rfl ?_
      refine G.iloadN d8_21 rfl ?_
      refine G.iald (2) d8_22 rfl (by decide) rfl ?_
      refine G.aloadN d8_23 rfl rfl ?_
      refine G.iloadN d8_24 rfl ?_
      refine G.iald (1) d8_25 rfl (by decide) rfl ?_
      refine G.icmp_ge 31 d8_26 (by decide) rfl (fun h26 => ?_) (fun h26 => ?_)
      · replace he := he.trans (if_neg h26)
        refine G.iconst (0) d8_31 rfl ?_
        exact G.zreturn rfl d8_32 rfl (Nat.le_of_ble_eq_true rfl) (Nat.le_of_ble_eq_true rfl) ⟨congrArg (fun z => some (Value.int z)) he.symm, rfl⟩
      · replace he := he.trans (if_pos h26)
        refine G.iconst (1) d8_29 rfl ?_
        exact G.zreturn rfl d8_30 rfl (Nat.le_of_ble_eq_true rfl) (Nat.le_of_ble_eq_true rfl) ⟨congrArg (fun z => some (Value.int z)) he.symm, rfl⟩
  · replace he := he.trans (if_pos h6)
    refine G.iconst (1) d8_9 rfl ?_
    exact G.zreturn rfl d8_10 rfl (Nat.le_of_ble_eq_true rfl) (Nat.le_of_ble_eq_true rfl) ⟨congrArg (fun z => some (Value.int z)) he.symm, rfl⟩
theorem own_hR (x : Int32) (S : Nat) (sh : Int32) (w : Nat) (hw : w < 32) (h1 : (sh &&& 31).toUInt32.toBitVec % 32 = BitVec.ofNat 32 w) (h2 : 4294967296 / 2 ^ w = S) (h3 : S ≤ 8) (h4 : S * 2 ^ w = 4294967296) : inR (own_h x sh) S := by
  have e : (own_h x sh).toBitVec.toNat = (x * (-1640531527 : Int32)).toBitVec.toNat / 2 ^ w := by
    show ((x * (-1640531527 : Int32)).toBitVec >>> ((sh &&& 31).toUInt32.toBitVec % 32)).toNat = _
    rw [h1]
    show (x * (-1640531527 : Int32)).toBitVec.toNat >>> (BitVec.ofNat 32 w).toNat = _
    have : (BitVec.ofNat 32 w).toNat = w := by
      rw [BitVec.toNat_ofNat]
      exact Nat.mod_eq_of_lt (Nat.lt_of_lt_of_le hw (by decide))
    rw [this, Nat.shiftRight_eq_div_pow]
  have hl := (x * (-1640531527 : Int32)).toBitVec.isLt
  have hq : (own_h x sh).toBitVec.toNat < S := by
    rw [e]
    exact Nat.div_lt_of_lt_mul (by rw [Nat.mul_comm, h4]; exact hl)
  refine ⟨(own_h x sh).toBitVec.toNat, ?_, hq⟩
  show (own_h x sh).toBitVec.toInt = _
  rw [BitVec.toInt_eq_toNat_cond, if_pos (by omega)]
theorem own_h2 (x : Int32) : inR (own_h x 31) 2 := own_hR x 2 31 31 (by decide) (by decide) (by decide) (by decide) (by decide)
theorem own_h4 (x : Int32) : inR (own_h x 30) 4 := own_hR x 4 30 30 (by decide) (by decide) (by decide) (by decide) (by decide)
theorem own_h8 (x : Int32) : inR (own_h x 29) 8 := own_hR x 8 29 29 (by decide) (by decide) (by decide) (by decide) (by decide)
/-- a probing step stays in the table and moves -/
def stepOk (S : Nat) : Prop := ∀ i : Int32, inR i S → inR (nxt i S) S ∧ ¬ nxt i S = i
theorem own_s2 : stepOk 2 := by
  rintro i ⟨n, h, hl⟩
  obtain rfl := ofNat_of h
  have : ∀ n : Fin 2, (nxt (Int32.ofNat n.val) 2).toInt = (((n.val + 1) % 2 : Nat) : Int) ∧ ¬ nxt (Int32.ofNat n.val) 2 = Int32.ofNat n.val := by decide
  exact ⟨⟨_, (this ⟨n, hl⟩).1, Nat.mod_lt _ (by decide)⟩, (this ⟨n, hl⟩).2⟩
theorem own_s4 : stepOk 4 := by
  rintro i ⟨n, h, hl⟩
  obtain rfl := ofNat_of h
  have : ∀ n : Fin 4, (nxt (Int32.ofNat n.val) 4).toInt = (((n.val + 1) % 4 : Nat) : Int) ∧ ¬ nxt (Int32.ofNat n.val) 4 = Int32.ofNat n.val := by decide
  exact ⟨⟨_, (this ⟨n, hl⟩).1, Nat.mod_lt _ (by decide)⟩, (this ⟨n, hl⟩).2⟩
theorem own_s8 : stepOk 8 := by
  rintro i ⟨n, h, hl⟩
  obtain rfl := ofNat_of h
  have : ∀ n : Fin 8, (nxt (Int32.ofNat n.val) 8).toInt = (((n.val + 1) % 8 : Nat) : Int) ∧ ¬ nxt (Int32.ofNat n.val) 8 = Int32.ofNat n.val := by decide
  exact ⟨⟨_, (this ⟨n, hl⟩).1, Nat.mod_lt _ (by decide)⟩, (this ⟨n, hl⟩).2⟩
theorem own_free0 (N S : Nat) (c : Int32 → Int32) (x i : Int32) (hi : inR i S) : prb N S (fun _ => 0) c x 0 i i := ⟨rfl, hi, Or.inl rfl⟩
theorem own_hit (N S : Nat) (r : Int32) (c : Int32 → Int32) (x : Int32) (hN : 0 < N) (hr : inR r S) (hc : c 0 = x) : prb N S (upd (fun _ => 0) r 1) c x 0 r r := by
  have e : upd (fun _ => 0) r 1 r = 1 := by simp [upd]
  refine ⟨rfl, hr, Or.inr ⟨?_, ?_, ?_⟩⟩
  · rw [e]; decide
  · rw [e]; exact ⟨0, by decide, hN⟩
  · rw [e]; exact hc
theorem own_free1 (N S : Nat) (hS : stepOk S) (r : Int32) (c : Int32 → Int32) (x i : Int32) (hN : 0 < N) (hi : inR i S) (hc : ¬ c 0 = x) : ∃ np r', prb N S (upd (fun _ => 0) r 1) c x np i r' ∧ upd (fun _ => 0) r 1 r' = 0 ∧ inR r' S := by
  by_cases q : i = r
  · subst q
    have e : upd (fun _ => 0) i 1 i = 1 := by simp [upd]
    obtain ⟨h1, h2⟩ := hS i hi
    have e2 : upd (fun _ => 0) i 1 (nxt i S) = 0 := by simp [upd, h2]
    refine ⟨1, nxt i S, ⟨hi, ?_, ?_, ?_, rfl, h1, Or.inl e2⟩, e2, h1⟩
    · rw [e]; decide
    · rw [e]; exact ⟨0, by decide, hN⟩
    · rw [e]; exact hc
  · have e : upd (fun _ => 0) r 1 i = 0 := by simp [upd, q]
    exact ⟨0, i, ⟨rfl, hi, Or.inl e⟩, e, hi⟩
theorem own_clr1 (a u : Int32) : upd (upd (fun _ => 0) a u) a 0 = fun _ => 0 := by
  funext i
  by_cases h1 : i = a <;> simp [upd, h1]
theorem own_clr2 (a b u v : Int32) : upd (upd (upd (upd (fun _ => 0) a u) b v) a 0) b 0 = fun _ => 0 := by
  funext i
  by_cases h1 : i = a <;> by_cases h2 : i = b <;> simp [upd, h1, h2]
theorem own_cap (x : Int32) : 1 + (x &&& 3) = 1 ∨ 1 + (x &&& 3) = 2 ∨ 1 + (x &&& 3) = 3 ∨ 1 + (x &&& 3) = 4 := by
  have m : (x &&& 3).toInt = x.toInt % 2 ^ 2 := Jvm.Kit.i32_mask x 3 (k := 2) (by decide) (by decide)
  have e0 : (0 : Int32).toInt = 0 := by decide
  have e1 : (1 : Int32).toInt = 1 := by decide
  have e2 : (2 : Int32).toInt = 2 := by decide
  have e3 : (3 : Int32).toInt = 3 := by decide
  have k : (x &&& 3) = 0 ∨ (x &&& 3) = 1 ∨ (x &&& 3) = 2 ∨ (x &&& 3) = 3 := by
    rw [← Int32.toInt_inj, ← Int32.toInt_inj, ← Int32.toInt_inj, ← Int32.toInt_inj]
    omega
  rcases k with k | k | k | k <;> rw [k] <;> decide
theorem own_four (x : Int32) : (x &&& 3) = 0 ∨ (x &&& 3) = 1 ∨ (x &&& 3) = 2 ∨ (x &&& 3) = 3 := by
  have m : (x &&& 3).toInt = x.toInt % 2 ^ 2 := Jvm.Kit.i32_mask x 3 (k := 2) (by decide) (by decide)
  have e0 : (0 : Int32).toInt = 0 := by decide
  have e1 : (1 : Int32).toInt = 1 := by decide
  have e2 : (2 : Int32).toInt = 2 := by decide
  have e3 : (3 : Int32).toInt = 3 := by decide
  rw [← Int32.toInt_inj, ← Int32.toInt_inj, ← Int32.toInt_inj, ← Int32.toInt_inj]
  omega
theorem own_t8 (i : Int32) (h : inR i 8) : ¬ nxt (nxt i 8) 8 = i := by
  obtain ⟨n, h, hl⟩ := h
  obtain rfl := ofNat_of h
  have : ∀ n : Fin 8, ¬ nxt (nxt (Int32.ofNat n.val) 8) 8 = Int32.ofNat n.val := by decide
  exact this ⟨n, hl⟩
theorem own_occ (a b : Int32) (c : Int32 → Int32) (x : Int32) (h0 : ¬ c 0 = x) (h1 : ¬ c 1 = x) (i : Int32) :
    upd (upd (fun _ => 0) a 1) b 2 i = 0 ∨ ((i = a ∨ i = b) ∧ ¬ upd (upd (fun _ => 0) a 1) b 2 i = 0 ∧ inR (upd (upd (fun _ => 0) a 1) b 2 i - 1) 3 ∧ ¬ c (upd (upd (fun _ => 0) a 1) b 2 i - 1) = x) := by
  by_cases hb : i = b
  · have e : upd (upd (fun _ => 0) a 1) b 2 i = 2 := by simp [upd, hb]
    rw [e]
    exact Or.inr ⟨Or.inr hb, by decide, ⟨1, by decide, by decide⟩, h1⟩
  · by_cases ha : i = a
    · have e : upd (upd (fun _ => 0) a 1) b 2 i = 1 := by
        have : ¬ a = b := fun q => hb (ha.trans q)
        simp [upd, ha, this]
      rw [e]
      exact Or.inr ⟨Or.inl ha, by decide, ⟨0, by decide, by decide⟩, h0⟩
    · exact Or.inl (by simp [upd, ha, hb])
theorem own_free2 (a b : Int32) (c : Int32 → Int32) (x i : Int32) (hi : inR i 8) (h0 : ¬ c 0 = x) (h1 : ¬ c 1 = x) : ∃ np r', prb 3 8 (upd (upd (fun _ => 0) a 1) b 2) c x np i r' ∧ upd (upd (fun _ => 0) a 1) b 2 r' = 0 ∧ inR r' 8 := by
  rcases own_occ a b c x h0 h1 i with e | ⟨p1, p2, p3, p4⟩
  · exact ⟨0, i, ⟨rfl, hi, Or.inl e⟩, e, hi⟩
  · obtain ⟨k1, k2⟩ := own_s8 i hi
    rcases own_occ a b c x h0 h1 (nxt i 8) with e | ⟨q1, q2, q3, q4⟩
    · exact ⟨1, _, ⟨hi, p2, p3, p4, rfl, k1, Or.inl e⟩, e, k1⟩
    · obtain ⟨m1, m2⟩ := own_s8 _ k1
      have m3 := own_t8 i hi
      rcases own_occ a b c x h0 h1 (nxt (nxt i 8) 8) with e | ⟨w, -, -, -⟩
      · exact ⟨2, _, ⟨hi, p2, p3, p4, k1, q2, q3, q4, rfl, m1, Or.inl e⟩, e, m1⟩
      · exfalso
        rcases p1 with p1 | p1 <;> rcases q1 with q1 | q1 <;> rcases w with w | w
        · exact k2 (q1.trans p1.symm)
        · exact k2 (q1.trans p1.symm)
        · exact m3 (w.trans p1.symm)
        · exact m2 (w.trans q1.symm)
        · exact m2 (w.trans q1.symm)
        · exact m3 (w.trans p1.symm)
        · exact k2 (q1.trans p1.symm)
        · exact k2 (q1.trans p1.symm)
theorem own_mc2_r (c k : Int32 → Int32) : own_mc2 c k = 0 ∨ own_mc2 c k = 1 := by
  unfold own_mc2
  repeat' split
  all_goals decide
theorem own_mc3_r (c k : Int32 → Int32) : own_mc3 c k = 0 ∨ own_mc3 c k = 1 ∨ own_mc3 c k = 2 := by
  unfold own_mc3
  repeat' split
  all_goals decide
def own_law_63 (l0 : Int64) (l1 : Int64) (l2 : Int64) (l3 : Int32) (l4 : Int32) (l5 : Int32) (l6 : Int32) (l7 : Int32) (l8 : Int32) (l9 : Int32) (l10 : Int32) : Int32 := (if l4 = (0 : Int32) then (1 : Int32) else (if l4 = (1 : Int32) then (1 : Int32) else (if l4 = (2 : Int32) then (if l5 = l6 then (1 : Int32) else (if own_mc2 (upd (upd (fun _ => 0) 0 l5) 1 l6) (upd (upd (fun _ => 0) 0 l8) 1 l9) = 0 then (if (own_bt10 l5 l6 l7 l8 l9 l10) = (0 : Int32) then (1 : Int32) else (0 : Int32)) else (if (own_bt01 l5 l6 l7 l8 l9 l10) = (0 : Int32) then (1 : Int32) else (0 : Int32)))) else (if l5 = l6 then (1 : Int32) else (if l5 = l7 then (1 : Int32) else (if l6 = l7 then (1 : Int32) else (if own_mc3 (upd (upd (upd (fun _ => 0) 0 l5) 1 l6) 2 l7) (upd (upd (upd (fun _ => 0) 0 l8) 1 l9) 2 l10) = 0 then (if (own_bt10 l5 l6 l7 l8 l9 l10) = (0 : Int32) then (if (own_bt20 l5 l6 l7 l8 l9 l10) = (0 : Int32) then (1 : Int32) else (0 : Int32)) else (0 : Int32)) else (if own_mc3 (upd (upd (upd (fun _ => 0) 0 l5) 1 l6) 2 l7) (upd (upd (upd (fun _ => 0) 0 l8) 1 l9) 2 l10) = 1 then (if (own_bt01 l5 l6 l7 l8 l9 l10) = (0 : Int32) then (if (own_bt21 l5 l6 l7 l8 l9 l10) = (0 : Int32) then (1 : Int32) else (0 : Int32)) else (0 : Int32)) else (if (own_bt02 l5 l6 l7 l8 l9 l10) = (0 : Int32) then (if (own_bt12 l5 l6 l7 l8 l9 l10) = (0 : Int32) then (1 : Int32) else (0 : Int32)) else (0 : Int32))))))))))
def own_law (x0 : Int64) (x1 : Int64) (x2 : Int64) (x3 : Int32) : Int32 := own_law_63 x0 x1 x2 x3 (x3 &&& (3 : Int32)) ((ushrL x0 (32 : Int32)).toInt32) ((ushrL x1 (32 : Int32)).toInt32) ((ushrL x2 (32 : Int32)).toInt32) (x0.toInt32) (x1.toInt32) (x2.toInt32)
set_option maxRecDepth 65536 in
set_option maxHeartbeats 40000000 in
theorem m_0 (l : Launch) (Z : State) (a0 : Array Value) (hw : ∀ d ∈ tables_1, d.before a0 Z = true) (n0 : Nat) (ws : List Jvm.Cond) (x0 : Int64) (x1 : Int64) (x2 : Int64) (x3 : Int32)  :
    Meth l Z a0 ws x code maxLocals ret room_1 24 128 n0 #[.long x0, .long x1, .long x2, .int x3] ([] : AHeap) (fun r A' => r = some (.int (own_law x0 x1 x2 x3)) ∧ True) := by
  refine Meth.of (plainFor_of_name own_pn9) (Ls := [.val (.long x0), .second, .val (.long x1), .second, .val (.long x2), .second, .val (.int x3), .unset, .unset, .unset, .unset, .unset]) (fun m => by first | (simp [entryFrame, mkF, argsToLocals, Value.category, maxLocals]; done) | rfl) ?_
  intro K G
  have J63 : ∀ (l0 : Int64) (l1 : Int64) (l2 : Int64) (l3 : Int32) (l4 : Int32) (l5 : Int32) (l6 : Int32) (l7 : Int32) (l8 : Int32) (l9 : Int32) (l10 : Int32), (l4 = 0 ∨ l4 = 1 ∨ l4 = 2 ∨ l4 = 3) → own_law x0 x1 x2 x3 = own_law_63 l0 l1 l2 l3 l4 l5 l6 l7 l8 l9 l10 → K 63 [.val (.long l0), .second, .val (.long l1), .second, .val (.long l2), .second, .val (.int l3), .val (.int l4), .val (.ref (ad n0 0)), .val (.ref (ad n0 1)), .unset, .unset] [] ([.inr (.int, [.int l5, .int l6, .int l7]), .inr (.int, [.int l8, .int l9, .int l10])] : AHeap) 2 6 := by
    intro l0 l1 l2 l3 l4 l5 l6 l7 l8 l9 l10 hv he
    have hs7 := hv
    rcases hs7 with rfl | rfl | rfl | rfl
    · replace he := he.trans (if_pos rfl)
      refine G.iload at_63 rfl ?_
      refine G.iconst (2) at_65 rfl ?_
      refine G.icmp_lt 82 at_66 (by decide) rfl (fun _ => ?_) (fun h66 => absurd h66 (by decide))
      refine G.iload at_82 rfl ?_
      refine G.iconst (3) at_84 rfl ?_
      refine G.icmp_lt 112 at_85 (by decide) rfl (fun _ => ?_) (fun h85 => absurd h85 (by decide))
      refine G.newo at_112 (hw _ (List.mem_of_getElem? (i := 1) rfl)) (hw _ (List.mem_of_getElem? (i := 2) rfl)) (hw _ (List.mem_of_getElem? (i := 3) rfl)) (own_fo Z a0 hw) (Nat.le_of_ble_eq_true rfl) (Nat.le_of_ble_eq_true rfl) ?_
      try simp only [List.set_cons_zero, List.set_cons_succ, List.length_cons, List.length_nil, List.nil_append, List.cons_append, Nat.zero_add, Nat.reduceAdd]
      refine G.dup at_115 rfl ?_
      refine G.iconst (3) at_116 rfl ?_
      refine G.ncall [_] rfl at_117 rfl (hw _ (List.mem_of_getElem? (i := 4) rfl)) (hw _ (List.mem_of_getElem? (i := 5) rfl)) (hw _ (List.mem_of_getElem? (i := 3) rfl)) (hw _ (List.mem_of_getElem? (i := 6) rfl)) (by decide) (m_1 l Z a0 hw n0 [] _ _) own_pd1 rfl rfl (Nat.le_of_ble_eq_true rfl) (Nat.le_of_ble_eq_true rfl) (Nat.le_of_ble_eq_true rfl) (Nat.le_of_ble_eq_true rfl) (by rintro _ _ ⟨rfl, rfl⟩; rfl) ?_
      rintro _ _ ⟨rfl, rfl⟩
      refine G.astore10 at_120 rfl rfl ?_
      refine G.iload at_122 rfl ?_
      refine G.iconst (1) at_124 rfl ?_
      refine G.icmp_lt 142 at_125 (by decide) rfl (fun _ => ?_) (fun h125 => absurd h125 (by decide))
      refine G.iload at_142 rfl ?_
      refine G.iconst (2) at_144 rfl ?_
      refine G.icmp_lt 162 at_145 (by decide) rfl (fun _ => ?_) (fun h145 => absurd h145 (by decide))
      refine G.iload at_162 rfl ?_
      refine G.iconst (3) at_164 rfl ?_
      refine G.icmp_lt 182 at_165 (by decide) rfl (fun _ => ?_) (fun h165 => absurd h165 (by decide))
      refine G.aload at_182 rfl rfl ?_
      refine G.vcall [] rfl at_184 (hw _ (List.mem_of_getElem? (i := 25) rfl)) (hw _ (List.mem_of_getElem? (i := 26) rfl)) (hw _ (List.mem_of_getElem? (i := 28) rfl)) (hw _ (List.mem_of_getElem? (i := 27) rfl)) (hw _ (List.mem_of_getElem? (i := 3) rfl)) (hw _ (List.mem_of_getElem? (i := 29) rfl)) (by decide) rfl (m_4_0 l Z a0 hw n0 [] _ _ _ (fun _ => 0) (fun _ => 0) _ _) own_pd2 rfl rfl (Nat.le_of_ble_eq_true rfl) (Nat.le_of_ble_eq_true rfl) (Nat.le_of_ble_eq_true rfl) (Nat.le_of_ble_eq_true rfl) (by rintro _ _ ⟨rfl, rfl⟩; simp only [CTab_len, Nat.add_zero]) ?_
      rintro _ _ ⟨rfl, rfl⟩
      show K _ _ (.int 0 :: _) _ _ _
      rw [CTab_split]
      generalize CTl n0 3 8 _ _ _ _ _ _ = tl
      refine G.istore11 at_187 rfl ?_
      refine G.iload at_189 rfl ?_
      refine G.if_ne 205 at_191 (by decide) rfl (fun h191 => absurd h191 (by decide)) (fun _ => ?_)
      refine G.iload at_194 rfl ?_
      refine G.if_ne 203 at_196 (by decide) rfl (fun h196 => absurd h196 (by decide)) (fun _ => ?_)
      refine G.iconst (1) at_199 rfl ?_
      refine G.goto 204 at_200 (by decide) rfl ?_
      exact G.zreturn rfl at_204 rfl (Nat.le_of_ble_eq_true rfl) (Nat.le_of_ble_eq_true rfl) ⟨congrArg (fun z => some (Value.int z)) he.symm, trivial⟩
    · replace he := he.trans ((if_neg (by decide)).trans (if_pos rfl))
      refine G.iload at_63 rfl ?_
      refine G.iconst (2) at_65 rfl ?_
      refine G.icmp_lt 82 at_66 (by decide) rfl (fun _ => ?_) (fun h66 => absurd h66 (by decide))
      refine G.iload at_82 rfl ?_
      refine G.iconst (3) at_84 rfl ?_
      refine G.icmp_lt 112 at_85 (by decide) rfl (fun _ => ?_) (fun h85 => absurd h85 (by decide))
      refine G.newo at_112 (hw _ (List.mem_of_getElem? (i := 1) rfl)) (hw _ (List.mem_of_getElem? (i := 2) rfl)) (hw _ (List.mem_of_getElem? (i := 3) rfl)) (own_fo Z a0 hw) (Nat.le_of_ble_eq_true rfl) (Nat.le_of_ble_eq_true rfl) ?_
      try simp only [List.set_cons_zero, List.set_cons_succ, List.length_cons, List.length_nil, List.nil_append, List.cons_append, Nat.zero_add, Nat.reduceAdd]
      refine G.dup at_115 rfl ?_
      refine G.iconst (3) at_116 rfl ?_
      refine G.ncall [_] rfl at_117 rfl (hw _ (List.mem_of_getElem? (i := 4) rfl)) (hw _ (List.mem_of_getElem? (i := 5) rfl)) (hw _ (List.mem_of_getElem? (i := 3) rfl)) (hw _ (List.mem_of_getElem? (i := 6) rfl)) (by decide) (m_1 l Z a0 hw n0 [] _ _) own_pd1 rfl rfl (Nat.le_of_ble_eq_true rfl) (Nat.le_of_ble_eq_true rfl) (Nat.le_of_ble_eq_true rfl) (Nat.le_of_ble_eq_true rfl) (by rintro _ _ ⟨rfl, rfl⟩; rfl) ?_
      rintro _ _ ⟨rfl, rfl⟩
      refine G.astore10 at_120 rfl rfl ?_
      refine G.iload at_122 rfl ?_
      refine G.iconst (1) at_124 rfl ?_
      refine G.icmp_lt 142 at_125 (by decide) rfl (fun h125 => absurd h125 (by decide)) (fun _ => ?_)
      refine G.aload at_128 rfl rfl ?_
      refine G.aload at_130 rfl rfl ?_
      refine G.iconst (0) at_132 rfl ?_
      refine G.iald (0) at_133 rfl (by decide) rfl ?_
      refine G.aload at_134 rfl rfl ?_
      refine G.iconst (0) at_136 rfl ?_
      refine G.iald (0) at_137 rfl (by decide) rfl ?_
      obtain ⟨rn0, hr0, hrl0⟩ := own_h8 l5
      refine G.vcall [_, _] rfl at_138 (hw _ (List.mem_of_getElem? (i := 32) rfl)) (hw _ (List.mem_of_getElem? (i := 33) rfl)) (hw _ (List.mem_of_getElem? (i := 35) rfl)) (hw _ (List.mem_of_getElem? (i := 34) rfl)) (hw _ (List.mem_of_getElem? (i := 3) rfl)) (hw _ (List.mem_of_getElem? (i := 36) rfl)) (by decide) rfl (m_5n l Z a0 hw n0 [] _ _ 3 8 0 29 (fun _ => 0) (fun _ => 0) (fun _ => 0) (fun _ => 0) l5 l8 (own_h l5 29) 0 (own_free0 _ _ _ _ _ (own_h8 l5)) _ hr0 hrl0 (by decide) (by decide) (rfl) (by decide) 0 (by decide) (by decide) 1 (by decide) (by decide) (by decide)) own_pd5 rfl rfl (Nat.le_of_ble_eq_true rfl) (Nat.le_of_ble_eq_true rfl) (Nat.le_of_ble_eq_true rfl) (Nat.le_of_ble_eq_true rfl) (by rintro _ _ ⟨rfl, rfl⟩; simp only [CTab_len, Nat.add_zero]) ?_
      rintro _ _ ⟨rfl, rfl⟩
      refine G.pop at_141 rfl ?_
      refine G.iload at_142 rfl ?_
      refine G.iconst (2) at_144 rfl ?_
      refine G.icmp_lt 162 at_145 (by decide) rfl (fun _ => ?_) (fun h145 => absurd h145 (by decide))
      refine G.iload at_162 rfl ?_
      refine G.iconst (3) at_164 rfl ?_
      refine G.icmp_lt 182 at_165 (by decide) rfl (fun _ => ?_) (fun h165 => absurd h165 (by decide))
      refine G.aload at_182 rfl rfl ?_
      refine G.vcall [] rfl at_184 (hw _ (List.mem_of_getElem? (i := 25) rfl)) (hw _ (List.mem_of_getElem? (i := 26) rfl)) (hw _ (List.mem_of_getElem? (i := 28) rfl)) (hw _ (List.mem_of_getElem? (i := 27) rfl)) (hw _ (List.mem_of_getElem? (i := 3) rfl)) (hw _ (List.mem_of_getElem? (i := 29) rfl)) (by decide) rfl (m_4_1 l Z a0 hw n0 [] _ _ _ (upd (fun _ => 0) 0 l5) (upd (fun _ => 0) 0 l8) _ _) own_pd2 rfl rfl (Nat.le_of_ble_eq_true rfl) (Nat.le_of_ble_eq_true rfl) (Nat.le_of_ble_eq_true rfl) (Nat.le_of_ble_eq_true rfl) (by rintro _ _ ⟨rfl, rfl⟩; simp only [CTab_len, Nat.add_zero]) ?_
      rintro _ _ ⟨rfl, rfl⟩
      show K _ _ (.int 0 :: _) _ _ _
      rw [CTab_split]
      generalize CTl n0 3 8 _ _ _ _ _ _ = tl
      refine G.istore11 at_187 rfl ?_
      refine G.iload at_189 rfl ?_
      refine G.if_ne 205 at_191 (by decide) rfl (fun _ => ?_) (fun h191 => absurd h191 (by decide))
      refine G.iload at_205 rfl ?_
      refine G.if_lt 217 at_207 (by decide) rfl (fun h207 => absurd h207 (by decide)) (fun _ => ?_)
      refine G.iload at_210 rfl ?_
      refine G.iload at_212 rfl ?_
      refine G.icmp_lt 219 at_214 (by decide) rfl (fun _ => ?_) (fun h214 => absurd h214 (by decide))
      refine G.iload at_219 rfl ?_
      refine G.if_eq 239 at_221 (by decide) rfl (fun _ => ?_) (fun h221 => absurd h221 (by decide))
      refine G.iload at_239 rfl ?_
      refine G.iconst (2) at_241 rfl ?_
      refine G.icmp_lt 266 at_242 (by decide) rfl (fun _ => ?_) (fun h242 => absurd h242 (by decide))
      refine G.iload at_266 rfl ?_
      refine G.iconst (3) at_268 rfl ?_
      refine G.icmp_lt 293 at_269 (by decide) rfl (fun _ => ?_) (fun h269 => absurd h269 (by decide))
      refine G.iconst (1) at_293 rfl ?_
      exact G.zreturn rfl at_294 rfl (Nat.le_of_ble_eq_true rfl) (Nat.le_of_ble_eq_true rfl) ⟨congrArg (fun z => some (Value.int z)) he.symm, trivial⟩
    · replace he := he.trans ((if_neg (by decide)).trans ((if_neg (by decide)).trans (if_pos rfl)))
      refine G.iload at_63 rfl ?_
      refine G.iconst (2) at_65 rfl ?_
      refine G.icmp_lt 82 at_66 (by decide) rfl (fun h66 => absurd h66 (by decide)) (fun _ => ?_)
      refine G.aload at_69 rfl rfl ?_
      refine G.iconst (0) at_71 rfl ?_
      refine G.iald (0) at_72 rfl (by decide) rfl ?_
      refine G.aload at_73 rfl rfl ?_
      refine G.iconst (1) at_75 rfl ?_
      refine G.iald (1) at_76 rfl (by decide) rfl ?_
      refine G.icmp_ne 82 at_77 (by decide) rfl (fun h77 => ?_) (fun h77 => ?_)
      · replace he := he.trans (if_neg h77)
        refine G.iload at_82 rfl ?_
        refine G.iconst (3) at_84 rfl ?_
        refine G.icmp_lt 112 at_85 (by decide) rfl (fun _ => ?_) (fun h85 => absurd h85 (by decide))
        refine G.newo at_112 (hw _ (List.mem_of_getElem? (i := 1) rfl)) (hw _ (List.mem_of_getElem? (i := 2) rfl)) (hw _ (List.mem_of_getElem? (i := 3) rfl)) (own_fo Z a0 hw) (Nat.le_of_ble_eq_true rfl) (Nat.le_of_ble_eq_true rfl) ?_
        try simp only [List.set_cons_zero, List.set_cons_succ, List.length_cons, List.length_nil, List.nil_append, List.cons_append, Nat.zero_add, Nat.reduceAdd]
        refine G.dup at_115 rfl ?_
        refine G.iconst (3) at_116 rfl ?_
        refine G.ncall [_] rfl at_117 rfl (hw _ (List.mem_of_getElem? (i := 4) rfl)) (hw _ (List.mem_of_getElem? (i := 5) rfl)) (hw _ (List.mem_of_getElem? (i := 3) rfl)) (hw _ (List.mem_of_getElem? (i := 6) rfl)) (by decide) (m_1 l Z a0 hw n0 [] _ _) own_pd1 rfl rfl (Nat.le_of_ble_eq_true rfl) (Nat.le_of_ble_eq_true rfl) (Nat.le_of_ble_eq_true rfl) (Nat.le_of_ble_eq_true rfl) (by rintro _ _ ⟨rfl, rfl⟩; rfl) ?_
        rintro _ _ ⟨rfl, rfl⟩
        refine G.astore10 at_120 rfl rfl ?_
        refine G.iload at_122 rfl ?_
        refine G.iconst (1) at_124 rfl ?_
        refine G.icmp_lt 142 at_125 (by decide) rfl (fun h125 => absurd h125 (by decide)) (fun _ => ?_)
        refine G.aload at_128 rfl rfl ?_
        refine G.aload at_130 rfl rfl ?_
        refine G.iconst (0) at_132 rfl ?_
        refine G.iald (0) at_133 rfl (by decide) rfl ?_
        refine G.aload at_134 rfl rfl ?_
        refine G.iconst (0) at_136 rfl ?_
        refine G.iald (0) at_137 rfl (by decide) rfl ?_
        obtain ⟨rn0, hr0, hrl0⟩ := own_h8 l5
        refine G.vcall [_, _] rfl at_138 (hw _ (List.mem_of_getElem? (i := 32) rfl)) (hw _ (List.mem_of_getElem? (i := 33) rfl)) (hw _ (List.mem_of_getElem? (i := 35) rfl)) (hw _ (List.mem_of_getElem? (i := 34) rfl)) (hw _ (List.mem_of_getElem? (i := 3) rfl)) (hw _ (List.mem_of_getElem? (i := 36) rfl)) (by decide) rfl (m_5n l Z a0 hw n0 [] _ _ 3 8 0 29 (fun _ => 0) (fun _ => 0) (fun _ => 0) (fun _ => 0) l5 l8 (own_h l5 29) 0 (own_free0 _ _ _ _ _ (own_h8 l5)) _ hr0 hrl0 (by decide) (by decide) (rfl) (by decide) 0 (by decide) (by decide) 1 (by decide) (by decide) (by decide)) own_pd5 rfl rfl (Nat.le_of_ble_eq_true rfl) (Nat.le_of_ble_eq_true rfl) (Nat.le_of_ble_eq_true rfl) (Nat.le_of_ble_eq_true rfl) (by rintro _ _ ⟨rfl, rfl⟩; simp only [CTab_len, Nat.add_zero]) ?_
        rintro _ _ ⟨rfl, rfl⟩
        refine G.pop at_141 rfl ?_
        refine G.iload at_142 rfl ?_
        refine G.iconst (2) at_144 rfl ?_
        refine G.icmp_lt 162 at_145 (by decide) rfl (fun h145 => absurd h145 (by decide)) (fun _ => ?_)
        refine G.aload at_148 rfl rfl ?_
        refine G.aload at_150 rfl rfl ?_
        refine G.iconst (1) at_152 rfl ?_
        refine G.iald (1) at_153 rfl (by decide) rfl ?_
        refine G.aload at_154 rfl rfl ?_
        refine G.iconst (1) at_156 rfl ?_
        refine G.iald (1) at_157 rfl (by decide) rfl ?_
        obtain ⟨np1, r1, hp1, hf1, ⟨rn1, hr1, hrl1⟩⟩ := own_free1 3 8 own_s8 (own_h l5 29) (upd (fun _ => 0) 0 l5) l6 (own_h l6 29) (by decide) (own_h8 _) (fun q => h77 (by simpa [upd] using q))
        refine G.vcall [_, _] rfl at_158 (hw _ (List.mem_of_getElem? (i := 32) rfl)) (hw _ (List.mem_of_getElem? (i := 33) rfl)) (hw _ (List.mem_of_getElem? (i := 35) rfl)) (hw _ (List.mem_of_getElem? (i := 34) rfl)) (hw _ (List.mem_of_getElem? (i := 3) rfl)) (hw _ (List.mem_of_getElem? (i := 36) rfl)) (by decide) rfl (m_5n l Z a0 hw n0 [] _ _ 3 8 1 29 (upd (fun _ => 0) 0 l5) (upd (fun _ => 0) 0 l8) (upd (fun _ => 0) 0 (own_h l5 29)) (upd (fun _ => 0) (own_h l5 29) 1) l6 l9 r1 _ hp1 _ hr1 hrl1 (by decide) (by decide) (hf1) (by decide) 1 (by decide) (by decide) 2 (by decide) (by decide) (by decide)) own_pd5 rfl rfl (Nat.le_of_ble_eq_true rfl) (Nat.le_of_ble_eq_true rfl) (Nat.le_of_ble_eq_true rfl) (Nat.le_of_ble_eq_true rfl) (by rintro _ _ ⟨rfl, rfl⟩; simp only [CTab_len, Nat.add_zero]) ?_
        rintro _ _ ⟨rfl, rfl⟩
        refine G.pop at_161 rfl ?_
        refine G.iload at_162 rfl ?_
        refine G.iconst (3) at_164 rfl ?_
        refine G.icmp_lt 182 at_165 (by decide) rfl (fun _ => ?_) (fun h165 => absurd h165 (by decide))
        refine G.aload at_182 rfl rfl ?_
        by_cases hc184_1 : own_mc2 (upd (upd (fun _ => 0) 0 l5) 1 l6) (upd (upd (fun _ => 0) 0 l8) 1 l9) = 0
        · replace he := he.trans (if_pos hc184_1)
          refine G.vcall [] rfl at_184 (hw _ (List.mem_of_getElem? (i := 25) rfl)) (hw _ (List.mem_of_getElem? (i := 26) rfl)) (hw _ (List.mem_of_getElem? (i := 28) rfl)) (hw _ (List.mem_of_getElem? (i := 27) rfl)) (hw _ (List.mem_of_getElem? (i := 3) rfl)) (hw _ (List.mem_of_getElem? (i := 29) rfl)) (by decide) rfl (m_4_2 l Z a0 hw n0 [] _ _ _ (upd (upd (fun _ => 0) 0 l5) 1 l6) (upd (upd (fun _ => 0) 0 l8) 1 l9) _ _) own_pd2 rfl rfl (Nat.le_of_ble_eq_true rfl) (Nat.le_of_ble_eq_true rfl) (Nat.le_of_ble_eq_true rfl) (Nat.le_of_ble_eq_true rfl) (by rintro _ _ ⟨rfl, rfl⟩; simp only [CTab_len, Nat.add_zero]) ?_
          rintro _ _ ⟨rfl, rfl⟩
          rw [hc184_1]
          rw [CTab_split]
          generalize CTl n0 3 8 _ _ _ _ _ _ = tl
          refine G.istore11 at_187 rfl ?_
          refine G.iload at_189 rfl ?_
          refine G.if_ne 205 at_191 (by decide) rfl (fun _ => ?_) (fun h191 => absurd h191 (by decide))
          refine G.iload at_205 rfl ?_
          refine G.if_lt 217 at_207 (by decide) rfl (fun h207 => absurd h207 (by decide)) (fun _ => ?_)
          refine G.iload at_210 rfl ?_
          refine G.iload at_212 rfl ?_
          refine G.icmp_lt 219 at_214 (by decide) rfl (fun _ => ?_) (fun h214 => absurd h214 (by decide))
          refine G.iload at_219 rfl ?_
          refine G.if_eq 239 at_221 (by decide) rfl (fun _ => ?_) (fun h221 => absurd h221 (by decide))
          refine G.iload at_239 rfl ?_
          refine G.iconst (2) at_241 rfl ?_
          refine G.icmp_lt 266 at_242 (by decide) rfl (fun h242 => absurd h242 (by decide)) (fun _ => ?_)
          refine G.iload at_245 rfl ?_
          refine G.iconst (1) at_247 rfl ?_
          refine G.icmp_eq 266 at_248 (by decide) rfl (fun h248 => absurd h248 (by decide)) (fun _ => ?_)
          refine G.aload at_251 rfl rfl ?_
          refine G.aload at_253 rfl rfl ?_
          refine G.iconst (1) at_255 rfl ?_
          refine G.iload at_256 rfl ?_
          refine G.scall [_, _, _, _] rfl at_258 (hw _ (List.mem_of_getElem? (i := 47) rfl)) (hw _ (List.mem_of_getElem? (i := 48) rfl)) (hw _ (List.mem_of_getElem? (i := 49) rfl)) (hw _ (List.mem_of_getElem? (i := 50) rfl)) (by decide) (m_8_10 l Z a0 hw n0 [] l5 l6 l7 l8 l9 l10 tl) own_pd6 rfl rfl (Nat.le_of_ble_eq_true rfl) (Nat.le_of_ble_eq_true rfl) (Nat.le_of_ble_eq_true rfl) (Nat.le_of_ble_eq_true rfl) (by rintro _ _ ⟨rfl, rfl⟩; rfl) ?_
          rintro _ _ ⟨rfl, rfl⟩
          refine G.if_eq 266 at_261 (by decide) rfl (fun h261 => ?_) (fun h261 => ?_)
          · replace he := he.trans (if_pos h261)
            refine G.iload at_266 rfl ?_
            refine G.iconst (3) at_268 rfl ?_
            refine G.icmp_lt 293 at_269 (by decide) rfl (fun _ => ?_) (fun h269 => absurd h269 (by decide))
            refine G.iconst (1) at_293 rfl ?_
            exact G.zreturn rfl at_294 rfl (Nat.le_of_ble_eq_true rfl) (Nat.le_of_ble_eq_true rfl) ⟨congrArg (fun z => some (Value.int z)) he.symm, trivial⟩
          · replace he := he.trans (if_neg h261)
            refine G.iconst (0) at_264 rfl ?_
            exact G.zreturn rfl at_265 rfl (Nat.le_of_ble_eq_true rfl) (Nat.le_of_ble_eq_true rfl) ⟨congrArg (fun z => some (Value.int z)) he.symm, trivial⟩
        · replace he := he.trans (if_neg hc184_1)
          refine G.vcall [] rfl at_184 (hw _ (List.mem_of_getElem? (i := 25) rfl)) (hw _ (List.mem_of_getElem? (i := 26) rfl)) (hw _ (List.mem_of_getElem? (i := 28) rfl)) (hw _ (List.mem_of_getElem? (i := 27) rfl)) (hw _ (List.mem_of_getElem? (i := 3) rfl)) (hw _ (List.mem_of_getElem? (i := 29) rfl)) (by decide) rfl (m_4_2 l Z a0 hw n0 [] _ _ _ (upd (upd (fun _ => 0) 0 l5) 1 l6) (upd (upd (fun _ => 0) 0 l8) 1 l9) _ _) own_pd2 rfl rfl (Nat.le_of_ble_eq_true rfl) (Nat.le_of_ble_eq_true rfl) (Nat.le_of_ble_eq_true rfl) (Nat.le_of_ble_eq_true rfl) (by rintro _ _ ⟨rfl, rfl⟩; simp only [CTab_len, Nat.add_zero]) ?_
          rintro _ _ ⟨rfl, rfl⟩
          rw [(own_mc2_r (upd (upd (fun _ => 0) 0 l5) 1 l6) (upd (upd (fun _ => 0) 0 l8) 1 l9)).resolve_left hc184_1]
          rw [CTab_split]
          generalize CTl n0 3 8 _ _ _ _ _ _ = tl
          refine G.istore11 at_187 rfl ?_
          refine G.iload at_189 rfl ?_
          refine G.if_ne 205 at_191 (by decide) rfl (fun _ => ?_) (fun h191 => absurd h191 (by decide))
          refine G.iload at_205 rfl ?_
          refine G.if_lt 217 at_207 (by decide) rfl (fun h207 => absurd h207 (by decide)) (fun _ => ?_)
          refine G.iload at_210 rfl ?_
          refine G.iload at_212 rfl ?_
          refine G.icmp_lt 219 at_214 (by decide) rfl (fun _ => ?_) (fun h214 => absurd h214 (by decide))
          refine G.iload at_219 rfl ?_
          refine G.if_eq 239 at_221 (by decide) rfl (fun h221 => absurd h221 (by decide)) (fun _ => ?_)
          refine G.aload at_224 rfl rfl ?_
          refine G.aload at_226 rfl rfl ?_
          refine G.iconst (0) at_228 rfl ?_
          refine G.iload at_229 rfl ?_
          refine G.scall [_, _, _, _] rfl at_231 (hw _ (List.mem_of_getElem? (i := 47) rfl)) (hw _ (List.mem_of_getElem? (i := 48) rfl)) (hw _ (List.mem_of_getElem? (i := 49) rfl)) (hw _ (List.mem_of_getElem? (i := 50) rfl)) (by decide) (m_8_01 l Z a0 hw n0 [] l5 l6 l7 l8 l9 l10 tl) own_pd6 rfl rfl (Nat.le_of_ble_eq_true rfl) (Nat.le_of_ble_eq_true rfl) (Nat.le_of_ble_eq_true rfl) (Nat.le_of_ble_eq_true rfl) (by rintro _ _ ⟨rfl, rfl⟩; rfl) ?_
          rintro _ _ ⟨rfl, rfl⟩
          refine G.if_eq 239 at_234 (by decide) rfl (fun h234 => ?_) (fun h234 => ?_)
          · replace he := he.trans (if_pos h234)
            refine G.iload at_239 rfl ?_
            refine G.iconst (2) at_241 rfl ?_
            refine G.icmp_lt 266 at_242 (by decide) rfl (fun h242 => absurd h242 (by decide)) (fun _ => ?_)
            refine G.iload at_245 rfl ?_
            refine G.iconst (1) at_247 rfl ?_
            refine G.icmp_eq 266 at_248 (by decide) rfl (fun _ => ?_) (fun h248 => absurd h248 (by decide))
            refine G.iload at_266 rfl ?_
            refine G.iconst (3) at_268 rfl ?_
            refine G.icmp_lt 293 at_269 (by decide) rfl (fun _ => ?_) (fun h269 => absurd h269 (by decide))
            refine G.iconst (1) at_293 rfl ?_
            exact G.zreturn rfl at_294 rfl (Nat.le_of_ble_eq_true rfl) (Nat.le_of_ble_eq_true rfl) ⟨congrArg (fun z => some (Value.int z)) he.symm, trivial⟩
          · replace he := he.trans (if_neg h234)
            refine G.iconst (0) at_237 rfl ?_
            exact G.zreturn rfl at_238 rfl (Nat.le_of_ble_eq_true rfl) (Nat.le_of_ble_eq_true rfl) ⟨congrArg (fun z => some (Value.int z)) he.symm, trivial⟩
      · replace he := he.trans (if_pos h77)
        refine G.iconst (1) at_80 rfl ?_
        exact G.zreturn rfl at_81 rfl (Nat.le_of_ble_eq_true rfl) (Nat.le_of_ble_eq_true rfl) ⟨congrArg (fun z => some (Value.int z)) he.symm, trivial⟩
    · replace he := he.trans ((if_neg (by decide)).trans ((if_neg (by decide)).trans (if_neg (by decide))))
      refine G.iload at_63 rfl ?_
      refine G.iconst (2) at_65 rfl ?_
      refine G.icmp_lt 82 at_66 (by decide) rfl (fun h66 => absurd h66 (by decide)) (fun _ => ?_)
      refine G.aload at_69 rfl rfl ?_
      refine G.iconst (0) at_71 rfl ?_
      refine G.iald (0) at_72 rfl (by decide) rfl ?_
      refine G.aload at_73 rfl rfl ?_
      refine G.iconst (1) at_75 rfl ?_
      refine G.iald (1) at_76 rfl (by decide) rfl ?_
      refine G.icmp_ne 82 at_77 (by decide) rfl (fun h77 => ?_) (fun h77 => ?_)
      · replace he := he.trans (if_neg h77)
        refine G.iload at_82 rfl ?_
        refine G.iconst (3) at_84 rfl ?_
        refine G.icmp_lt 112 at_85 (by decide) rfl (fun h85 => absurd h85 (by decide)) (fun _ => ?_)
        refine G.aload at_88 rfl rfl ?_
        refine G.iconst (0) at_90 rfl ?_
        refine G.iald (0) at_91 rfl (by decide) rfl ?_
        refine G.aload at_92 rfl rfl ?_
        refine G.iconst (2) at_94 rfl ?_
        refine G.iald (2) at_95 rfl (by decide) rfl ?_
        refine G.icmp_eq 110 at_96 (by decide) rfl (fun h96 => ?_) (fun h96 => ?_)
        · replace he := he.trans (if_pos h96)
          refine G.iconst (1) at_110 rfl ?_
          exact G.zreturn rfl at_111 rfl (Nat.le_of_ble_eq_true rfl) (Nat.le_of_ble_eq_true rfl) ⟨congrArg (fun z => some (Value.int z)) he.symm, trivial⟩
        · replace he := he.trans (if_neg h96)
          refine G.aload at_99 rfl rfl ?_
          refine G.iconst (1) at_101 rfl ?_
          refine G.iald (1) at_102 rfl (by decide) rfl ?_
          refine G.aload at_103 rfl rfl ?_
          refine G.iconst (2) at_105 rfl ?_
          refine G.iald (2) at_106 rfl (by decide) rfl ?_
          refine G.icmp_ne 112 at_107 (by decide) rfl (fun h107 => ?_) (fun h107 => ?_)
          · replace he := he.trans (if_neg h107)
            refine G.newo at_112 (hw _ (List.mem_of_getElem? (i := 1) rfl)) (hw _ (List.mem_of_getElem? (i := 2) rfl)) (hw _ (List.mem_of_getElem? (i := 3) rfl)) (own_fo Z a0 hw) (Nat.le_of_ble_eq_true rfl) (Nat.le_of_ble_eq_true rfl) ?_
            try simp only [List.set_cons_zero, List.set_cons_succ, List.length_cons, List.length_nil, List.nil_append, List.cons_append, Nat.zero_add, Nat.reduceAdd]
            refine G.dup at_115 rfl ?_
            refine G.iconst (3) at_116 rfl ?_
            refine G.ncall [_] rfl at_117 rfl (hw _ (List.mem_of_getElem? (i := 4) rfl)) (hw _ (List.mem_of_getElem? (i := 5) rfl)) (hw _ (List.mem_of_getElem? (i := 3) rfl)) (hw _ (List.mem_of_getElem? (i := 6) rfl)) (by decide) (m_1 l Z a0 hw n0 [] _ _) own_pd1 rfl rfl (Nat.le_of_ble_eq_true rfl) (Nat.le_of_ble_eq_true rfl) (Nat.le_of_ble_eq_true rfl) (Nat.le_of_ble_eq_true rfl) (by rintro _ _ ⟨rfl, rfl⟩; rfl) ?_
            rintro _ _ ⟨rfl, rfl⟩
            refine G.astore10 at_120 rfl rfl ?_
            refine G.iload at_122 rfl ?_
            refine G.iconst (1) at_124 rfl ?_
            refine G.icmp_lt 142 at_125 (by decide) rfl (fun h125 => absurd h125 (by decide)) (fun _ => ?_)
            refine G.aload at_128 rfl rfl ?_
            refine G.aload at_130 rfl rfl ?_
            refine G.iconst (0) at_132 rfl ?_
            refine G.iald (0) at_133 rfl (by decide) rfl ?_
            refine G.aload at_134 rfl rfl ?_
            refine G.iconst (0) at_136 rfl ?_
            refine G.iald (0) at_137 rfl (by decide) rfl ?_
            obtain ⟨rn0, hr0, hrl0⟩ := own_h8 l5
            refine G.vcall [_, _] rfl at_138 (hw _ (List.mem_of_getElem? (i := 32) rfl)) (hw _ (List.mem_of_getElem? (i := 33) rfl)) (hw _ (List.mem_of_getElem? (i := 35) rfl)) (hw _ (List.mem_of_getElem? (i := 34) rfl)) (hw _ (List.mem_of_getElem? (i := 3) rfl)) (hw _ (List.mem_of_getElem? (i := 36) rfl)) (by decide) rfl (m_5n l Z a0 hw n0 [] _ _ 3 8 0 29 (fun _ => 0) (fun _ => 0) (fun _ => 0) (fun _ => 0) l5 l8 (own_h l5 29) 0 (own_free0 _ _ _ _ _ (own_h8 l5)) _ hr0 hrl0 (by decide) (by decide) (rfl) (by decide) 0 (by decide) (by decide) 1 (by decide) (by decide) (by decide)) own_pd5 rfl rfl (Nat.le_of_ble_eq_true rfl) (Nat.le_of_ble_eq_true rfl) (Nat.le_of_ble_eq_true rfl) (Nat.le_of_ble_eq_true rfl) (by rintro _ _ ⟨rfl, rfl⟩; simp only [CTab_len, Nat.add_zero]) ?_
            rintro _ _ ⟨rfl, rfl⟩
            refine G.pop at_141 rfl ?_
            refine G.iload at_142 rfl ?_
            refine G.iconst (2) at_144 rfl ?_
            refine G.icmp_lt 162 at_145 (by decide) rfl (fun h145 => absurd h145 (by decide)) (fun _ => ?_)
            refine G.aload at_148 rfl rfl ?_
            refine G.aload at_150 rfl rfl ?_
            refine G.iconst (1) at_152 rfl ?_
            refine G.iald (1) at_153 rfl (by decide) rfl ?_
            refine G.aload at_154 rfl rfl ?_
            refine G.iconst (1) at_156 rfl ?_
            refine G.iald (1) at_157 rfl (by decide) rfl ?_
            obtain ⟨np1, r1, hp1, hf1, ⟨rn1, hr1, hrl1⟩⟩ := own_free1 3 8 own_s8 (own_h l5 29) (upd (fun _ => 0) 0 l5) l6 (own_h l6 29) (by decide) (own_h8 _) (fun q => h77 (by simpa [upd] using q))
            refine G.vcall [_, _] rfl at_158 (hw _ (List.mem_of_getElem? (i := 32) rfl)) (hw _ (List.mem_of_getElem? (i := 33) rfl)) (hw _ (List.mem_of_getElem? (i := 35) rfl)) (hw _ (List.mem_of_getElem? (i := 34) rfl)) (hw _ (List.mem_of_getElem? (i := 3) rfl)) (hw _ (List.mem_of_getElem? (i := 36) rfl)) (by decide) rfl (m_5n l Z a0 hw n0 [] _ _ 3 8 1 29 (upd (fun _ => 0) 0 l5) (upd (fun _ => 0) 0 l8) (upd (fun _ => 0) 0 (own_h l5 29)) (upd (fun _ => 0) (own_h l5 29) 1) l6 l9 r1 _ hp1 _ hr1 hrl1 (by decide) (by decide) (hf1) (by decide) 1 (by decide) (by decide) 2 (by decide) (by decide) (by decide)) own_pd5 rfl rfl (Nat.le_of_ble_eq_true rfl) (Nat.le_of_ble_eq_true rfl) (Nat.le_of_ble_eq_true rfl) (Nat.le_of_ble_eq_true rfl) (by rintro _ _ ⟨rfl, rfl⟩; simp only [CTab_len, Nat.add_zero]) ?_
            rintro _ _ ⟨rfl, rfl⟩
            refine G.pop at_161 rfl ?_
            refine G.iload at_162 rfl ?_
            refine G.iconst (3) at_164 rfl ?_
            refine G.icmp_lt 182 at_165 (by decide) rfl (fun h165 => absurd h165 (by decide)) (fun _ => ?_)
            refine G.aload at_168 rfl rfl ?_
            refine G.aload at_170 rfl rfl ?_
            refine G.iconst (2) at_172 rfl ?_
            refine G.iald (2) at_173 rfl (by decide) rfl ?_
            refine G.aload at_174 rfl rfl ?_
            refine G.iconst (2) at_176 rfl ?_
            refine G.iald (2) at_177 rfl (by decide) rfl ?_
            obtain ⟨np2, r2, hp2, hf2, ⟨rn2, hr2, hrl2⟩⟩ := own_free2 (own_h l5 29) r1 (upd (upd (fun _ => 0) 0 l5) 1 l6) l7 (own_h l7 29) (own_h8 _) (fun q => h96 (by simpa [upd] using q)) (fun q => h107 (by simpa [upd] using q))
            refine G.vcall [_, _] rfl at_178 (hw _ (List.mem_of_getElem? (i := 32) rfl)) (hw _ (List.mem_of_getElem? (i := 33) rfl)) (hw _ (List.mem_of_getElem? (i := 35) rfl)) (hw _ (List.mem_of_getElem? (i := 34) rfl)) (hw _ (List.mem_of_getElem? (i := 3) rfl)) (hw _ (List.mem_of_getElem? (i := 36) rfl)) (by decide) rfl (m_5n l Z a0 hw n0 [] _ _ 3 8 2 29 (upd (upd (fun _ => 0) 0 l5) 1 l6) (upd (upd (fun _ => 0) 0 l8) 1 l9) (upd (upd (fun _ => 0) 0 (own_h l5 29)) 1 r1) (upd (upd (fun _ => 0) (own_h l5 29) 1) r1 2) l7 l10 r2 _ hp2 _ hr2 hrl2 (by decide) (by decide) (hf2) (by decide) 2 (by decide) (by decide) 3 (by decide) (by decide) (by decide)) own_pd5 rfl rfl (Nat.le_of_ble_eq_true rfl) (Nat.le_of_ble_eq_true rfl) (Nat.le_of_ble_eq_true rfl) (Nat.le_of_ble_eq_true rfl) (by rintro _ _ ⟨rfl, rfl⟩; simp only [CTab_len, Nat.add_zero]) ?_
            rintro _ _ ⟨rfl, rfl⟩
            refine G.pop at_181 rfl ?_
            refine G.aload at_182 rfl rfl ?_
            by_cases hc184_3 : own_mc3 (upd (upd (upd (fun _ => 0) 0 l5) 1 l6) 2 l7) (upd (upd (upd (fun _ => 0) 0 l8) 1 l9) 2 l10) = 0
            · replace he := he.trans (if_pos hc184_3)
              refine G.vcall [] rfl at_184 (hw _ (List.mem_of_getElem? (i := 25) rfl)) (hw _ (List.mem_of_getElem? (i := 26) rfl)) (hw _ (List.mem_of_getElem? (i := 28) rfl)) (hw _ (List.mem_of_getElem? (i := 27) rfl)) (hw _ (List.mem_of_getElem? (i := 3) rfl)) (hw _ (List.mem_of_getElem? (i := 29) rfl)) (by decide) rfl (m_4_3 l Z a0 hw n0 [] _ _ _ (upd (upd (upd (fun _ => 0) 0 l5) 1 l6) 2 l7) (upd (upd (upd (fun _ => 0) 0 l8) 1 l9) 2 l10) _ _) own_pd2 rfl rfl (Nat.le_of_ble_eq_true rfl) (Nat.le_of_ble_eq_true rfl) (Nat.le_of_ble_eq_true rfl) (Nat.le_of_ble_eq_true rfl) (by rintro _ _ ⟨rfl, rfl⟩; simp only [CTab_len, Nat.add_zero]) ?_
              rintro _ _ ⟨rfl, rfl⟩
              rw [hc184_3]
              rw [CTab_split]
              generalize CTl n0 3 8 _ _ _ _ _ _ = tl
              refine G.istore11 at_187 rfl ?_
              refine G.iload at_189 rfl ?_
              refine G.if_ne 205 at_191 (by decide) rfl (fun _ => ?_) (fun h191 => absurd h191 (by decide))
              refine G.iload at_205 rfl ?_
              refine G.if_lt 217 at_207 (by decide) rfl (fun h207 => absurd h207 (by decide)) (fun _ => ?_)
              refine G.iload at_210 rfl ?_
              refine G.iload at_212 rfl ?_
              refine G.icmp_lt 219 at_214 (by decide) rfl (fun _ => ?_) (fun h214 => absurd h214 (by decide))
              refine G.iload at_219 rfl ?_
              refine G.if_eq 239 at_221 (by decide) rfl (fun _ => ?_) (fun h221 => absurd h221 (by decide))
              refine G.iload at_239 rfl ?_
              refine G.iconst (2) at_241 rfl ?_
              refine G.icmp_lt 266 at_242 (by decide) rfl (fun h242 => absurd h242 (by decide)) (fun _ => ?_)
              refine G.iload at_245 rfl ?_
              refine G.iconst (1) at_247 rfl ?_
              refine G.icmp_eq 266 at_248 (by decide) rfl (fun h248 => absurd h248 (by decide)) (fun _ => ?_)
              refine G.aload at_251 rfl rfl ?_
              refine G.aload at_253 rfl rfl ?_
              refine G.iconst (1) at_255 rfl ?_
              refine G.iload at_256 rfl ?_
              refine G.scall [_, _, _, _] rfl at_258 (hw _ (List.mem_of_getElem? (i := 47) rfl)) (hw _ (List.mem_of_getElem? (i := 48) rfl)) (hw _ (List.mem_of_getElem? (i := 49) rfl)) (hw _ (List.mem_of_getElem? (i := 50) rfl)) (by decide) (m_8_10 l Z a0 hw n0 [] l5 l6 l7 l8 l9 l10 tl) own_pd6 rfl rfl (Nat.le_of_ble_eq_true rfl) (Nat.le_of_ble_eq_true rfl) (Nat.le_of_ble_eq_true rfl) (Nat.le_of_ble_eq_true rfl) (by rintro _ _ ⟨rfl, rfl⟩; rfl) ?_
              rintro _ _ ⟨rfl, rfl⟩
              refine G.if_eq 266 at_261 (by decide) rfl (fun h261 => ?_) (fun h261 => ?_)
              · replace he := he.trans (if_pos h261)
                refine G.iload at_266 rfl ?_
                refine G.iconst (3) at_268 rfl ?_
                refine G.icmp_lt 293 at_269 (by decide) rfl (fun h269 => absurd h269 (by decide)) (fun _ => ?_)
                refine G.iload at_272 rfl ?_
                refine G.iconst (2) at_274 rfl ?_
                refine G.icmp_eq 293 at_275 (by decide) rfl (fun h275 => absurd h275 (by decide)) (fun _ => ?_)
                refine G.aload at_278 rfl rfl ?_
                refine G.aload at_280 rfl rfl ?_
                refine G.iconst (2) at_282 rfl ?_
                refine G.iload at_283 rfl ?_
                refine G.scall [_, _, _, _] rfl at_285 (hw _ (List.mem_of_getElem? (i := 47) rfl)) (hw _ (List.mem_of_getElem? (i := 48) rfl)) (hw _ (List.mem_of_getElem? (i := 49) rfl)) (hw _ (List.mem_of_getElem? (i := 50) rfl)) (by decide) (m_8_20 l Z a0 hw n0 [] l5 l6 l7 l8 l9 l10 tl) own_pd6 rfl rfl (Nat.le_of_ble_eq_true rfl) (Nat.le_of_ble_eq_true rfl) (Nat.le_of_ble_eq_true rfl) (Nat.le_of_ble_eq_true rfl) (by rintro _ _ ⟨rfl, rfl⟩; rfl) ?_
                rintro _ _ ⟨rfl, rfl⟩
                refine G.if_eq 293 at_288 (by decide) rfl (fun h288 => ?_) (fun h288 => ?_)
                · replace he := he.trans (if_pos h288)
                  refine G.iconst (1) at_293 rfl ?_
                  exact G.zreturn rfl at_294 rfl (Nat.le_of_ble_eq_true rfl) (Nat.le_of_ble_eq_true rfl) ⟨congrArg (fun z => some (Value.int z)) he.symm, trivial⟩
                · replace he := he.trans (if_neg h288)
                  refine G.iconst (0) at_291 rfl ?_
                  exact G.zreturn rfl at_292 rfl (Nat.le_of_ble_eq_true rfl) (Nat.le_of_ble_eq_true rfl) ⟨congrArg (fun z => some (Value.int z)) he.symm, trivial⟩
              · replace he := he.trans (if_neg h261)
                refine G.iconst (0) at_264 rfl ?_
                exact G.zreturn rfl at_265 rfl (Nat.le_of_ble_eq_true rfl) (Nat.le_of_ble_eq_true rfl) ⟨congrArg (fun z => some (Value.int z)) he.symm, trivial⟩
            · replace he := he.trans (if_neg hc184_3)
              by_cases hc184_4 : own_mc3 (upd (upd (upd (fun _ => 0) 0 l5) 1 l6) 2 l7) (upd (upd (upd (fun _ => 0) 0 l8) 1 l9) 2 l10) = 1
              · replace he := he.trans (if_pos hc184_4)
                refine G.vcall [] rfl at_184 (hw _ (List.mem_of_getElem? (i := 25) rfl)) (hw _ (List.mem_of_getElem? (i := 26) rfl)) (hw _ (List.mem_of_getElem? (i := 28) rfl)) (hw _ (List.mem_of_getElem? (i := 27) rfl)) (hw _ (List.mem_of_getElem? (i := 3) rfl)) (hw _ (List.mem_of_getElem? (i := 29) rfl)) (by decide) rfl (m_4_3 l Z a0 hw n0 [] _ _ _ (upd (upd (upd (fun _ => 0) 0 l5) 1 l6) 2 l7) (upd (upd (upd (fun _ => 0) 0 l8) 1 l9) 2 l10) _ _) own_pd2 rfl rfl (Nat.le_of_ble_eq_true rfl) (Nat.le_of_ble_eq_true rfl) (Nat.le_of_ble_eq_true rfl) (Nat.le_of_ble_eq_true rfl) (by rintro _ _ ⟨rfl, rfl⟩; simp only [CTab_len, Nat.add_zero]) ?_
                rintro _ _ ⟨rfl, rfl⟩
                rw [hc184_4]
                rw [CTab_split]
                generalize CTl n0 3 8 _ _ _ _ _ _ = tl
                refine G.istore11 at_187 rfl ?_
                refine G.iload at_189 rfl ?_
                refine G.if_ne 205 at_191 (by decide) rfl (fun _ => ?_) (fun h191 => absurd h191 (by decide))
                refine G.iload at_205 rfl ?_
                refine G.if_lt 217 at_207 (by decide) rfl (fun h207 => absurd h207 (by decide)) (fun _ => ?_)
                refine G.iload at_210 rfl ?_
                refine G.iload at_212 rfl ?_
                refine G.icmp_lt 219 at_214 (by decide) rfl (fun _ => ?_) (fun h214 => absurd h214 (by decide))
                refine G.iload at_219 rfl ?_
                refine G.if_eq 239 at_221 (by decide) rfl (fun h221 => absurd h221 (by decide)) (fun _ => ?_)
                refine G.aload at_224 rfl rfl ?_
                refine G.aload at_226 rfl rfl ?_
                refine G.iconst (0) at_228 rfl ?_
                refine G.iload at_229 rfl ?_
                refine G.scall [_, _, _, _] rfl at_231 (hw _ (List.mem_of_getElem? (i := 47) rfl)) (hw _ (List.mem_of_getElem? (i := 48) rfl)) (hw _ (List.mem_of_getElem? (i := 49) rfl)) (hw _ (List.mem_of_getElem? (i := 50) rfl)) (by decide) (m_8_01 l Z a0 hw n0 [] l5 l6 l7 l8 l9 l10 tl) own_pd6 rfl rfl (Nat.le_of_ble_eq_true rfl) (Nat.le_of_ble_eq_true rfl) (Nat.le_of_ble_eq_true rfl) (Nat.le_of_ble_eq_true rfl) (by rintro _ _ ⟨rfl, rfl⟩; rfl) ?_
                rintro _ _ ⟨rfl, rfl⟩
                refine G.if_eq 239 at_234 (by decide) rfl (fun h234 => ?_) (fun h234 => ?_)
                · replace he := he.trans (if_pos h234)
                  refine G.iload at_239 rfl ?_
                  refine G.iconst (2) at_241 rfl ?_
                  refine G.icmp_lt 266 at_242 (by decide) rfl (fun h242 => absurd h242 (by decide)) (fun _ => ?_)
                  refine G.iload at_245 rfl ?_
                  refine G.iconst (1) at_247 rfl ?_
                  refine G.icmp_eq 266 at_248 (by decide) rfl (fun _ => ?_) (fun h248 => absurd h248 (by decide))
                  refine G.iload at_266 rfl ?_
                  refine G.iconst (3) at_268 rfl ?_
                  refine G.icmp_lt 293 at_269 (by decide) rfl (fun h269 => absurd h269 (by decide)) (fun _ => ?_)
                  refine G.iload at_272 rfl ?_
                  refine G.iconst (2) at_274 rfl ?_
                  refine G.icmp_eq 293 at_275 (by decide) rfl (fun h275 => absurd h275 (by decide)) (fun _ => ?_)
                  refine G.aload at_278 rfl rfl ?_
                  refine G.aload at_280 rfl rfl ?_
                  refine G.iconst (2) at_282 rfl ?_
                  refine G.iload at_283 rfl ?_
                  refine G.scall [_, _, _, _] rfl at_285 (hw _ (List.mem_of_getElem? (i := 47) rfl)) (hw _ (List.mem_of_getElem? (i := 48) rfl)) (hw _ (List.mem_of_getElem? (i := 49) rfl)) (hw _ (List.mem_of_getElem? (i := 50) rfl)) (by decide) (m_8_21 l Z a0 hw n0 [] l5 l6 l7 l8 l9 l10 tl) own_pd6 rfl rfl (Nat.le_of_ble_eq_true rfl) (Nat.le_of_ble_eq_true rfl) (Nat.le_of_ble_eq_true rfl) (Nat.le_of_ble_eq_true rfl) (by rintro _ _ ⟨rfl, rfl⟩; rfl) ?_
                  rintro _ _ ⟨rfl, rfl⟩
                  refine G.if_eq 293 at_288 (by decide) rfl (fun h288 => ?_) (fun h288 => ?_)
                  · replace he := he.trans (if_pos h288)
                    refine G.iconst (1) at_293 rfl ?_
                    exact G.zreturn rfl at_294 rfl (Nat.le_of_ble_eq_true rfl) (Nat.le_of_ble_eq_true rfl) ⟨congrArg (fun z => some (Value.int z)) he.symm, trivial⟩
                  · replace he := he.trans (if_neg h288)
                    refine G.iconst (0) at_291 rfl ?_
                    exact G.zreturn rfl at_292 rfl (Nat.le_of_ble_eq_true rfl) (Nat.le_of_ble_eq_true rfl) ⟨congrArg (fun z => some (Value.int z)) he.symm, trivial⟩
                · replace he := he.trans (if_neg h234)
                  refine G.iconst (0) at_237 rfl ?_
                  exact G.zreturn rfl at_238 rfl (Nat.le_of_ble_eq_true rfl) (Nat.le_of_ble_eq_true rfl) ⟨congrArg (fun z => some (Value.int z)) he.symm, trivial⟩
              · replace he := he.trans (if_neg hc184_4)
                refine G.vcall [] rfl at_184 (hw _ (List.mem_of_getElem? (i := 25) rfl)) (hw _ (List.mem_of_getElem? (i := 26) rfl)) (hw _ (List.mem_of_getElem? (i := 28) rfl)) (hw _ (List.mem_of_getElem? (i := 27) rfl)) (hw _ (List.mem_of_getElem? (i := 3) rfl)) (hw _ (List.mem_of_getElem? (i := 29) rfl)) (by decide) rfl (m_4_3 l Z a0 hw n0 [] _ _ _ (upd (upd (upd (fun _ => 0) 0 l5) 1 l6) 2 l7) (upd (upd (upd (fun _ => 0) 0 l8) 1 l9) 2 l10) _ _) own_pd2 rfl rfl (Nat.le_of_ble_eq_true rfl) (Nat.le_of_ble_eq_true rfl) (Nat.le_of_ble_eq_true rfl) (Nat.le_of_ble_eq_true rfl) (by rintro _ _ ⟨rfl, rfl⟩; simp only [CTab_len, Nat.add_zero]) ?_
                rintro _ _ ⟨rfl, rfl⟩
                rw [((own_mc3_r (upd (upd (upd (fun _ => 0) 0 l5) 1 l6) 2 l7) (upd (upd (upd (fun _ => 0) 0 l8) 1 l9) 2 l10)).resolve_left hc184_3).resolve_left hc184_4]
                rw [CTab_split]
                generalize CTl n0 3 8 _ _ _ _ _ _ = tl
                refine G.istore11 at_187 rfl ?_
                refine G.iload at_189 rfl ?_
                refine G.if_ne 205 at_191 (by decide) rfl (fun _ => ?_) (fun h191 => absurd h191 (by decide))
                refine G.iload at_205 rfl ?_
                refine G.if_lt 217 at_207 (by decide) rfl (fun h207 => absurd h207 (by decide)) (fun _ => ?_)
                refine G.iload at_210 rfl ?_
                refine G.iload at_212 rfl ?_
                refine G.icmp_lt 219 at_214 (by decide) rfl (fun _ => ?_) (fun h214 => absurd h214 (by decide))
                refine G.iload at_219 rfl ?_
                refine G.if_eq 239 at_221 (by decide) rfl (fun h221 => absurd h221 (by decide)) (fun _ => ?_)
                refine G.aload at_224 rfl rfl ?_
                refine G.aload at_226 rfl rfl ?_
                refine G.iconst (0) at_228 rfl ?_
                refine G.iload at_229 rfl ?_
                refine G.scall [_, _, _, _] rfl at_231 (hw _ (List.mem_of_getElem? (i := 47) rfl)) (hw _ (List.mem_of_getElem? (i := 48) rfl)) (hw _ (List.mem_of_getElem? (i := 49) rfl)) (hw _ (List.mem_of_getElem? (i := 50) rfl)) (by decide) (m_8_02 l Z a0 hw n0 [] l5 l6 l7 l8 l9 l10 tl) own_pd6 rfl rfl (Nat.le_of_ble_eq_true rfl) (Nat.le_of_ble_eq_true rfl) (Nat.le_of_ble_eq_true rfl) (Nat.le_of_ble_eq_true rfl) (by rintro _ _ ⟨rfl, rfl⟩; rfl) ?_
                rintro _ _ ⟨rfl, rfl⟩
                refine G.if_eq 239 at_234 (by decide) rfl (fun h234 => ?_) (fun h234 => ?_)
                · replace he := he.trans (if_pos h234)
                  refine G.iload at_239 rfl ?_
                  refine G.iconst (2) at_241 rfl ?_
                  refine G.icmp_lt 266 at_242 (by decide) rfl (fun h242 => absurd h242 (by decide)) (fun _ => ?_)
                  refine G.iload at_245 rfl ?_
                  refine G.iconst (1) at_247 rfl ?_
                  refine G.icmp_eq 266 at_248 (by decide) rfl (fun h248 => absurd h248 (by decide)) (fun _ => ?_)
                  refine G.aload at_251 rfl rfl ?_
                  refine G.aload at_253 rfl rfl ?_
                  refine G.iconst (1) at_255 rfl ?_
                  refine G.iload at_256 rfl ?_
                  refine G.scall [_, _, _, _] rfl at_258 (hw _ (List.mem_of_getElem? (i := 47) rfl)) (hw _ (List.mem_of_getElem? (i := 48) rfl)) (hw _ (List.mem_of_getElem? (i := 49) rfl)) (hw _ (List.mem_of_getElem? (i := 50) rfl)) (by decide) (m_8_12 l Z a0 hw n0 [] l5 l6 l7 l8 l9 l10 tl) own_pd6 rfl rfl (Nat.le_of_ble_eq_true rfl) (Nat.le_of_ble_eq_true rfl) (Nat.le_of_ble_eq_true rfl) (Nat.le_of_ble_eq_true rfl) (by rintro _ _ ⟨rfl, rfl⟩; rfl) ?_
                  rintro _ _ ⟨rfl, rfl⟩
                  refine G.if_eq 266 at_261 (by decide) rfl (fun h261 => ?_) (fun h261 => ?_)
                  · replace he := he.trans (if_pos h261)
                    refine G.iload at_266 rfl ?_
                    refine G.iconst (3) at_268 rfl ?_
                    refine G.icmp_lt 293 at_269 (by decide) rfl (fun h269 => absurd h269 (by decide)) (fun _ => ?_)
                    refine G.iload at_272 rfl ?_
                    refine G.iconst (2) at_274 rfl ?_
                    refine G.icmp_eq 293 at_275 (by decide) rfl (fun _ => ?_) (fun h275 => absurd h275 (by decide))
                    refine G.iconst (1) at_293 rfl ?_
                    exact G.zreturn rfl at_294 rfl (Nat.le_of_ble_eq_true rfl) (Nat.le_of_ble_eq_true rfl) ⟨congrArg (fun z => some (Value.int z)) he.symm, trivial⟩
                  · replace he := he.trans (if_neg h261)
                    refine G.iconst (0) at_264 rfl ?_
                    exact G.zreturn rfl at_265 rfl (Nat.le_of_ble_eq_true rfl) (Nat.le_of_ble_eq_true rfl) ⟨congrArg (fun z => some (Value.int z)) he.symm, trivial⟩
                · replace he := he.trans (if_neg h234)
                  refine G.iconst (0) at_237 rfl ?_
                  exact G.zreturn rfl at_238 rfl (Nat.le_of_ble_eq_true rfl) (Nat.le_of_ble_eq_true rfl) ⟨congrArg (fun z => some (Value.int z)) he.symm, trivial⟩
          · replace he := he.trans (if_pos h107)
            refine G.iconst (1) at_110 rfl ?_
            exact G.zreturn rfl at_111 rfl (Nat.le_of_ble_eq_true rfl) (Nat.le_of_ble_eq_true rfl) ⟨congrArg (fun z => some (Value.int z)) he.symm, trivial⟩
      · replace he := he.trans (if_pos h77)
        refine G.iconst (1) at_80 rfl ?_
        exact G.zreturn rfl at_81 rfl (Nat.le_of_ble_eq_true rfl) (Nat.le_of_ble_eq_true rfl) ⟨congrArg (fun z => some (Value.int z)) he.symm, trivial⟩
  have he : own_law x0 x1 x2 x3 = own_law x0 x1 x2 x3 := rfl
  refine G.iload at_0 rfl ?_
  refine G.iconst (3) at_2 rfl ?_
  refine G.iand at_3 ?_
  refine G.istore7 at_4 rfl ?_
  refine G.iconst (3) at_6 rfl ?_
  refine G.newarr 3 3 at_7 (hw _ (List.mem_of_getElem? (i := 0) rfl)) (by decide) (Nat.le_of_ble_eq_true rfl) (by decide) (Nat.le_of_ble_eq_true rfl) (Nat.le_of_ble_eq_true rfl) rfl ?_
  try simp only [List.set_cons_zero, List.set_cons_succ, List.length_cons, List.length_nil, List.nil_append, List.cons_append, Nat.zero_add, Nat.reduceAdd]
  refine G.astore8 at_9 rfl rfl ?_
  refine G.iconst (3) at_11 rfl ?_
  refine G.newarr 3 3 at_12 (hw _ (List.mem_of_getElem? (i := 0) rfl)) (by decide) (Nat.le_of_ble_eq_true rfl) (by decide) (Nat.le_of_ble_eq_true rfl) (Nat.le_of_ble_eq_true rfl) rfl ?_
  try simp only [List.set_cons_zero, List.set_cons_succ, List.length_cons, List.length_nil, List.nil_append, List.cons_append, Nat.zero_add, Nat.reduceAdd]
  refine G.astore9 at_14 rfl rfl ?_
  refine G.aload at_16 rfl rfl ?_
  refine G.iconst (0) at_18 rfl ?_
  refine G.lloadN at_19 rfl ?_
  refine G.bipush (32) at_20 rfl ?_
  refine G.lushr at_22 ?_
  refine G.l2i at_23 ?_
  refine G.iast (0) at_24 rfl (by decide) (Nat.le_of_ble_eq_true rfl) ?_
  try simp only [List.set_cons_zero, List.set_cons_succ, List.length_cons, List.length_nil, List.nil_append, List.cons_append, Nat.zero_add, Nat.reduceAdd]
  refine G.aload at_25 rfl rfl ?_
  refine G.iconst (1) at_27 rfl ?_
  refine G.lloadN at_28 rfl ?_
  refine G.bipush (32) at_29 rfl ?_
  refine G.lushr at_31 ?_
  refine G.l2i at_32 ?_
  refine G.iast (1) at_33 rfl (by decide) (Nat.le_of_ble_eq_true rfl) ?_
  try simp only [List.set_cons_zero, List.set_cons_succ, List.length_cons, List.length_nil, List.nil_append, List.cons_append, Nat.zero_add, Nat.reduceAdd]
  refine G.aload at_34 rfl rfl ?_
  refine G.iconst (2) at_36 rfl ?_
  refine G.lload at_37 rfl ?_
  refine G.bipush (32) at_39 rfl ?_
  refine G.lushr at_41 ?_
  refine G.l2i at_42 ?_
  refine G.iast (2) at_43 rfl (by decide) (Nat.le_of_ble_eq_true rfl) ?_
  try simp only [List.set_cons_zero, List.set_cons_succ, List.length_cons, List.length_nil, List.nil_append, List.cons_append, Nat.zero_add, Nat.reduceAdd]
  refine G.aload at_44 rfl rfl ?_
  refine G.iconst (0) at_46 rfl ?_
  refine G.lloadN at_47 rfl ?_
  refine G.l2i at_48 ?_
  refine G.iast (0) at_49 rfl (by decide) (Nat.le_of_ble_eq_true rfl) ?_
  try simp only [List.set_cons_zero, List.set_cons_succ, List.length_cons, List.length_nil, List.nil_append, List.cons_append, Nat.zero_add, Nat.reduceAdd]
  refine G.aload at_50 rfl rfl ?_
  refine G.iconst (1) at_52 rfl ?_
  refine G.lloadN at_53 rfl ?_
  refine G.l2i at_54 ?_
  refine G.iast (1) at_55 rfl (by decide) (Nat.le_of_ble_eq_true rfl) ?_
  try simp only [List.set_cons_zero, List.set_cons_succ, List.length_cons, List.length_nil, List.nil_append, List.cons_append, Nat.zero_add, Nat.reduceAdd]
  refine G.aload at_56 rfl rfl ?_
  refine G.iconst (2) at_58 rfl ?_
  refine G.lload at_59 rfl ?_
  refine G.l2i at_61 ?_
  refine G.iast (2) at_62 rfl (by decide) (Nat.le_of_ble_eq_true rfl) ?_
  try simp only [List.set_cons_zero, List.set_cons_succ, List.length_cons, List.length_nil, List.nil_append, List.cons_append, Nat.zero_add, Nat.reduceAdd]
  exact J63 _ _ _ _ _ _ _ _ _ _ _ (own_four _) he
theorem own_p20_10 (c k : Int32 → Int32) (v2 k2 : Int32) (h : own_mc2 c k = 0) : own_bt10 (c 0) (c 1) v2 (k 0) (k 1) k2 = 0 := by
  unfold own_mc2 at h
  unfold own_bt10
  repeat' split at h
  all_goals first | exact absurd h (by decide) | skip
  all_goals repeat' split
  all_goals first | rfl | (exfalso; clear h; simp only [Int32.lt_iff_toInt_lt, ← Int32.toInt_inj] at *; omega)
theorem own_p21_01 (c k : Int32 → Int32) (v2 k2 : Int32) (h : own_mc2 c k = 1) : own_bt01 (c 0) (c 1) v2 (k 0) (k 1) k2 = 0 := by
  unfold own_mc2 at h
  unfold own_bt01
  repeat' split at h
  all_goals first | exact absurd h (by decide) | skip
  all_goals repeat' split
  all_goals first | rfl | (exfalso; clear h; simp only [Int32.lt_iff_toInt_lt, ← Int32.toInt_inj] at *; omega)
theorem own_p30_10 (c k : Int32 → Int32) (v2 k2 : Int32) (h : own_mc3 c k = 0) : own_bt10 (c 0) (c 1) (c 2) (k 0) (k 1) (k 2) = 0 := by
  unfold own_mc3 at h
  unfold own_bt10
  repeat' split at h
  all_goals first | exact absurd h (by decide) | skip
  all_goals repeat' split
  all_goals first | rfl | (exfalso; clear h; simp only [Int32.lt_iff_toInt_lt, ← Int32.toInt_inj] at *; omega)
theorem own_p30_20 (c k : Int32 → Int32) (v2 k2 : Int32) (h : own_mc3 c k = 0) : own_bt20 (c 0) (c 1) (c 2) (k 0) (k 1) (k 2) = 0 := by
  unfold own_mc3 at h
  unfold own_bt20
  repeat' split at h
  all_goals first | exact absurd h (by decide) | skip
  all_goals repeat' split
  all_goals first | rfl | (exfalso; clear h; simp only [Int32.lt_iff_toInt_lt, ← Int32.toInt_inj] at *; omega)
theorem own_p31_01 (c k : Int32 → Int32) (v2 k2 : Int32) (h : own_mc3 c k = 1) : own_bt01 (c 0) (c 1) (c 2) (k 0) (k 1) (k 2) = 0 := by
  unfold own_mc3 at h
  unfold own_bt01
  repeat' split at h
  all_goals first | exact absurd h (by decide) | skip
  all_goals repeat' split
  all_goals first | rfl | (exfalso; clear h; simp only [Int32.lt_iff_toInt_lt, ← Int32.toInt_inj] at *; omega)
theorem own_p31_21 (c k : Int32 → Int32) (v2 k2 : Int32) (h : own_mc3 c k = 1) : own_bt21 (c 0) (c 1) (c 2) (k 0) (k 1) (k 2) = 0 := by
  unfold own_mc3 at h
  unfold own_bt21
  repeat' split at h
  all_goals first | exact absurd h (by decide) | skip
  all_goals repeat' split
  all_goals first | rfl | (exfalso; clear h; simp only [Int32.lt_iff_toInt_lt, ← Int32.toInt_inj] at *; omega)
theorem own_p32_02 (c k : Int32 → Int32) (v2 k2 : Int32) (h : own_mc3 c k = 2) : own_bt02 (c 0) (c 1) (c 2) (k 0) (k 1) (k 2) = 0 := by
  unfold own_mc3 at h
  unfold own_bt02
  repeat' split at h
  all_goals first | exact absurd h (by decide) | skip
  all_goals repeat' split
  all_goals first | rfl | (exfalso; clear h; simp only [Int32.lt_iff_toInt_lt, ← Int32.toInt_inj] at *; omega)
theorem own_p32_12 (c k : Int32 → Int32) (v2 k2 : Int32) (h : own_mc3 c k = 2) : own_bt12 (c 0) (c 1) (c 2) (k 0) (k 1) (k 2) = 0 := by
  unfold own_mc3 at h
  unfold own_bt12
  repeat' split at h
  all_goals first | exact absurd h (by decide) | skip
  all_goals repeat' split
  all_goals first | rfl | (exfalso; clear h; simp only [Int32.lt_iff_toInt_lt, ← Int32.toInt_inj] at *; omega)
theorem own_u20 (f : Int32 → Int32) (a b : Int32) : upd (upd f 0 a) 1 b 0 = a := by simp [upd]
theorem own_u21 (f : Int32 → Int32) (a b : Int32) : upd (upd f 0 a) 1 b 1 = b := by simp [upd]
theorem own_u30 (f : Int32 → Int32) (a b c : Int32) : upd (upd (upd f 0 a) 1 b) 2 c 0 = a := by simp [upd]
theorem own_u31 (f : Int32 → Int32) (a b c : Int32) : upd (upd (upd f 0 a) 1 b) 2 c 1 = b := by simp [upd]
theorem own_u32 (f : Int32 → Int32) (a b c : Int32) : upd (upd (upd f 0 a) 1 b) 2 c 2 = c := by simp [upd]
theorem own_law63_one (l0 l1 l2 : Int64) (l3 l4 l5 l6 l7 l8 l9 l10 : Int32) : own_law_63 l0 l1 l2 l3 l4 l5 l6 l7 l8 l9 l10 = 1 := by
  have a0 : own_mc2 (upd (upd (fun _ => 0) 0 l5) 1 l6) (upd (upd (fun _ => 0) 0 l8) 1 l9) = 0 → own_bt10 l5 l6 l7 l8 l9 l10 = 0 := fun h => (by have q := own_p20_10 (upd (upd (fun _ => 0) 0 l5) 1 l6) (upd (upd (fun _ => 0) 0 l8) 1 l9) l7 l10 (h); simp only [own_u20, own_u21] at q; exact q)
  have a1 : ¬ own_mc2 (upd (upd (fun _ => 0) 0 l5) 1 l6) (upd (upd (fun _ => 0) 0 l8) 1 l9) = 0 → own_bt01 l5 l6 l7 l8 l9 l10 = 0 := fun h => (by have q := own_p21_01 (upd (upd (fun _ => 0) 0 l5) 1 l6) (upd (upd (fun _ => 0) 0 l8) 1 l9) l7 l10 (((own_mc2_r _ _).resolve_left h)); simp only [own_u20, own_u21] at q; exact q)
  have b0 : own_mc3 (upd (upd (upd (fun _ => 0) 0 l5) 1 l6) 2 l7) (upd (upd (upd (fun _ => 0) 0 l8) 1 l9) 2 l10) = 0 → own_bt10 l5 l6 l7 l8 l9 l10 = 0 ∧ own_bt20 l5 l6 l7 l8 l9 l10 = 0 := fun h => ⟨(by have q := own_p30_10 (upd (upd (upd (fun _ => 0) 0 l5) 1 l6) 2 l7) (upd (upd (upd (fun _ => 0) 0 l8) 1 l9) 2 l10) l7 l10 (h); simp only [own_u30, own_u31, own_u32] at q; exact q), (by have q := own_p30_20 (upd (upd (upd (fun _ => 0) 0 l5) 1 l6) 2 l7) (upd (upd (upd (fun _ => 0) 0 l8) 1 l9) 2 l10) l7 l10 (h); simp only [own_u30, own_u31, own_u32] at q; exact q)⟩
  have b1 : own_mc3 (upd (upd (upd (fun _ => 0) 0 l5) 1 l6) 2 l7) (upd (upd (upd (fun _ => 0) 0 l8) 1 l9) 2 l10) = 1 → own_bt01 l5 l6 l7 l8 l9 l10 = 0 ∧ own_bt21 l5 l6 l7 l8 l9 l10 = 0 := fun h => ⟨(by have q := own_p31_01 (upd (upd (upd (fun _ => 0) 0 l5) 1 l6) 2 l7) (upd (upd (upd (fun _ => 0) 0 l8) 1 l9) 2 l10) l7 l10 (h); simp only [own_u30, own_u31, own_u32] at q; exact q), (by have q := own_p31_21 (upd (upd (upd (fun _ => 0) 0 l5) 1 l6) 2 l7) (upd (upd (upd (fun _ => 0) 0 l8) 1 l9) 2 l10) l7 l10 (h); simp only [own_u30, own_u31, own_u32] at q; exact q)⟩
  have b2 : ¬ own_mc3 (upd (upd (upd (fun _ => 0) 0 l5) 1 l6) 2 l7) (upd (upd (upd (fun _ => 0) 0 l8) 1 l9) 2 l10) = 0 → ¬ own_mc3 (upd (upd (upd (fun _ => 0) 0 l5) 1 l6) 2 l7) (upd (upd (upd (fun _ => 0) 0 l8) 1 l9) 2 l10) = 1 → own_bt02 l5 l6 l7 l8 l9 l10 = 0 ∧ own_bt12 l5 l6 l7 l8 l9 l10 = 0 := fun h h' => have e := ((own_mc3_r _ _).resolve_left h).resolve_left h'; ⟨(by have q := own_p32_02 (upd (upd (upd (fun _ => 0) 0 l5) 1 l6) 2 l7) (upd (upd (upd (fun _ => 0) 0 l8) 1 l9) 2 l10) l7 l10 (e); simp only [own_u30, own_u31, own_u32] at q; exact q), (by have q := own_p32_12 (upd (upd (upd (fun _ => 0) 0 l5) 1 l6) 2 l7) (upd (upd (upd (fun _ => 0) 0 l8) 1 l9) 2 l10) l7 l10 (e); simp only [own_u30, own_u31, own_u32] at q; exact q)⟩
  unfold own_law_63
  have c2 : (if own_mc2 (upd (upd (fun _ => 0) 0 l5) 1 l6) (upd (upd (fun _ => 0) 0 l8) 1 l9) = 0 then (if own_bt10 l5 l6 l7 l8 l9 l10 = 0 then (1 : Int32) else 0) else (if own_bt01 l5 l6 l7 l8 l9 l10 = 0 then 1 else 0)) = 1 := by
    by_cases h : own_mc2 (upd (upd (fun _ => 0) 0 l5) 1 l6) (upd (upd (fun _ => 0) 0 l8) 1 l9) = 0
    · rw [if_pos h, if_pos (a0 h)]
    · rw [if_neg h, if_pos (a1 h)]
  have c3 : (if own_mc3 (upd (upd (upd (fun _ => 0) 0 l5) 1 l6) 2 l7) (upd (upd (upd (fun _ => 0) 0 l8) 1 l9) 2 l10) = 0 then (if own_bt10 l5 l6 l7 l8 l9 l10 = 0 then (if own_bt20 l5 l6 l7 l8 l9 l10 = 0 then (1 : Int32) else 0) else 0) else (if own_mc3 (upd (upd (upd (fun _ => 0) 0 l5) 1 l6) 2 l7) (upd (upd (upd (fun _ => 0) 0 l8) 1 l9) 2 l10) = 1 then (if own_bt01 l5 l6 l7 l8 l9 l10 = 0 then (if own_bt21 l5 l6 l7 l8 l9 l10 = 0 then 1 else 0) else 0) else (if own_bt02 l5 l6 l7 l8 l9 l10 = 0 then (if own_bt12 l5 l6 l7 l8 l9 l10 = 0 then 1 else 0) else 0))) = 1 := by
    by_cases h : own_mc3 (upd (upd (upd (fun _ => 0) 0 l5) 1 l6) 2 l7) (upd (upd (upd (fun _ => 0) 0 l8) 1 l9) 2 l10) = 0
    · rw [if_pos h, if_pos (b0 h).1, if_pos (b0 h).2]
    · rw [if_neg h]
      by_cases h' : own_mc3 (upd (upd (upd (fun _ => 0) 0 l5) 1 l6) 2 l7) (upd (upd (upd (fun _ => 0) 0 l8) 1 l9) 2 l10) = 1
      · rw [if_pos h', if_pos (b1 h').1, if_pos (b1 h').2]
      · rw [if_neg h', if_pos (b2 h h').1, if_pos (b2 h h').2]
  rw [c2, c3]
  simp only [ite_self]
theorem own_law_one (x0 x1 x2 : Int64) (x3 : Int32) : own_law x0 x1 x2 x3 = 1 := own_law63_one _ _ _ _ _ _ _ _ _ _ _
set_option maxRecDepth 65536 in
set_option maxHeartbeats 40000000 in
theorem comes_1 {Post : Tables → Env → Array Value → State → Outcome → State → Prop} (hpost : ∀ tb e args s v u, (limb_1_1.after args s (.returned v) u = true ∧ limb_1_2.after args s (.returned v) u = true ∧ True) → FrameEnd s (.returned v) u (Jvm.fieldLocs frame_1_writes args s ++ Jvm.arrayLocs frame_1_arrays args s ++ Jvm.staticLocs frame_1_statics s) 24 128 → Post tb e args s (.returned v) u) :
    ArmFor flags0 classFile x code maxLocals ret World_1 tables_1 room_1 Calls_1 rest_1 Pre_1 Post := by
  intro l hfl _ _ p e ha hc hk s m args below hf hA hF happ hP
  obtain ⟨hcalls, hrest, hpre⟩ := hP
  obtain ⟨-, -, -, hnamed, -, -, -, hat⟩ := (Spec.applies_iff hf).mp happ
  obtain ⟨hg, hn⟩ := and_e (Cond.before_iff.mp (show (Jvm.Cond.and given_1 narrow_1).before args s = true from hpre))
  obtain ⟨hcnt, g0⟩ := and_e hg
  obtain ⟨w0, w1, w2, w3, rfl⟩ : ∃ w0 w1 w2 w3 : Value, args = #[w0, w1, w2, w3] := by
    have hs : args.size = 4 := by simpa [Cond.value, given_1] using hcnt
    obtain ⟨L⟩ := args
    match L, hs with
    | [w0, w1, w2, w3], _ => exact ⟨w0, w1, w2, w3, rfl⟩
  have hw := fun d (hd : d ∈ tables_1) => atoms_spec (ws := Jvm.Cond.code x code maxLocals ret :: tables_1) hat d (List.mem_cons_of_mem _ hd)
  obtain ⟨t0, g1⟩ := and_e g0
  obtain ⟨i0, ei0⟩ := isL_v t0
  obtain rfl : w0 = (.long i0) := Option.some.inj ei0
  obtain ⟨t1, g2⟩ := and_e g1
  obtain ⟨i1, ei1⟩ := isL_v t1
  obtain rfl : w1 = (.long i1) := Option.some.inj ei1
  obtain ⟨t2, g3⟩ := and_e g2
  obtain ⟨i2, ei2⟩ := isL_v t2
  obtain rfl : w2 = (.long i2) := Option.some.inj ei2
  have t3 := g3
  obtain ⟨i3, ei3⟩ := is_v t3
  obtain rfl : w3 = (.int i3) := Option.some.inj ei3
  obtain ⟨n, o, h1, h2, h3, _, L, rfl, ⟨N, A', ⟨e1, -⟩, -⟩, hq⟩ := (m_0 l s _ hw s.heap.size tables_1 i0 i1 i2 i3 ) s.heap (Rep.nil _ _ _) p e ha hc hk s m _ below hf ((Spec.applies_iff_loose hf).mp happ).1 ⟨rfl, State.Warmed39.refl s, rfl⟩ trivial
  rw [own_law_one] at e1
  subst e1
  refine ⟨n, _, h1, h2, h3, hpost _ _ _ _ _ _ ⟨Cond.after_iff.mpr rfl, Cond.after_iff.mpr (eq_i res_at (Term.int_eval (1)) rfl), trivial⟩ ⟨hq.1, hq.2.1, (hq.2.2.sift fun y hy => Or.inr (N y hy)).mono (by decide) (by decide)⟩⟩
theorem main_1_1 : Claimed_1_1 := comes_1 fun _ _ _ _ _ _ h hF => ⟨h.1, hF⟩
theorem main_1_2 : Claimed_1_2 := comes_1 fun _ _ _ _ _ _ h hF => ⟨h.2.1, hF⟩
end Jvm.Pilot.@@N@@
namespace Jvm.Pilot.@@N@@
open Jvm Jvm.ClassFile Sem Op Lib Jvm.Free Jvm.Stand Jvm.Pilot.@@N@@.Jvm.D
/-! MADE BY PROGRAM (witnessworld.py) out of the Statement's table words and the real class files: 14 classes; the members and pool entries that the words name. The judged class is class 1, her method 2. -/
namespace start1
open Jvm.ClassFile
def u (s : String) : CpInfo := .utf8 (stringToUtf16 s)
/-- a pool by its gaps: so many unusable entries, then the entry; so many at the end -/
def gap : Nat → List CpInfo → List CpInfo
  | 0, r => r
  | n + 1, r => .unusable :: gap n r
def poolList (es : List (Nat × CpInfo)) (last : Nat) : List CpInfo := es.foldr (fun e r => gap e.1 (e.2 :: r)) (gap last [])
def pool (es : List (Nat × CpInfo)) (last : Nat) : Array CpInfo := ⟨poolList es last⟩
def fileOf (pool : Array CpInfo) (this : Nat) (attrs : Array Attribute := #[]) (ms : Array MethodInfo := #[]) (fl : Nat := 33) (sup : Nat := 0) (ifs : Array Nat := #[]) (fds : Array FieldInfo := #[]) : ClassFile where
  minorVersion := 0
  majorVersion := 65
  constantPool := pool
  accessFlags := fl
  thisClass := this
  superClass := sup
  interfaces := ifs
  fields := fds
  methods := ms
  attributes := attrs
def plain (name : String) (sup : Option ClassId) : Class where
  name := name
  kind := .ordinary
  loader := none
  accessFlags := 33
  super := sup
  interfaces := #[]
  cf := none
  fields := #[]
  methods := #[]
  instanceTypes := #[]
  staticTypes := #[]
  resolved := #[]
  callSites := []
  init := .initialized
  statics := none
  mirror := none

def pool0 : Array CpInfo := pool [(5, u "<init>"), (0, u "()V"), (1, .class_ 10), (1, u "java/lang/Object")] 113

def k0c0 : Code := { maxStack := 0, maxLocals := 1, code := object_method_1_code, exceptionTable := #[], attributes := #[] }
def k0m0 : Method := { name := "<init>", desc := "()V", sig := { parameters := [], returnType := none }, accessFlags := 1, code := some k0c0 }
/-- java/lang/Object -/
def k0 : Class := { plain "java/lang/Object" none with
  accessFlags := 33
  interfaces := #[]
  cf := some (fileOf pool0 8 #[] #[{ accessFlags := 1, nameIndex := 5, descriptorIndex := 6, attributes := #[] }] 33 0 #[] #[])
  fields := #[]
  methods := #[k0m0]
  instanceTypes := #[]
  staticTypes := #[]
  resolved := Array.replicate 124 none
  statics := none }

def pool1 : Array CpInfo := pool [(2, .class_ 4), (1, u "java/lang/Object"), (0, u "<init>"), (0, u "()V"), (0, .class_ 8), (0, u "org/glasspane/ColourTable"), (0, .methodref 7 10), (0, .nameAndType 5 11), (0, u "(I)V"), (0, .methodref 7 13), (0, .nameAndType 14 15), (0, u "add"), (0, u "(II)Z"), (0, .methodref 7 17), (0, .nameAndType 18 19), (0, u "mostCommon"), (0, u "()I"), (0, .methodref 21 22), (0, .class_ 23), (0, .nameAndType 24 25), (0, u "org/glasspane/ColourTableMostCommonPinLaw"), (0, u "beats"), (0, u "([I[III)Z"), (3, u "law"), (0, u "(JJJI)Z")] 4

def k1m0 : Method := { name := "<init>", desc := "()V", sig := { parameters := [], returnType := none }, accessFlags := 1, code := none }
def k1c1 : Code := { maxStack := 3, maxLocals := 4, code := method_2_code, exceptionTable := #[], attributes := #[] }
def k1m1 : Method := { name := "beats", desc := "([I[III)Z", sig := { parameters := [(.array .int), (.array .int), .int, .int], returnType := some .boolean }, accessFlags := 10, code := some k1c1 }
def k1c2 : Code := { maxStack := 5, maxLocals := 12, code := code, exceptionTable := #[], attributes := #[] }
def k1m2 : Method := { name := "law", desc := "(JJJI)Z", sig := { parameters := [.long, .long, .long, .int], returnType := some .boolean }, accessFlags := 9, code := some k1c2 }
/-- org/glasspane/ColourTableMostCommonPinLaw -/
def k1 : Class := { plain "org/glasspane/ColourTableMostCommonPinLaw" (some 0) with
  accessFlags := 49
  interfaces := #[]
  cf := some (fileOf pool1 21 #[] #[{ accessFlags := 1, nameIndex := 5, descriptorIndex := 6, attributes := #[] }, { accessFlags := 10, nameIndex := 24, descriptorIndex := 25, attributes := #[] }, { accessFlags := 9, nameIndex := 29, descriptorIndex := 30, attributes := #[] }] 49 2 #[] #[])
  fields := #[]
  methods := #[k1m0, k1m1, k1m2]
  instanceTypes := #[]
  staticTypes := #[]
  resolved := Array.replicate 35 none
  statics := none }

def pool2 : Array CpInfo := pool [(1, .methodref 2 3), (0, .class_ 4), (0, .nameAndType 5 6), (0, u "java/lang/Object"), (0, u "<init>"), (0, u "()V"), (0, .fieldref 8 9), (0, .class_ 10), (0, .nameAndType 11 12), (0, u "org/glasspane/ColourTable"), (0, u "colours"), (0, u "[I"), (0, .fieldref 8 14), (0, .nameAndType 15 12), (0, u "counts"), (0, .fieldref 8 17), (0, .nameAndType 18 12), (0, u "slotOf"), (0, .class_ 20), (0, u "java/lang/Integer"), (0, .methodref 19 22), (0, .nameAndType 23 24), (0, u "numberOfLeadingZeros"), (0, u "(I)I"), (0, .fieldref 8 26), (0, .nameAndType 27 12), (0, u "slots"), (0, .fieldref 8 29), (0, .nameAndType 30 31), (0, u "shift"), (0, u "I"), (0, .fieldref 8 33), (0, .nameAndType 34 31), (0, u "size"), (0, .methodref 8 36), (0, .nameAndType 37 38), (0, u "indexOfAdded"), (0, u "(II)I"), (0, .methodref 8 40), (0, .nameAndType 41 24), (0, u "slot"), (2, u "mostCommon"), (0, u "()I"), (6, .integer 2654435769), (0, u "(I)V"), (4, u "add"), (0, u "(II)Z")] 6

def k2c0 : Code := { maxStack := 3, maxLocals := 3, code := prog_5_method_1_code, exceptionTable := #[], attributes := #[] }
def k2m0 : Method := { name := "<init>", desc := "(I)V", sig := { parameters := [.int], returnType := none }, accessFlags := 0, code := some k2c0 }
def k2c1 : Code := { maxStack := 3, maxLocals := 3, code := prog_5_method_3_code, exceptionTable := #[], attributes := #[] }
def k2m1 : Method := { name := "add", desc := "(II)Z", sig := { parameters := [.int, .int], returnType := some .boolean }, accessFlags := 0, code := some k2c1 }
def k2c2 : Code := { maxStack := 5, maxLocals := 4, code := prog_5_method_4_code, exceptionTable := #[], attributes := #[] }
def k2m2 : Method := { name := "indexOfAdded", desc := "(II)I", sig := { parameters := [.int, .int], returnType := some .int }, accessFlags := 0, code := some k2c2 }
def k2c3 : Code := { maxStack := 3, maxLocals := 3, code := prog_5_method_8_code, exceptionTable := #[], attributes := #[] }
def k2m3 : Method := { name := "mostCommon", desc := "()I", sig := { parameters := [], returnType := some .int }, accessFlags := 0, code := some k2c3 }
def k2c4 : Code := { maxStack := 3, maxLocals := 3, code := prog_5_method_11_code, exceptionTable := #[], attributes := #[] }
def k2m4 : Method := { name := "slot", desc := "(I)I", sig := { parameters := [.int], returnType := some .int }, accessFlags := 2, code := some k2c4 }
/-- org/glasspane/ColourTable -/
def k2 : Class := { plain "org/glasspane/ColourTable" (some 0) with
  accessFlags := 48
  interfaces := #[]
  cf := some (fileOf pool2 8 #[] #[{ accessFlags := 0, nameIndex := 5, descriptorIndex := 53, attributes := #[] }, { accessFlags := 0, nameIndex := 58, descriptorIndex := 59, attributes := #[] }, { accessFlags := 0, nameIndex := 37, descriptorIndex := 38, attributes := #[] }, { accessFlags := 0, nameIndex := 44, descriptorIndex := 45, attributes := #[] }, { accessFlags := 2, nameIndex := 41, descriptorIndex := 24, attributes := #[] }] 48 2 #[] #[{ accessFlags := 18, nameIndex := 11, descriptorIndex := 12, attributes := #[] }, { accessFlags := 18, nameIndex := 15, descriptorIndex := 12, attributes := #[] }, { accessFlags := 18, nameIndex := 27, descriptorIndex := 12, attributes := #[] }, { accessFlags := 18, nameIndex := 18, descriptorIndex := 12, attributes := #[] }, { accessFlags := 18, nameIndex := 30, descriptorIndex := 31, attributes := #[] }, { accessFlags := 2, nameIndex := 34, descriptorIndex := 31, attributes := #[] }])
  fields := #[{ name := "colours", type := (.array .int), accessFlags := 18, slot := 0, constantValue := 0 }, { name := "counts", type := (.array .int), accessFlags := 18, slot := 1, constantValue := 0 }, { name := "slots", type := (.array .int), accessFlags := 18, slot := 2, constantValue := 0 }, { name := "slotOf", type := (.array .int), accessFlags := 18, slot := 3, constantValue := 0 }, { name := "shift", type := .int, accessFlags := 18, slot := 4, constantValue := 0 }, { name := "size", type := .int, accessFlags := 2, slot := 5, constantValue := 0 }]
  methods := #[k2m0, k2m1, k2m2, k2m3, k2m4]
  instanceTypes := #[(.array .int), (.array .int), (.array .int), (.array .int), .int, .int]
  staticTypes := #[]
  resolved := Array.replicate 66 none
  statics := none }

def pool3 : Array CpInfo := pool [(1, .class_ 2), (0, u "java/io/Serializable"), (0, .class_ 4), (0, u "java/lang/Object")] 2

/-- java/io/Serializable -/
def k3 : Class := { plain "java/io/Serializable" (some 0) with
  accessFlags := 1537
  interfaces := #[]
  cf := some (fileOf pool3 1 #[] #[] 1537 3 #[] #[])
  fields := #[]
  methods := #[]
  instanceTypes := #[]
  staticTypes := #[]
  resolved := Array.replicate 7 none
  statics := none }

def pool4 : Array CpInfo := pool [(2, .class_ 4), (1, u "java/lang/Object"), (0, u "<init>"), (0, u "()V"), (1, .class_ 10), (1, u "java/lang/Number"), (2, .class_ 14), (0, u "java/io/Serializable"), (0, u "serialVersionUID"), (0, u "J")] 20

def k4m0 : Method := { name := "<init>", desc := "()V", sig := { parameters := [], returnType := none }, accessFlags := 1, code := none }
/-- java/lang/Number -/
def k4 : Class := { plain "java/lang/Number" (some 0) with
  accessFlags := 1057
  interfaces := #[3]
  cf := some (fileOf pool4 8 #[] #[{ accessFlags := 1, nameIndex := 5, descriptorIndex := 6, attributes := #[] }] 1057 2 #[13] #[{ accessFlags := 26, nameIndex := 15, descriptorIndex := 16, attributes := #[] }])
  fields := #[{ name := "serialVersionUID", type := .long, accessFlags := 26, slot := 0, constantValue := 0 }]
  methods := #[k4m0]
  instanceTypes := #[]
  staticTypes := #[.long]
  resolved := Array.replicate 37 none
  statics := none }

def pool5 : Array CpInfo := pool [(1, .class_ 2), (0, u "java/lang/Comparable"), (0, .class_ 4), (0, u "java/lang/Object")] 7

/-- java/lang/Comparable -/
def k5 : Class := { plain "java/lang/Comparable" (some 0) with
  accessFlags := 1537
  interfaces := #[]
  cf := some (fileOf pool5 1 #[] #[] 1537 3 #[] #[])
  fields := #[]
  methods := #[]
  instanceTypes := #[]
  staticTypes := #[]
  resolved := Array.replicate 12 none
  statics := none }

def pool6 : Array CpInfo := pool [(1, .class_ 2), (0, u "java/lang/constant/Constable"), (0, .class_ 4), (0, u "java/lang/Object")] 6

/-- java/lang/constant/Constable -/
def k6 : Class := { plain "java/lang/constant/Constable" (some 0) with
  accessFlags := 1537
  interfaces := #[]
  cf := some (fileOf pool6 1 #[] #[] 1537 3 #[] #[])
  fields := #[]
  methods := #[]
  instanceTypes := #[]
  staticTypes := #[]
  resolved := Array.replicate 11 none
  statics := none }

def pool7 : Array CpInfo := pool [(1, .class_ 2), (0, u "java/lang/constant/ConstantDesc"), (0, .class_ 4), (0, u "java/lang/Object")] 32

/-- java/lang/constant/ConstantDesc -/
def k7 : Class := { plain "java/lang/constant/ConstantDesc" (some 0) with
  accessFlags := 1537
  interfaces := #[]
  cf := some (fileOf pool7 1 #[] #[] 1537 3 #[] #[])
  fields := #[]
  methods := #[]
  instanceTypes := #[]
  staticTypes := #[]
  resolved := Array.replicate 37 none
  statics := none }

def pool8 : Array CpInfo := pool [(1, .class_ 2), (0, u "java/lang/Integer"), (16, u "digits"), (0, u "[C"), (32, u "numberOfLeadingZeros"), (0, u "(I)I"), (30, u "DigitOnes"), (0, u "[B"), (2, u "DigitTens"), (99, .class_ 190), (0, u "java/lang/Integer$IntegerCache"), (3, u "I"), (8, .class_ 204), (0, u "java/lang/Number"), (2, u "value"), (56, .integer 65536), (37, u "TYPE"), (0, u "Ljava/lang/Class;"), (0, .class_ 305), (0, u "java/lang/Comparable"), (0, .class_ 307), (0, u "java/lang/constant/Constable"), (0, .class_ 309), (0, u "java/lang/constant/ConstantDesc"), (0, u "MIN_VALUE"), (1, u "MAX_VALUE"), (3, u "SIZE"), (1, u "BYTES"), (1, u "serialVersionUID"), (0, u "J")] 131

def k8c0 : Code := { maxStack := 3, maxLocals := 2, code := jdk_33_method_47_code, exceptionTable := #[], attributes := #[] }
def k8m0 : Method := { name := "numberOfLeadingZeros", desc := "(I)I", sig := { parameters := [.int], returnType := some .int }, accessFlags := 9, code := some k8c0 }
/-- java/lang/Integer -/
def k8 : Class := { plain "java/lang/Integer" (some 4) with
  accessFlags := 49
  interfaces := #[5, 6, 7]
  cf := some (fileOf pool8 1 #[.nestMembers #[189]] #[{ accessFlags := 9, nameIndex := 53, descriptorIndex := 54, attributes := #[] }] 49 203 #[304, 306, 308] #[{ accessFlags := 25, nameIndex := 310, descriptorIndex := 194, attributes := #[] }, { accessFlags := 25, nameIndex := 312, descriptorIndex := 194, attributes := #[] }, { accessFlags := 25, nameIndex := 302, descriptorIndex := 303, attributes := #[] }, { accessFlags := 24, nameIndex := 19, descriptorIndex := 20, attributes := #[] }, { accessFlags := 24, nameIndex := 89, descriptorIndex := 86, attributes := #[] }, { accessFlags := 24, nameIndex := 85, descriptorIndex := 86, attributes := #[] }, { accessFlags := 18, nameIndex := 207, descriptorIndex := 194, attributes := #[] }, { accessFlags := 25, nameIndex := 316, descriptorIndex := 194, attributes := #[] }, { accessFlags := 25, nameIndex := 318, descriptorIndex := 194, attributes := #[] }, { accessFlags := 26, nameIndex := 320, descriptorIndex := 321, attributes := #[] }])
  fields := #[{ name := "MIN_VALUE", type := .int, accessFlags := 25, slot := 0, constantValue := 0 }, { name := "MAX_VALUE", type := .int, accessFlags := 25, slot := 1, constantValue := 0 }, { name := "TYPE", type := (.object "java/lang/Class"), accessFlags := 25, slot := 2, constantValue := 0 }, { name := "digits", type := (.array .char), accessFlags := 24, slot := 3, constantValue := 0 }, { name := "DigitTens", type := (.array .byte), accessFlags := 24, slot := 4, constantValue := 0 }, { name := "DigitOnes", type := (.array .byte), accessFlags := 24, slot := 5, constantValue := 0 }, { name := "value", type := .int, accessFlags := 18, slot := 0, constantValue := 0 }, { name := "SIZE", type := .int, accessFlags := 25, slot := 6, constantValue := 0 }, { name := "BYTES", type := .int, accessFlags := 25, slot := 7, constantValue := 0 }, { name := "serialVersionUID", type := .long, accessFlags := 26, slot := 8, constantValue := 0 }]
  methods := #[k8m0]
  instanceTypes := #[.int]
  staticTypes := #[.int, .int, (.object "java/lang/Class"), (.array .char), (.array .byte), (.array .byte), .int, .int, .long]
  resolved := Array.replicate 453 none
  statics := none }

def pool9 : Array CpInfo := pool [(1, u "java/lang/Cloneable"), (0, .class_ 1), (0, u "java/lang/Object"), (0, .class_ 3)] 3

/-- java/lang/Cloneable -/
def k9 : Class := { plain "java/lang/Cloneable" (some 0) with
  accessFlags := 1537
  interfaces := #[]
  cf := some (fileOf pool9 2 #[] #[] 1537 4 #[] #[])
  fields := #[]
  methods := #[]
  instanceTypes := #[]
  staticTypes := #[]
  resolved := Array.replicate 8 none
  statics := none }

/-- the primitive byte -/
def k10 : Class := { plain "byte" none with kind := .primitive 'B', accessFlags := 0x411 }
/-- [B -/
def k11 : Class := { plain "[B" (some 0) with kind := .array 10 .byte, interfaces := #[9, 3], accessFlags := 1041 }

/-- the primitive int -/
def k12 : Class := { plain "int" none with kind := .primitive 'I', accessFlags := 0x411 }
/-- [I -/
def k13 : Class := { plain "[I" (some 0) with kind := .array 12 .int, interfaces := #[9, 3], accessFlags := 1041 }

def heap : Heap := #[]
def classes : Array Class := #[k0, k1, k2, k3, k4, k5, k6, k7, k8, k9, k10, k11, k12, k13]
def interned : List (Array UInt16 × Addr) := []
def slotsUsed : Nat := 0
def theMethod : MethodId := ⟨1, 2⟩
def args0 : Array Value := #[.long 5, .long 6, .long 7, .int 3]
def aboutOver (below : List Frame) : State where
  vm := { classes := classes, interned := interned.toArray }
  heap := heap
  slotsUsed := slotsUsed
  threads := #[{ frames := .invoking theMethod args0 :: below }]
def below0 : List Frame := [.native { method := ⟨0, 0⟩, args := #[] }]
def about1 : State := aboutOver below0
def p0 : Program := .bare "" "" ""
def e0 : Env := launch0.env 0 0 0
theorem w_frames : about1.frames = Frame.invoking theMethod args0 :: below0 := rfl
set_option maxRecDepth 65536 in
theorem w_args : argsFit about1.vm theMethod args0 = true := by decide +kernel
set_option maxRecDepth 65536 in
theorem w_heap : heapFits about1 = true := by decide +kernel
set_option maxRecDepth 65536 in
theorem w_runnable : about1.curStatus? = some .runnable := by decide +kernel
set_option maxRecDepth 65536 in
theorem w_alone : about1.alone = true := by decide +kernel
set_option maxRecDepth 65536 in
theorem w_named : about1.methodNamed? x = some theMethod := by decide +kernel
set_option maxRecDepth 65536 in
theorem w_hears : about1.hears theMethod below0 = true := by decide +kernel
set_option maxRecDepth 65536 in
theorem w_ripe : about1.ripe theMethod args0 below0 = true := by decide +kernel
theorem w_running : about1.status = .running := rfl
set_option maxRecDepth 65536 in
theorem w_room : about1.hasRoom e0.platform room_1 = true :=
  launch0.hasRoom_least _ room_1 (by decide +kernel) (by decide +kernel) (by decide +kernel) (by decide +kernel) (by decide +kernel) (by decide +kernel)
theorem allAtoms_all (ts : List Jvm.Cond) (a : Array Jvm.Value) (st : Jvm.State) : (allAtoms ts).before a st = ts.all (fun c => c.before a st) := by
  induction ts with
  | nil => rfl
  | cons c t ih =>
    show (Jvm.Cond.and c (allAtoms t)).before a st = _
    rw [Jvm.Cond.before_and, ih, List.all_cons]
def words1 : List Jvm.Cond := Jvm.Cond.code x code maxLocals ret :: tables_1
/-- a 'code' word, met by the world's own term for the bytes: nothing is compared byte by byte -/
theorem code_word {y : MethodName} {bytes : ByteArray} {mx : Nat} {rt : Option FieldType} {a : Array Value} {s : State} {m : MethodId} {meth : Method} {c : Code} (h1 : s.methodNamed? y = some m) (h2 : s.vm.method? m = some meth) (h3 : meth.code = some c) (h4 : c.code = bytes)
    (h5 : (c.maxLocals == mx && c.exceptionTable.isEmpty && decide (c.maxStack ≤ mostOperands) && decide (meth.sig.returnType = rt) && !meth.locks && decide (parseMethodDescriptor y.desc = some meth.sig)) = true) : (Jvm.Cond.code y bytes mx rt).before a s = true := by
  simp only [Bool.and_eq_true, beq_iff_eq, Bool.not_eq_true', decide_eq_true_eq] at h5
  obtain ⟨⟨⟨⟨⟨g1, g2⟩, g3⟩, g4⟩, g5⟩, g6⟩ := h5
  simp [Cond.before, Cond.holds, Cond.value, h1, h2, h3, h4, g1, g2, g3, g4, g5, g6]
def isCode : Jvm.Cond → Bool
  | .code _ _ _ _ => true
  | _ => false
theorem all_split {L : List Jvm.Cond} {P : Jvm.Cond → Bool} (h1 : L.all (fun c => isCode c || P c) = true) (h2 : ∀ c ∈ L.filter isCode, P c = true) : L.all P = true := by
  refine List.all_eq_true.mpr fun c hc => ?_
  have h := List.all_eq_true.mp h1 c hc
  rcases Bool.eq_false_or_eq_true (isCode c) with hi | hi
  · exact h2 c (List.mem_filter.mpr ⟨hc, hi⟩)
  · simpa [hi] using h
set_option maxRecDepth 65536 in
theorem w_c0 : (Jvm.Cond.code x code maxLocals ret).before args0 about1 = true := code_word (m := ⟨1, 2⟩) (meth := k1m2) (c := k1c2) (by decide +kernel) rfl rfl rfl (by decide +kernel)
set_option maxRecDepth 65536 in
theorem w_c1 : (Jvm.Cond.code ({ cls := "org/glasspane/ColourTable", name := "<init>", desc := "(I)V" } : Jvm.MethodName) prog_5_method_1_code (3 : Nat) (Option.none : Option Jvm.ClassFile.FieldType)).before args0 about1 = true := code_word (m := ⟨2, 0⟩) (meth := k2m0) (c := k2c0) (by decide +kernel) rfl rfl rfl (by decide +kernel)
set_option maxRecDepth 65536 in
theorem w_c2 : (Jvm.Cond.code ({ cls := "java/lang/Object", name := "<init>", desc := "()V" } : Jvm.MethodName) object_method_1_code (1 : Nat) (Option.none : Option Jvm.ClassFile.FieldType)).before args0 about1 = true := code_word (m := ⟨0, 0⟩) (meth := k0m0) (c := k0c0) (by decide +kernel) rfl rfl rfl (by decide +kernel)
set_option maxRecDepth 65536 in
theorem w_c3 : (Jvm.Cond.code ({ cls := "java/lang/Integer", name := "numberOfLeadingZeros", desc := "(I)I" } : Jvm.MethodName) jdk_33_method_47_code (2 : Nat) (Option.some Jvm.ClassFile.FieldType.int)).before args0 about1 = true := code_word (m := ⟨8, 0⟩) (meth := k8m0) (c := k8c0) (by decide +kernel) rfl rfl rfl (by decide +kernel)
set_option maxRecDepth 65536 in
theorem w_c4 : (Jvm.Cond.code ({ cls := "org/glasspane/ColourTable", name := "mostCommon", desc := "()I" } : Jvm.MethodName) prog_5_method_8_code (3 : Nat) (Option.some Jvm.ClassFile.FieldType.int)).before args0 about1 = true := code_word (m := ⟨2, 3⟩) (meth := k2m3) (c := k2c3) (by decide +kernel) rfl rfl rfl (by decide +kernel)
set_option maxRecDepth 65536 in
theorem w_c5 : (Jvm.Cond.code ({ cls := "org/glasspane/ColourTable", name := "add", desc := "(II)Z" } : Jvm.MethodName) prog_5_method_3_code (3 : Nat) (Option.some Jvm.ClassFile.FieldType.boolean)).before args0 about1 = true := code_word (m := ⟨2, 1⟩) (meth := k2m1) (c := k2c1) (by decide +kernel) rfl rfl rfl (by decide +kernel)
set_option maxRecDepth 65536 in
theorem w_c6 : (Jvm.Cond.code ({ cls := "org/glasspane/ColourTable", name := "indexOfAdded", desc := "(II)I" } : Jvm.MethodName) prog_5_method_4_code (4 : Nat) (Option.some Jvm.ClassFile.FieldType.int)).before args0 about1 = true := code_word (m := ⟨2, 2⟩) (meth := k2m2) (c := k2c2) (by decide +kernel) rfl rfl rfl (by decide +kernel)
set_option maxRecDepth 65536 in
theorem w_c7 : (Jvm.Cond.code ({ cls := "org/glasspane/ColourTable", name := "slot", desc := "(I)I" } : Jvm.MethodName) prog_5_method_11_code (3 : Nat) (Option.some Jvm.ClassFile.FieldType.int)).before args0 about1 = true := code_word (m := ⟨2, 4⟩) (meth := k2m4) (c := k2c4) (by decide +kernel) rfl rfl rfl (by decide +kernel)
set_option maxRecDepth 65536 in
theorem w_c8 : (Jvm.Cond.code ({ cls := "org/glasspane/ColourTableMostCommonPinLaw", name := "beats", desc := "([I[III)Z" } : Jvm.MethodName) method_2_code (4 : Nat) (Option.some Jvm.ClassFile.FieldType.boolean)).before args0 about1 = true := code_word (m := ⟨1, 1⟩) (meth := k1m1) (c := k1c1) (by decide +kernel) rfl rfl rfl (by decide +kernel)
def codes1 : List Jvm.Cond := [Jvm.Cond.code x code maxLocals ret, Jvm.Cond.code ({ cls := "org/glasspane/ColourTable", name := "<init>", desc := "(I)V" } : Jvm.MethodName) prog_5_method_1_code (3 : Nat) (Option.none : Option Jvm.ClassFile.FieldType), Jvm.Cond.code ({ cls := "java/lang/Object", name := "<init>", desc := "()V" } : Jvm.MethodName) object_method_1_code (1 : Nat) (Option.none : Option Jvm.ClassFile.FieldType), Jvm.Cond.code ({ cls := "java/lang/Integer", name := "numberOfLeadingZeros", desc := "(I)I" } : Jvm.MethodName) jdk_33_method_47_code (2 : Nat) (Option.some Jvm.ClassFile.FieldType.int), Jvm.Cond.code ({ cls := "org/glasspane/ColourTable", name := "mostCommon", desc := "()I" } : Jvm.MethodName) prog_5_method_8_code (3 : Nat) (Option.some Jvm.ClassFile.FieldType.int), Jvm.Cond.code ({ cls := "org/glasspane/ColourTable", name := "add", desc := "(II)Z" } : Jvm.MethodName) prog_5_method_3_code (3 : Nat) (Option.some Jvm.ClassFile.FieldType.boolean), Jvm.Cond.code ({ cls := "org/glasspane/ColourTable", name := "indexOfAdded", desc := "(II)I" } : Jvm.MethodName) prog_5_method_4_code (4 : Nat) (Option.some Jvm.ClassFile.FieldType.int), Jvm.Cond.code ({ cls := "org/glasspane/ColourTable", name := "slot", desc := "(I)I" } : Jvm.MethodName) prog_5_method_11_code (3 : Nat) (Option.some Jvm.ClassFile.FieldType.int), Jvm.Cond.code ({ cls := "org/glasspane/ColourTableMostCommonPinLaw", name := "beats", desc := "([I[III)Z" } : Jvm.MethodName) method_2_code (4 : Nat) (Option.some Jvm.ClassFile.FieldType.boolean)]
set_option maxRecDepth 65536 in
theorem codes_eq : words1.filter isCode = codes1 := rfl
theorem w_codes : ∀ c ∈ words1.filter isCode, c.before args0 about1 = true := by
  rw [codes_eq]
  intro c hc
  simp only [codes1, List.mem_cons, List.not_mem_nil, or_false] at hc
  rcases hc with rfl | rfl | rfl | rfl | rfl | rfl | rfl | rfl | rfl
  · exact w_c0
  · exact w_c1
  · exact w_c2
  · exact w_c3
  · exact w_c4
  · exact w_c5
  · exact w_c6
  · exact w_c7
  · exact w_c8
set_option maxRecDepth 65536 in
theorem w_t1 : (words1.take 24).all (fun c => isCode c || c.before args0 about1) = true := by decide +kernel
set_option maxRecDepth 65536 in
theorem w_t2 : ((words1.drop 24).take 24).all (fun c => isCode c || c.before args0 about1) = true := by decide +kernel
set_option maxRecDepth 65536 in
theorem w_t3 : ((words1.drop 24).drop 24).all (fun c => isCode c || c.before args0 about1) = true := by decide +kernel
theorem w_tables : (allAtoms (Jvm.Cond.code x code maxLocals ret :: tables_1)).before args0 about1 = true := by
  rw [allAtoms_all]
  show words1.all (fun c => c.before args0 about1) = true
  refine all_split ?_ w_codes
  rw [← List.take_append_drop 24 words1, List.all_append, w_t1, ← List.take_append_drop 24 (words1.drop 24), List.all_append, w_t2, w_t3]
  rfl
set_option maxRecDepth 65536 in
theorem w_case : (Jvm.Cond.and given_1 narrow_1).before args0 about1 = true := by decide +kernel
theorem w_applies : (headSpec (Jvm.Cond.code x code maxLocals ret :: tables_1) room_1).applies x e0.platform about1 = true :=
  (Spec.applies_iff w_frames).mpr ⟨w_running, w_runnable, w_alone, w_named, w_hears, w_ripe, w_room, w_tables⟩
theorem atStart : AtStart classFile x code maxLocals ret World_1 tables_1 room_1 Calls_1 rest_1 Pre_1 launch0 p0 e0 about1 theMethod args0 below0 :=
  ⟨lists_1, trivial, launch0.admits_env _ _ _, launch0.least_env, fairChoices_fair.cas, fairChoices_fair.clock, w_frames, w_args, w_heap, w_applies, trivial, trivial, w_case⟩
end start1
theorem witness_1 : WitnessClaimed_1 := ⟨start1.p0, start1.e0, start1.about1, start1.theMethod, start1.args0, start1.below0, start1.atStart⟩
end Jvm.Pilot.@@N@@
