import JvmDerived
import JvmDerived.Pilot.@@N@@Statement
import JvmDerived.Pilot.@@N@@Code
set_option linter.unusedVariables false
set_option linter.unusedSimpArgs false
@@BLOCK:NumsL.lean.txt@@
namespace Jvm.Pilot.@@N@@
open Jvm Jvm.ClassFile Sem Op Lib Jvm.Free Jvm.Stand Jvm.LawKit Jvm.RoadKit Bundle Jvm.Pilot.@@N@@.Jvm.D
/-! A small calculus over the library's laws: the cells that the walk itself has made stand in a list (an object: its class and fields; an array: its kind and elements); K pc locals stack cells .. says that the run from there ends as the contract says. -/
abbrev ACell := (String × List (String × String × Value)) ⊕ (FieldType × List Value)
abbrev AHeap := List ACell
def ad (n0 i : Nat) : Addr := n0 + i
theorem ad_le (n0 i : Nat) : n0 ≤ ad n0 i := Nat.le_add_right _ _
theorem ad_ne {n0 i j : Nat} (h : i ≠ j) : ad n0 i ≠ ad n0 j := fun e => h (Nat.add_left_cancel e)
def COk (Z : State) (a0 : Array Value) (h : Heap) (a : Addr) : ACell → Prop
  | .inl (C, fs) => Exa Z h a C ∧ (fs.map Prod.fst).Nodup ∧ ∀ (j : Nat) (n d : String) (v : Value), fs[j]? = some (n, d, v) → Fld Z h a C n d v ∧ Laid Z a0 C C n d ∧ ∃ t, parseFieldDescriptor d = some t
  | .inr (ty, vs) => Exa Z h a ("[" ++ ty.toString) ∧ ∃ c : Cell, Arr Z h a c ty ∧ c.slots = vs.toArray ∧ vs.length < 2147483648 ∧ ∀ v ∈ vs, fits ty v = true
def Rep (Z : State) (a0 : Array Value) (n0 : Nat) (h : Heap) (A : AHeap) : Prop := h.size = n0 + A.length ∧ ∀ (i : Nat) (c : ACell), A[i]? = some c → COk Z a0 h (ad n0 i) c
section Reps
variable {Z : State} {a0 : Array Value} {n0 : Nat} {h h' : Heap} {A : AHeap}
theorem COk.ext {a : Addr} {c : ACell} (E : Ext h h') (H : COk Z a0 h a c) : COk Z a0 h' a c := by
  match c, H with
  | .inl (C, fs), ⟨h1, h2, h3⟩ => exact ⟨h1.ext E, h2, fun j n d v hj => ⟨(h3 j n d v hj).1.ext E, (h3 j n d v hj).2⟩⟩
  | .inr (ty, vs), ⟨h0, c, h1, h2⟩ => exact ⟨h0.ext E, c, h1.ext E, h2⟩
theorem COk.other {a b : Addr} {sl : Nat} {v : Value} {c : ACell} (W : Wr h h' a sl v) (ne : b ≠ a) (H : COk Z a0 h b c) : COk Z a0 h' b c := by
  match c, H with
  | .inl (C, fs), ⟨h1, h2, h3⟩ => exact ⟨h1.wr W, h2, fun j n d v hj => ⟨(h3 j n d v hj).1.other W (Or.inl ne), (h3 j n d v hj).2⟩⟩
  | .inr (ty, vs), ⟨h0, c, h1, h2⟩ => exact ⟨h0.wr W, c, h1.other W ne, h2⟩
theorem Rep.nil (Z : State) (a0 : Array Value) (h : Heap) : Rep Z a0 h.size h [] := ⟨rfl, fun i c hi => by simp at hi⟩
theorem Rep.push {c : ACell} (H : Rep Z a0 n0 h A) (E : Ext h h') (hs : h'.size = h.size + 1) (hc : COk Z a0 h' h.size c) : Rep Z a0 n0 h' (A ++ [c]) := by
  refine ⟨by rw [hs, H.1]; simp [Nat.add_assoc], fun i d hi => ?_⟩
  rcases Nat.lt_or_ge i A.length with q | q
  · rw [List.getElem?_append_left q] at hi
    exact (H.2 i d hi).ext E
  · rw [List.getElem?_append_right q] at hi
    have hz : i - A.length = 0 := by
      rcases Nat.eq_zero_or_pos (i - A.length) with z | z
      · exact z
      · rw [List.getElem?_eq_none (by simp; omega)] at hi; cases hi
    rw [hz] at hi
    cases hi
    have : ad n0 i = h.size := by rw [H.1]; show n0 + i = _; omega
    rw [this]; exact hc
theorem Rep.wr {i : Nat} {sl : Nat} {v : Value} {c : ACell} (H : Rep Z a0 n0 h A) (W : Wr h h' (ad n0 i) sl v) (hc : COk Z a0 h' (ad n0 i) c) : Rep Z a0 n0 h' (A.set i c) := by
  refine ⟨by rw [W.size, H.1]; simp, fun j d hj => ?_⟩
  rw [List.getElem?_set] at hj
  split at hj
  · rename_i e
    subst e
    split at hj
    · cases hj; exact hc
    · cases hj
  · rename_i ne
    exact (H.2 j d hj).other W (ad_ne fun e => ne e.symm)
theorem nodup_at {L : List String} {i j : Nat} {x : String} (hn : L.Nodup) (hi : L[i]? = some x) (hj : L[j]? = some x) : i = j :=
  (List.getElem?_inj (List.getElem?_eq_some_iff.mp hi).1 hn).mp (hi.trans hj.symm)
theorem COk.put {a : Addr} {C n d : String} {v old : Value} {fs : List (String × String × Value)} {j : Nat} (H : COk Z a0 h a (.inl (C, fs))) (hj : fs[j]? = some (n, d, old)) (W : Wr h h' a (Jvm.RoadKit.slotOf Z C n d) v) : COk Z a0 h' a (.inl (C, fs.set j (n, d, v))) := by
  obtain ⟨h1, h2, h3⟩ := H
  have hm : (fs.set j (n, d, v)).map Prod.fst = fs.map Prod.fst := by
    rw [List.map_set]
    obtain ⟨hl, e⟩ := List.getElem?_eq_some_iff.mp hj
    apply List.ext_getElem?
    intro k
    rw [List.getElem?_set]
    split
    · rename_i e2; subst e2; simp [hl, e]
    · rfl
  refine ⟨h1.wr W, by rw [hm]; exact h2, fun k n' d' v' hk => ?_⟩
  rw [List.getElem?_set] at hk
  split at hk
  · rename_i e; subst e
    split at hk
    · cases hk; exact ⟨(h3 j n d old hj).1.same W, (h3 j n d old hj).2⟩
    · cases hk
  · rename_i ne
    have q := h3 k n' d' v' hk
    obtain ⟨q1, q2, t', q3⟩ := q
    obtain ⟨-, p2, t, p3⟩ := h3 j n d old hj
    refine ⟨q1.other W (Or.inr (slot_ne q2 p2 ?_ q3 p3)), q2, t', q3⟩
    intro e
    subst e
    exact ne (nodup_at h2 (i := j) (j := k) (x := n') (by simp [hj]) (by simp [hk]))
theorem COk.store {a : Addr} {ty : FieldType} {vs : List Value} {v : Value} {j : Nat} (H : COk Z a0 h a (.inr (ty, vs))) (hf : fits ty v = true) (W : Wr h h' a j v) : COk Z a0 h' a (.inr (ty, vs.set j v)) := by
  obtain ⟨h0, c, h1, h2, h3, h4⟩ := H
  refine ⟨h0.wr W, _, h1.same W, ?_, by simpa using h3, fun w hw => ?_⟩
  · show c.slots.setIfInBounds j v = _
    rw [h2]; simp
  · rcases List.mem_or_eq_of_mem_set hw with q | rfl
    · exact h4 w q
    · exact hf
def FOk (Z : State) (a0 : Array Value) (C : String) (fs : List (String × String × Value)) : Prop := (fs.map Prod.fst).Nodup ∧ ∀ f ∈ fs, Laid Z a0 C C f.1 f.2.1 ∧ ∃ t, parseFieldDescriptor f.2.1 = some t ∧ defaultValue t = f.2.2
theorem FOk.nil (C : String) : FOk Z a0 C [] := ⟨List.nodup_nil, fun f hf => nomatch hf⟩
theorem FOk.cons {C n d : String} {t : FieldType} {fs : List (String × String × Value)} (H : FOk Z a0 C fs) (L : Laid Z a0 C C n d) (ht : parseFieldDescriptor d = some t) (hn : n ∉ fs.map Prod.fst) : FOk Z a0 C ((n, d, defaultValue t) :: fs) := by
  refine ⟨by simp only [List.map_cons]; exact List.nodup_cons.mpr ⟨hn, H.1⟩, fun f hf => ?_⟩
  rcases List.mem_cons.mp hf with rfl | q
  · exact ⟨L, t, ht, rfl⟩
  · exact H.2 f q
theorem set_at {i : Nat} {c X : ACell} (h : A[i]? = some c) : (A.set i X)[i]? = some X := by
  obtain ⟨hl, -⟩ := List.getElem?_eq_some_iff.mp h
  simp [hl]
theorem set_ne {i j : Nat} {c X : ACell} (ne : i ≠ j) (h : A[j]? = some c) : (A.set i X)[j]? = some c := by
  rw [List.getElem?_set_ne ne]; exact h
end Reps
/-- Java's x >>> y -/
def ushr (x y : Int32) : Int32 := (x.toUInt32 >>> (y &&& 31).toUInt32).toInt32
def ushrL (x : Int64) (y : Int32) : Int64 := (x.toUInt64 >>> (y &&& 0x3f).toInt64.toUInt64).toInt64
abbrev KK := Nat → List Slot → List Value → AHeap → Nat → Nat → Prop
def Gd (l : Launch) (Z : State) (a0 : Array Value) (n0 b : Nat) (R : Room) (cs ss : Nat) (own nm : String) (code : ByteArray) (ml : Nat) (ret : Option FieldType) (Q : Option Value → AHeap → Prop) (K : KK) : Prop :=
  ∃ (p : Program) (e : Env) (s : State) (m : MethodId) (args : Array Value) (below : List Frame) (meth : Method) (c : Code),
    p.tables.exec = Jvm.exec ∧ c.code = code ∧ c.maxLocals = ml ∧ s.vm.findClass own = some m.cls ∧ meth.name = nm ∧ Z.Warmed39 s.vm ∧ meth.sig.returnType = ret ∧ meth.locks = false ∧ s.heap.size = n0 + b ∧
    K = fun pc Ls st A k n => ∀ (T : State) (locs : List Loc), Stand p l e R s m args below meth c T locs k n → Fr n0 locs → A.length = b + k → Rep Z a0 n0 T.heap A →
      ∃ s₂ o, Steps p.tables e below (T.setTop (mkF m pc Ls.toArray st)) s₂ ∧ s₂.status = .running ∧ Ended s₂ below o ∧ ∃ v L, o = .returned v ∧ (Fr n0 L ∧ ∃ A', Q v A' ∧ Rep Z a0 n0 s₂.heap A') ∧ FrameEnd s o s₂ L cs ss
def Meth (l : Launch) (Z : State) (a0 : Array Value) (ws : List Jvm.Cond) (y : MethodName) (bytes : ByteArray) (maxL : Nat) (ret : Option FieldType) (rm : Room) (cs ss : Nat) (n0 : Nat) (as : Array Value) (A : AHeap) (Q : Option Value → AHeap → Prop) : Prop :=
  ∀ h0, Rep Z a0 n0 h0 A → MetFree l y (head1 (Jvm.Cond.code y bytes maxL ret :: ws) rm) (fun a U => a = as ∧ Z.Warmed39 U.vm ∧ U.heap = h0) (fun _ _ _ _ _ => True)
    (fun _ U o U' => ∃ v L, o = .returned v ∧ (Fr n0 L ∧ ∃ A', Q v A' ∧ Rep Z a0 n0 U'.heap A') ∧ FrameEnd U o U' L cs ss)
section Rules
variable {l : Launch} {Z : State} {a0 : Array Value} {n0 b : Nat} {R : Room} {cs ss : Nat} {own nm : String} {code : ByteArray} {ml : Nat} {ret : Option FieldType} {Q : Option Value → AHeap → Prop} {K : KK} {pc pc' : Nat} {Ls Ls' : List Slot} {st st' : List Value} {A A' : AHeap} {k n k' n' : Nat}
theorem Meth.of {ws : List Jvm.Cond} {y : MethodName} {as : Array Value} (hp : plainFor y = true) (he : ∀ m : MethodId, entryFrame m as ml = mkF m 0 Ls.toArray []) (body : ∀ K, Gd l Z a0 n0 A.length R cs ss y.cls y.name code ml ret Q K → K 0 Ls [] A 0 0) : Meth l Z a0 ws y code ml ret R cs ss n0 as A Q := by
  intro h0 hR
  refine MetFree.of_bodySF hp hisR ?_
  intro p e s m args below meth c s₁ Bd hml0 hP hK
  obtain ⟨rfl, hZ, hh⟩ := hP
  have X0 : Stand p l e R s m args below meth c s₁ [] 0 0 := Stand.of_body Bd
  have e0 : s₁.heap = h0 := by rw [← hh, Bd.state]; rfl
  have q := body _ ⟨p, e, s, m, args, below, meth, c, Bd.exec, Bd.bytes, hml0, findClass_of_methodNamed Bd.named, (name_of_methodNamed Bd.named Bd.method).1, hZ, Bd.returns, Bd.notSynchronized, by rw [hh]; exact hR.1, rfl⟩ s₁ [] X0 (Fr.nil n0) rfl (by rw [e0]; exact hR)
  obtain ⟨s₂, o, h1, h2, h3, h4⟩ := q
  exact ⟨s₂, o, castTop (he m) h1, h2, h3, h4⟩
theorem Gd.run1 (G : Gd l Z a0 n0 b R cs ss own nm code ml ret Q K) (hst : ∀ (p : Program) (e : Env) (below : List Frame) (T target : State) (m : MethodId) (c : Code), p.tables.exec = Jvm.exec → c.code = code → At T m c below → Steps p.tables e below (T.setTop (mkF m pc' Ls'.toArray st')) target → Steps p.tables e below (T.setTop (mkF m pc Ls.toArray st)) target) (h : K pc' Ls' st' A k n) : K pc Ls st A k n := by
  obtain ⟨p, e, s, m, args, below, meth, c, hx, hby, -, -, -, -, -, -, -, rfl⟩ := G
  intro T locs X N hA RP
  obtain ⟨s₂, o, hs, r⟩ := h T locs X N hA RP
  exact ⟨s₂, o, hst p e below T s₂ m c hx hby X.here hs, r⟩
/-- the count of slots may grow -/
theorem Gd.more (G : Gd l Z a0 n0 b R cs ss own nm code ml ret Q K) (hn : n ≤ n') (h : K pc Ls st A k n') : K pc Ls st A k n := by
  obtain ⟨p, e, s, m, args, below, meth, c, hx, hby, -, -, -, -, -, -, -, rfl⟩ := G
  intro T locs X N hA RP
  exact h T locs (X.more (Nat.le_refl _) hn) N hA RP
theorem lat {L : List Slot} {i : Nat} {o : Slot} (h : L[i]? = some o) : L.toArray[i]? = some o := by simpa using h
theorem Gd.iloadN (G : Gd l Z a0 n0 b R cs ss own nm code ml ret Q K) {i : Fin 4} {v : Int32} (hd : decode code pc = .ok (.iload_n i, 1)) (hl : Ls[i.val]? = some (.val (.int v))) (h : K (pc + 1) Ls (.int v :: st) A k n) : K pc Ls st A k n :=
  G.run1 (fun _ _ _ _ _ _ _ hx hby hA r => XS.iloadN hA hx rfl (hb hby hd) (lat hl) r) h
theorem Gd.iload (G : Gd l Z a0 n0 b R cs ss own nm code ml ret Q K) {i : Nat} {v : Int32} (hd : decode code pc = .ok (.iload i, 2)) (hl : Ls[i]? = some (.val (.int v))) (h : K (pc + 2) Ls (.int v :: st) A k n) : K pc Ls st A k n :=
  G.run1 (fun _ _ _ _ _ _ _ hx hby hA r => XS.iload hA hx rfl (hb hby hd) (lat hl) r) h
theorem Gd.lloadN (G : Gd l Z a0 n0 b R cs ss own nm code ml ret Q K) {i : Fin 4} {v : Int64} (hd : decode code pc = .ok (.lload_n i, 1)) (hl : Ls[i.val]? = some (.val (.long v))) (h : K (pc + 1) Ls (.long v :: st) A k n) : K pc Ls st A k n :=
  G.run1 (fun _ _ _ _ _ _ _ hx hby hA r => XS.lloadN hA hx rfl (hb hby hd) (lat hl) r) h
theorem Gd.lload (G : Gd l Z a0 n0 b R cs ss own nm code ml ret Q K) {i : Nat} {v : Int64} (hd : decode code pc = .ok (.lload i, 2)) (hl : Ls[i]? = some (.val (.long v))) (h : K (pc + 2) Ls (.long v :: st) A k n) : K pc Ls st A k n :=
  G.run1 (fun _ _ _ _ _ _ _ hx hby hA r => XS.lload hA hx rfl (hb hby hd) (lat hl) r) h
theorem Gd.aloadN (G : Gd l Z a0 n0 b R cs ss own nm code ml ret Q K) {i : Fin 4} {v : Value} (hd : decode code pc = .ok (.aload_n i, 1)) (hl : Ls[i.val]? = some (.val v)) (hv : v.isRef = true) (h : K (pc + 1) Ls (v :: st) A k n) : K pc Ls st A k n :=
  G.run1 (fun _ _ _ _ _ _ _ hx hby hA r => XS.aloadN hA hx rfl (hb hby hd) (lat hl) hv r) h
theorem Gd.aload (G : Gd l Z a0 n0 b R cs ss own nm code ml ret Q K) {i : Nat} {v : Value} (hd : decode code pc = .ok (.aload i, 2)) (hl : Ls[i]? = some (.val v)) (hv : v.isRef = true) (h : K (pc + 2) Ls (v :: st) A k n) : K pc Ls st A k n :=
  G.run1 (fun _ _ _ _ _ _ _ hx hby hA r => XS.aload hA hx rfl (hb hby hd) (lat hl) hv r) h
theorem Gd.iconst (G : Gd l Z a0 n0 b R cs ss own nm code ml ret Q K) {i : Int} (z : Int32) (hd : decode code pc = .ok (.iconst i, 1)) (hz : Int32.ofInt i = z) (h : K (pc + 1) Ls (.int z :: st) A k n) : K pc Ls st A k n :=
  G.run1 (fun _ _ _ _ _ _ _ hx hby hA r => XS.iconst hA hx rfl (hb hby hd) (by rw [hz]; exact r)) h
theorem Gd.bipush (G : Gd l Z a0 n0 b R cs ss own nm code ml ret Q K) {i : Int} (z : Int32) (hd : decode code pc = .ok (.bipush i, 2)) (hz : (Int8.ofInt i).toInt32 = z) (h : K (pc + 2) Ls (.int z :: st) A k n) : K pc Ls st A k n :=
  G.run1 (fun _ _ _ _ _ _ _ hx hby hA r => XS.bipush hA hx rfl (hb hby hd) (by rw [hz]; exact r)) h
theorem Gd.sipush (G : Gd l Z a0 n0 b R cs ss own nm code ml ret Q K) {i : Int} (z : Int32) (hd : decode code pc = .ok (.sipush i, 3)) (hz : (Int16.ofInt i).toInt32 = z) (h : K (pc + 3) Ls (.int z :: st) A k n) : K pc Ls st A k n :=
  G.run1 (fun _ _ _ _ _ _ _ hx hby hA r => XS.sipush hA hx rfl (hb hby hd) (by rw [hz]; exact r)) h
theorem Gd.lconst (G : Gd l Z a0 n0 b R cs ss own nm code ml ret Q K) {i : Fin 2} (z : Int64) (hd : decode code pc = .ok (.lconst i, 1)) (hz : Int64.ofNat i = z) (h : K (pc + 1) Ls (.long z :: st) A k n) : K pc Ls st A k n :=
  G.run1 (fun _ _ _ _ _ _ _ hx hby hA r => XS.lconst hA hx rfl (hb hby hd) (by rw [hz]; exact r)) h
theorem Gd.aconstNull (G : Gd l Z a0 n0 b R cs ss own nm code ml ret Q K) (hd : decode code pc = .ok (.aconst_null, 1)) (h : K (pc + 1) Ls (.null :: st) A k n) : K pc Ls st A k n :=
  G.run1 (fun _ _ _ _ _ _ _ hx hby hA r => XS.aconstNull hA hx rfl (hb hby hd) r) h
theorem Gd.iadd (G : Gd l Z a0 n0 b R cs ss own nm code ml ret Q K) {x y : Int32} (hd : decode code pc = .ok (.iadd, 1)) (h : K (pc + 1) Ls (.int (x + y) :: st) A k n) : K pc Ls (.int y :: .int x :: st) A k n :=
  G.run1 (fun _ _ _ _ _ _ _ hx hby hA r => XS.iadd hA hx rfl (hb hby hd) rfl r) h
theorem Gd.isub (G : Gd l Z a0 n0 b R cs ss own nm code ml ret Q K) {x y : Int32} (hd : decode code pc = .ok (.isub, 1)) (h : K (pc + 1) Ls (.int (x - y) :: st) A k n) : K pc Ls (.int y :: .int x :: st) A k n :=
  G.run1 (fun _ _ _ _ _ _ _ hx hby hA r => XS.isub hA hx rfl (hb hby hd) rfl r) h
theorem Gd.imul (G : Gd l Z a0 n0 b R cs ss own nm code ml ret Q K) {x y : Int32} (hd : decode code pc = .ok (.imul, 1)) (h : K (pc + 1) Ls (.int (x * y) :: st) A k n) : K pc Ls (.int y :: .int x :: st) A k n :=
  G.run1 (fun _ _ _ _ _ _ _ hx hby hA r => XS.imul hA hx rfl (hb hby hd) rfl r) h
theorem Gd.iand (G : Gd l Z a0 n0 b R cs ss own nm code ml ret Q K) {x y : Int32} (hd : decode code pc = .ok (.iand, 1)) (h : K (pc + 1) Ls (.int (x &&& y) :: st) A k n) : K pc Ls (.int y :: .int x :: st) A k n :=
  G.run1 (fun _ _ _ _ _ _ _ hx hby hA r => XS.iand hA hx rfl (hb hby hd) rfl r) h
theorem Gd.ior (G : Gd l Z a0 n0 b R cs ss own nm code ml ret Q K) {x y : Int32} (hd : decode code pc = .ok (.ior, 1)) (h : K (pc + 1) Ls (.int (x ||| y) :: st) A k n) : K pc Ls (.int y :: .int x :: st) A k n :=
  G.run1 (fun _ _ _ _ _ _ _ hx hby hA r => XS.ior hA hx rfl (hb hby hd) rfl r) h
theorem Gd.ixor (G : Gd l Z a0 n0 b R cs ss own nm code ml ret Q K) {x y : Int32} (hd : decode code pc = .ok (.ixor, 1)) (h : K (pc + 1) Ls (.int (x ^^^ y) :: st) A k n) : K pc Ls (.int y :: .int x :: st) A k n :=
  G.run1 (fun _ _ _ _ _ _ _ hx hby hA r => XS.ixor hA hx rfl (hb hby hd) rfl r) h
theorem Gd.ishl (G : Gd l Z a0 n0 b R cs ss own nm code ml ret Q K) {x y : Int32} (hd : decode code pc = .ok (.ishl, 1)) (h : K (pc + 1) Ls (.int (x <<< (y &&& 31)) :: st) A k n) : K pc Ls (.int y :: .int x :: st) A k n :=
  G.run1 (fun _ _ _ _ _ _ _ hx hby hA r => XS.ishl hA hx rfl (hb hby hd) rfl r) h
theorem Gd.ishr (G : Gd l Z a0 n0 b R cs ss own nm code ml ret Q K) {x y : Int32} (hd : decode code pc = .ok (.ishr, 1)) (h : K (pc + 1) Ls (.int (x >>> (y &&& 31)) :: st) A k n) : K pc Ls (.int y :: .int x :: st) A k n :=
  G.run1 (fun _ _ _ _ _ _ _ hx hby hA r => XS.ishr hA hx rfl (hb hby hd) rfl r) h
theorem Gd.iushr (G : Gd l Z a0 n0 b R cs ss own nm code ml ret Q K) {x y : Int32} (hd : decode code pc = .ok (.iushr, 1)) (h : K (pc + 1) Ls (.int (ushr x y) :: st) A k n) : K pc Ls (.int y :: .int x :: st) A k n :=
  G.run1 (fun _ _ _ _ _ _ _ hx hby hA r => XS.iushr hA hx rfl (hb hby hd) rfl r) h
theorem Gd.ladd (G : Gd l Z a0 n0 b R cs ss own nm code ml ret Q K) {x y : Int64} (hd : decode code pc = .ok (.ladd, 1)) (h : K (pc + 1) Ls (.long (x + y) :: st) A k n) : K pc Ls (.long y :: .long x :: st) A k n :=
  G.run1 (fun _ _ _ _ _ _ _ hx hby hA r => XS.ladd hA hx rfl (hb hby hd) rfl r) h
theorem Gd.lsub (G : Gd l Z a0 n0 b R cs ss own nm code ml ret Q K) {x y : Int64} (hd : decode code pc = .ok (.lsub, 1)) (h : K (pc + 1) Ls (.long (x - y) :: st) A k n) : K pc Ls (.long y :: .long x :: st) A k n :=
  G.run1 (fun _ _ _ _ _ _ _ hx hby hA r => XS.lsub hA hx rfl (hb hby hd) rfl r) h
theorem Gd.lmul (G : Gd l Z a0 n0 b R cs ss own nm code ml ret Q K) {x y : Int64} (hd : decode code pc = .ok (.lmul, 1)) (h : K (pc + 1) Ls (.long (x * y) :: st) A k n) : K pc Ls (.long y :: .long x :: st) A k n :=
  G.run1 (fun _ _ _ _ _ _ _ hx hby hA r => XS.lmul hA hx rfl (hb hby hd) rfl r) h
theorem Gd.land (G : Gd l Z a0 n0 b R cs ss own nm code ml ret Q K) {x y : Int64} (hd : decode code pc = .ok (.land, 1)) (h : K (pc + 1) Ls (.long (x &&& y) :: st) A k n) : K pc Ls (.long y :: .long x :: st) A k n :=
  G.run1 (fun _ _ _ _ _ _ _ hx hby hA r => XS.land hA hx rfl (hb hby hd) rfl r) h
theorem Gd.lor (G : Gd l Z a0 n0 b R cs ss own nm code ml ret Q K) {x y : Int64} (hd : decode code pc = .ok (.lor, 1)) (h : K (pc + 1) Ls (.long (x ||| y) :: st) A k n) : K pc Ls (.long y :: .long x :: st) A k n :=
  G.run1 (fun _ _ _ _ _ _ _ hx hby hA r => XS.lor hA hx rfl (hb hby hd) rfl r) h
theorem Gd.lxor (G : Gd l Z a0 n0 b R cs ss own nm code ml ret Q K) {x y : Int64} (hd : decode code pc = .ok (.lxor, 1)) (h : K (pc + 1) Ls (.long (x ^^^ y) :: st) A k n) : K pc Ls (.long y :: .long x :: st) A k n :=
  G.run1 (fun _ _ _ _ _ _ _ hx hby hA r => XS.lxor hA hx rfl (hb hby hd) rfl r) h
theorem Gd.lshl (G : Gd l Z a0 n0 b R cs ss own nm code ml ret Q K) {x : Int64} {y : Int32} (hd : decode code pc = .ok (.lshl, 1)) (h : K (pc + 1) Ls (.long (x <<< (y &&& 0x3f).toInt64) :: st) A k n) : K pc Ls (.int y :: .long x :: st) A k n :=
  G.run1 (fun _ _ _ _ _ _ _ hx hby hA r => XS.lshl hA hx rfl (hb hby hd) rfl r) h
theorem Gd.lshr (G : Gd l Z a0 n0 b R cs ss own nm code ml ret Q K) {x : Int64} {y : Int32} (hd : decode code pc = .ok (.lshr, 1)) (h : K (pc + 1) Ls (.long (x >>> (y &&& 0x3f).toInt64) :: st) A k n) : K pc Ls (.int y :: .long x :: st) A k n :=
  G.run1 (fun _ _ _ _ _ _ _ hx hby hA r => XS.lshr hA hx rfl (hb hby hd) rfl r) h
theorem Gd.lushr (G : Gd l Z a0 n0 b R cs ss own nm code ml ret Q K) {x : Int64} {y : Int32} (hd : decode code pc = .ok (.lushr, 1)) (h : K (pc + 1) Ls (.long (ushrL x y) :: st) A k n) : K pc Ls (.int y :: .long x :: st) A k n :=
  G.run1 (fun _ _ _ _ _ _ _ hx hby hA r => XS.lushr hA hx rfl (hb hby hd) rfl r) h
theorem Gd.ineg (G : Gd l Z a0 n0 b R cs ss own nm code ml ret Q K) {x : Int32} (hd : decode code pc = .ok (.ineg, 1)) (h : K (pc + 1) Ls (.int (-x) :: st) A k n) : K pc Ls (.int x :: st) A k n :=
  G.run1 (fun _ _ _ _ _ _ _ hx hby hA r => XS.ineg hA hx rfl (hb hby hd) rfl r) h
theorem Gd.lneg (G : Gd l Z a0 n0 b R cs ss own nm code ml ret Q K) {x : Int64} (hd : decode code pc = .ok (.lneg, 1)) (h : K (pc + 1) Ls (.long (-x) :: st) A k n) : K pc Ls (.long x :: st) A k n :=
  G.run1 (fun _ _ _ _ _ _ _ hx hby hA r => XS.lneg hA hx rfl (hb hby hd) rfl r) h
theorem Gd.i2l (G : Gd l Z a0 n0 b R cs ss own nm code ml ret Q K) {x : Int32} (hd : decode code pc = .ok (.i2l, 1)) (h : K (pc + 1) Ls (.long (x.toInt64) :: st) A k n) : K pc Ls (.int x :: st) A k n :=
  G.run1 (fun _ _ _ _ _ _ _ hx hby hA r => XS.i2l hA hx rfl (hb hby hd) rfl r) h
theorem Gd.l2i (G : Gd l Z a0 n0 b R cs ss own nm code ml ret Q K) {x : Int64} (hd : decode code pc = .ok (.l2i, 1)) (h : K (pc + 1) Ls (.int (x.toInt32) :: st) A k n) : K pc Ls (.long x :: st) A k n :=
  G.run1 (fun _ _ _ _ _ _ _ hx hby hA r => XS.l2i hA hx rfl (hb hby hd) rfl r) h
theorem Gd.i2b (G : Gd l Z a0 n0 b R cs ss own nm code ml ret Q K) {x : Int32} (hd : decode code pc = .ok (.i2b, 1)) (h : K (pc + 1) Ls (.int (x.toInt8.toInt32) :: st) A k n) : K pc Ls (.int x :: st) A k n :=
  G.run1 (fun _ _ _ _ _ _ _ hx hby hA r => XS.i2b hA hx rfl (hb hby hd) rfl r) h
theorem Gd.i2c (G : Gd l Z a0 n0 b R cs ss own nm code ml ret Q K) {x : Int32} (hd : decode code pc = .ok (.i2c, 1)) (h : K (pc + 1) Ls (.int (x.toUInt32.toUInt16.toUInt32.toInt32) :: st) A k n) : K pc Ls (.int x :: st) A k n :=
  G.run1 (fun _ _ _ _ _ _ _ hx hby hA r => XS.i2c hA hx rfl (hb hby hd) rfl r) h
theorem Gd.i2s (G : Gd l Z a0 n0 b R cs ss own nm code ml ret Q K) {x : Int32} (hd : decode code pc = .ok (.i2s, 1)) (h : K (pc + 1) Ls (.int (x.toInt16.toInt32) :: st) A k n) : K pc Ls (.int x :: st) A k n :=
  G.run1 (fun _ _ _ _ _ _ _ hx hby hA r => XS.i2s hA hx rfl (hb hby hd) rfl r) h
theorem Gd.irem (G : Gd l Z a0 n0 b R cs ss own nm code ml ret Q K) {x y : Int32} (hd : decode code pc = .ok (.irem, 1)) (hy : y ≠ 0) (h : K (pc + 1) Ls (.int (x % y) :: st) A k n) : K pc Ls (.int y :: .int x :: st) A k n :=
  G.run1 (fun _ _ _ _ _ _ _ hx hby hA r => XS.irem hA hx rfl (hb hby hd) rfl hy (by have q : x - x / y * y = x % y := irem_eq_mod x y; rw [q]; exact r)) h
theorem Gd.lcmp (G : Gd l Z a0 n0 b R cs ss own nm code ml ret Q K) {x y : Int64} (hd : decode code pc = .ok (.lcmp, 1)) (h : K (pc + 1) Ls (.int (lcmpW x y) :: st) A k n) : K pc Ls (.long y :: .long x :: st) A k n :=
  G.run1 (fun _ _ _ _ _ _ _ hx hby hA r => XS.lcmp hA hx rfl (hb hby hd) rfl r) h
theorem Gd.dup (G : Gd l Z a0 n0 b R cs ss own nm code ml ret Q K) {x : Value} (hd : decode code pc = .ok (.dup, 1)) (hc : x.category = 1) (h : K (pc + 1) Ls (x :: x :: st) A k n) : K pc Ls (x :: st) A k n :=
  G.run1 (fun _ _ _ _ _ _ _ hx hby hA r => XS.dup hA hx rfl (hb hby hd) rfl hc r) h
theorem Gd.pop (G : Gd l Z a0 n0 b R cs ss own nm code ml ret Q K) {x : Value} (hd : decode code pc = .ok (.pop, 1)) (hc : x.category = 1) (h : K (pc + 1) Ls st A k n) : K pc Ls (x :: st) A k n :=
  G.run1 (fun _ _ _ _ _ _ _ hx hby hA r => XS.pop hA hx rfl (hb hby hd) rfl hc r) h
theorem Gd.dupX1 (G : Gd l Z a0 n0 b R cs ss own nm code ml ret Q K) {x y : Value} (hd : decode code pc = .ok (.dup_x1, 1)) (hc : x.category = 1) (hc' : y.category = 1) (h : K (pc + 1) Ls (x :: y :: x :: st) A k n) : K pc Ls (x :: y :: st) A k n :=
  G.run1 (fun _ _ _ _ _ _ _ hx hby hA r => XS.dupX1 hA hx rfl (hb hby hd) rfl hc hc' r) h
theorem Gd.dup2 (G : Gd l Z a0 n0 b R cs ss own nm code ml ret Q K) {x y : Value} (hd : decode code pc = .ok (.dup2, 1)) (hc : x.category = 1) (hc' : y.category = 1) (h : K (pc + 1) Ls (x :: y :: x :: y :: st) A k n) : K pc Ls (x :: y :: st) A k n :=
  G.run1 (fun _ _ _ _ _ _ _ hx hby hA r => Jvm.Free.XT.dup2 hA hx rfl (hb hby hd) rfl hc hc' r) h
theorem Gd.astore7 (G : Gd l Z a0 n0 b R cs ss own nm code ml ret Q K) {u0 u1 u2 u3 u4 u5 u6 o : Slot} {r : List Slot} {x : Value} (hd : decode code pc = .ok (.astore 7, 2)) (hv : x.isRef = true) (hl : storeLocals (u0 :: u1 :: u2 :: u3 :: u4 :: u5 :: u6 :: o :: r).toArray 7 (x) = some (u0 :: u1 :: u2 :: u3 :: u4 :: u5 :: u6 :: .val x :: r).toArray) (h : K (pc + 2) (u0 :: u1 :: u2 :: u3 :: u4 :: u5 :: u6 :: .val x :: r) st A k n) : K pc (u0 :: u1 :: u2 :: u3 :: u4 :: u5 :: u6 :: o :: r) (x :: st) A k n :=
  G.run1 (fun _ _ _ _ _ _ _ hx hby hA r => XS.astore hA hx rfl (hb hby hd) rfl hv hl r) h
theorem Gd.astore8 (G : Gd l Z a0 n0 b R cs ss own nm code ml ret Q K) {u0 u1 u2 u3 u4 u5 u6 u7 o : Slot} {r : List Slot} {x : Value} (hd : decode code pc = .ok (.astore 8, 2)) (hv : x.isRef = true) (hl : storeLocals (u0 :: u1 :: u2 :: u3 :: u4 :: u5 :: u6 :: u7 :: o :: r).toArray 8 (x) = some (u0 :: u1 :: u2 :: u3 :: u4 :: u5 :: u6 :: u7 :: .val x :: r).toArray) (h : K (pc + 2) (u0 :: u1 :: u2 :: u3 :: u4 :: u5 :: u6 :: u7 :: .val x :: r) st A k n) : K pc (u0 :: u1 :: u2 :: u3 :: u4 :: u5 :: u6 :: u7 :: o :: r) (x :: st) A k n :=
  G.run1 (fun _ _ _ _ _ _ _ hx hby hA r => XS.astore hA hx rfl (hb hby hd) rfl hv hl r) h
theorem Gd.astore9 (G : Gd l Z a0 n0 b R cs ss own nm code ml ret Q K) {u0 u1 u2 u3 u4 u5 u6 u7 u8 o : Slot} {r : List Slot} {x : Value} (hd : decode code pc = .ok (.astore 9, 2)) (hv : x.isRef = true) (hl : storeLocals (u0 :: u1 :: u2 :: u3 :: u4 :: u5 :: u6 :: u7 :: u8 :: o :: r).toArray 9 (x) = some (u0 :: u1 :: u2 :: u3 :: u4 :: u5 :: u6 :: u7 :: u8 :: .val x :: r).toArray) (h : K (pc + 2) (u0 :: u1 :: u2 :: u3 :: u4 :: u5 :: u6 :: u7 :: u8 :: .val x :: r) st A k n) : K pc (u0 :: u1 :: u2 :: u3 :: u4 :: u5 :: u6 :: u7 :: u8 :: o :: r) (x :: st) A k n :=
  G.run1 (fun _ _ _ _ _ _ _ hx hby hA r => XS.astore hA hx rfl (hb hby hd) rfl hv hl r) h
theorem Gd.astore10 (G : Gd l Z a0 n0 b R cs ss own nm code ml ret Q K) {u0 u1 u2 u3 u4 u5 u6 u7 u8 u9 o : Slot} {r : List Slot} {x : Value} (hd : decode code pc = .ok (.astore 10, 2)) (hv : x.isRef = true) (hl : storeLocals (u0 :: u1 :: u2 :: u3 :: u4 :: u5 :: u6 :: u7 :: u8 :: u9 :: o :: r).toArray 10 (x) = some (u0 :: u1 :: u2 :: u3 :: u4 :: u5 :: u6 :: u7 :: u8 :: u9 :: .val x :: r).toArray) (h : K (pc + 2) (u0 :: u1 :: u2 :: u3 :: u4 :: u5 :: u6 :: u7 :: u8 :: u9 :: .val x :: r) st A k n) : K pc (u0 :: u1 :: u2 :: u3 :: u4 :: u5 :: u6 :: u7 :: u8 :: u9 :: o :: r) (x :: st) A k n :=
  G.run1 (fun _ _ _ _ _ _ _ hx hby hA r => XS.astore hA hx rfl (hb hby hd) rfl hv hl r) h
theorem Gd.iinc2 (G : Gd l Z a0 n0 b R cs ss own nm code ml ret Q K) {u0 u1 : Slot} {r : List Slot} {x : Int32} {cst : Int} (z : Int32) (hd : decode code pc = .ok (.iinc 2 cst, 3)) (hz : Int32.ofInt cst = z) (hl : storeLocals (u0 :: u1 :: .val (.int x) :: r).toArray 2 (.int (x + z)) = some (u0 :: u1 :: .val (.int (x + z)) :: r).toArray) (h : K (pc + 3) (u0 :: u1 :: .val (.int (x + z)) :: r) st A k n) : K pc (u0 :: u1 :: .val (.int x) :: r) st A k n := by
  subst hz
  exact G.run1 (fun _ _ _ _ _ _ _ hx hby hA r => XS.iinc hA hx rfl (hb hby hd) (by simp) hl r) h
theorem Gd.iinc6 (G : Gd l Z a0 n0 b R cs ss own nm code ml ret Q K) {u0 u1 u2 u3 u4 u5 : Slot} {r : List Slot} {x : Int32} {cst : Int} (z : Int32) (hd : decode code pc = .ok (.iinc 6 cst, 3)) (hz : Int32.ofInt cst = z) (hl : storeLocals (u0 :: u1 :: u2 :: u3 :: u4 :: u5 :: .val (.int x) :: r).toArray 6 (.int (x + z)) = some (u0 :: u1 :: u2 :: u3 :: u4 :: u5 :: .val (.int (x + z)) :: r).toArray) (h : K (pc + 3) (u0 :: u1 :: u2 :: u3 :: u4 :: u5 :: .val (.int (x + z)) :: r) st A k n) : K pc (u0 :: u1 :: u2 :: u3 :: u4 :: u5 :: .val (.int x) :: r) st A k n := by
  subst hz
  exact G.run1 (fun _ _ _ _ _ _ _ hx hby hA r => XS.iinc hA hx rfl (hb hby hd) (by simp) hl r) h
theorem Gd.istore4 (G : Gd l Z a0 n0 b R cs ss own nm code ml ret Q K) {u0 u1 u2 u3 o : Slot} {r : List Slot} {x : Int32} (hd : decode code pc = .ok (.istore 4, 2)) (hl : storeLocals (u0 :: u1 :: u2 :: u3 :: o :: r).toArray 4 (.int x) = some (u0 :: u1 :: u2 :: u3 :: .val (.int x) :: r).toArray) (h : K (pc + 2) (u0 :: u1 :: u2 :: u3 :: .val (.int x) :: r) st A k n) : K pc (u0 :: u1 :: u2 :: u3 :: o :: r) (.int x :: st) A k n :=
  G.run1 (fun _ _ _ _ _ _ _ hx hby hA r => XS.istore hA hx rfl (hb hby hd) rfl hl r) h
theorem Gd.istore5 (G : Gd l Z a0 n0 b R cs ss own nm code ml ret Q K) {u0 u1 u2 u3 u4 o : Slot} {r : List Slot} {x : Int32} (hd : decode code pc = .ok (.istore 5, 2)) (hl : storeLocals (u0 :: u1 :: u2 :: u3 :: u4 :: o :: r).toArray 5 (.int x) = some (u0 :: u1 :: u2 :: u3 :: u4 :: .val (.int x) :: r).toArray) (h : K (pc + 2) (u0 :: u1 :: u2 :: u3 :: u4 :: .val (.int x) :: r) st A k n) : K pc (u0 :: u1 :: u2 :: u3 :: u4 :: o :: r) (.int x :: st) A k n :=
  G.run1 (fun _ _ _ _ _ _ _ hx hby hA r => XS.istore hA hx rfl (hb hby hd) rfl hl r) h
theorem Gd.istore6 (G : Gd l Z a0 n0 b R cs ss own nm code ml ret Q K) {u0 u1 u2 u3 u4 u5 o : Slot} {r : List Slot} {x : Int32} (hd : decode code pc = .ok (.istore 6, 2)) (hl : storeLocals (u0 :: u1 :: u2 :: u3 :: u4 :: u5 :: o :: r).toArray 6 (.int x) = some (u0 :: u1 :: u2 :: u3 :: u4 :: u5 :: .val (.int x) :: r).toArray) (h : K (pc + 2) (u0 :: u1 :: u2 :: u3 :: u4 :: u5 :: .val (.int x) :: r) st A k n) : K pc (u0 :: u1 :: u2 :: u3 :: u4 :: u5 :: o :: r) (.int x :: st) A k n :=
  G.run1 (fun _ _ _ _ _ _ _ hx hby hA r => XS.istore hA hx rfl (hb hby hd) rfl hl r) h
theorem Gd.istore7 (G : Gd l Z a0 n0 b R cs ss own nm code ml ret Q K) {u0 u1 u2 u3 u4 u5 u6 o : Slot} {r : List Slot} {x : Int32} (hd : decode code pc = .ok (.istore 7, 2)) (hl : storeLocals (u0 :: u1 :: u2 :: u3 :: u4 :: u5 :: u6 :: o :: r).toArray 7 (.int x) = some (u0 :: u1 :: u2 :: u3 :: u4 :: u5 :: u6 :: .val (.int x) :: r).toArray) (h : K (pc + 2) (u0 :: u1 :: u2 :: u3 :: u4 :: u5 :: u6 :: .val (.int x) :: r) st A k n) : K pc (u0 :: u1 :: u2 :: u3 :: u4 :: u5 :: u6 :: o :: r) (.int x :: st) A k n :=
  G.run1 (fun _ _ _ _ _ _ _ hx hby hA r => XS.istore hA hx rfl (hb hby hd) rfl hl r) h
theorem Gd.istore11 (G : Gd l Z a0 n0 b R cs ss own nm code ml ret Q K) {u0 u1 u2 u3 u4 u5 u6 u7 u8 u9 u10 o : Slot} {r : List Slot} {x : Int32} (hd : decode code pc = .ok (.istore 11, 2)) (hl : storeLocals (u0 :: u1 :: u2 :: u3 :: u4 :: u5 :: u6 :: u7 :: u8 :: u9 :: u10 :: o :: r).toArray 11 (.int x) = some (u0 :: u1 :: u2 :: u3 :: u4 :: u5 :: u6 :: u7 :: u8 :: u9 :: u10 :: .val (.int x) :: r).toArray) (h : K (pc + 2) (u0 :: u1 :: u2 :: u3 :: u4 :: u5 :: u6 :: u7 :: u8 :: u9 :: u10 :: .val (.int x) :: r) st A k n) : K pc (u0 :: u1 :: u2 :: u3 :: u4 :: u5 :: u6 :: u7 :: u8 :: u9 :: u10 :: o :: r) (.int x :: st) A k n :=
  G.run1 (fun _ _ _ _ _ _ _ hx hby hA r => XS.istore hA hx rfl (hb hby hd) rfl hl r) h
theorem Gd.istore12 (G : Gd l Z a0 n0 b R cs ss own nm code ml ret Q K) {u0 u1 u2 u3 u4 u5 u6 u7 u8 u9 u10 u11 o : Slot} {r : List Slot} {x : Int32} (hd : decode code pc = .ok (.istore 12, 2)) (hl : storeLocals (u0 :: u1 :: u2 :: u3 :: u4 :: u5 :: u6 :: u7 :: u8 :: u9 :: u10 :: u11 :: o :: r).toArray 12 (.int x) = some (u0 :: u1 :: u2 :: u3 :: u4 :: u5 :: u6 :: u7 :: u8 :: u9 :: u10 :: u11 :: .val (.int x) :: r).toArray) (h : K (pc + 2) (u0 :: u1 :: u2 :: u3 :: u4 :: u5 :: u6 :: u7 :: u8 :: u9 :: u10 :: u11 :: .val (.int x) :: r) st A k n) : K pc (u0 :: u1 :: u2 :: u3 :: u4 :: u5 :: u6 :: u7 :: u8 :: u9 :: u10 :: u11 :: o :: r) (.int x :: st) A k n :=
  G.run1 (fun _ _ _ _ _ _ _ hx hby hA r => XS.istore hA hx rfl (hb hby hd) rfl hl r) h
theorem Gd.istore13 (G : Gd l Z a0 n0 b R cs ss own nm code ml ret Q K) {u0 u1 u2 u3 u4 u5 u6 u7 u8 u9 u10 u11 u12 o : Slot} {r : List Slot} {x : Int32} (hd : decode code pc = .ok (.istore 13, 2)) (hl : storeLocals (u0 :: u1 :: u2 :: u3 :: u4 :: u5 :: u6 :: u7 :: u8 :: u9 :: u10 :: u11 :: u12 :: o :: r).toArray 13 (.int x) = some (u0 :: u1 :: u2 :: u3 :: u4 :: u5 :: u6 :: u7 :: u8 :: u9 :: u10 :: u11 :: u12 :: .val (.int x) :: r).toArray) (h : K (pc + 2) (u0 :: u1 :: u2 :: u3 :: u4 :: u5 :: u6 :: u7 :: u8 :: u9 :: u10 :: u11 :: u12 :: .val (.int x) :: r) st A k n) : K pc (u0 :: u1 :: u2 :: u3 :: u4 :: u5 :: u6 :: u7 :: u8 :: u9 :: u10 :: u11 :: u12 :: o :: r) (.int x :: st) A k n :=
  G.run1 (fun _ _ _ _ _ _ _ hx hby hA r => XS.istore hA hx rfl (hb hby hd) rfl hl r) h
theorem Gd.istoreN2 (G : Gd l Z a0 n0 b R cs ss own nm code ml ret Q K) {u0 u1 o : Slot} {r : List Slot} {x : Int32} (hd : decode code pc = .ok (.istore_n ⟨2, by decide⟩, 1)) (hl : storeLocals (u0 :: u1 :: o :: r).toArray 2 (.int x) = some (u0 :: u1 :: .val (.int x) :: r).toArray) (h : K (pc + 1) (u0 :: u1 :: .val (.int x) :: r) st A k n) : K pc (u0 :: u1 :: o :: r) (.int x :: st) A k n :=
  G.run1 (fun _ _ _ _ _ _ _ hx hby hA r => XS.istoreN hA hx rfl (hb hby hd) rfl hl r) h
theorem Gd.istoreN3 (G : Gd l Z a0 n0 b R cs ss own nm code ml ret Q K) {u0 u1 u2 o : Slot} {r : List Slot} {x : Int32} (hd : decode code pc = .ok (.istore_n ⟨3, by decide⟩, 1)) (hl : storeLocals (u0 :: u1 :: u2 :: o :: r).toArray 3 (.int x) = some (u0 :: u1 :: u2 :: .val (.int x) :: r).toArray) (h : K (pc + 1) (u0 :: u1 :: u2 :: .val (.int x) :: r) st A k n) : K pc (u0 :: u1 :: u2 :: o :: r) (.int x :: st) A k n :=
  G.run1 (fun _ _ _ _ _ _ _ hx hby hA r => XS.istoreN hA hx rfl (hb hby hd) rfl hl r) h
theorem Gd.goto (G : Gd l Z a0 n0 b R cs ss own nm code ml ret Q K) {o : Int} (pc' : Nat) (hd : decode code pc = .ok (.goto o, 3)) (ho : 0 ≤ (pc : Int) + o) (hp : ((pc : Int) + o).toNat = pc') (h : K pc' Ls st A k n) : K pc Ls st A k n :=
  G.run1 (fun _ _ _ _ _ _ _ hx hby hA r => XS.goto hA hx rfl rfl (hb hby hd) ho hp r) h
theorem Gd.icmp (G : Gd l Z a0 n0 b R cs ss own nm code ml ret Q K) {cd : ClassFile.Cond} {o : Int} {x y : Int32} (pc' : Nat) (hd : decode code pc = .ok (.if_icmp cd o, 3)) (ho : 0 ≤ (pc : Int) + o) (hp : ((pc : Int) + o).toNat = pc') (h1 : if_icmp.holds cd x y = true → K pc' Ls st A k n) (h2 : if_icmp.holds cd x y = false → K (pc + 3) Ls st A k n) : K pc Ls (.int y :: .int x :: st) A k n := by
  cases q : if_icmp.holds cd x y with
  | true => exact G.run1 (fun _ _ _ _ _ _ _ hx hby hA r => XS.icmpYes hA hx rfl rfl (hb hby hd) rfl q ho hp r) (h1 q)
  | false => exact G.run1 (fun _ _ _ _ _ _ _ hx hby hA r => XS.icmpNo hA hx rfl (hb hby hd) rfl q r) (h2 q)
theorem Gd.ifc (G : Gd l Z a0 n0 b R cs ss own nm code ml ret Q K) {cd : ClassFile.Cond} {o : Int} {x : Int32} (pc' : Nat) (hd : decode code pc = .ok (.ifCond cd o, 3)) (ho : 0 ≤ (pc : Int) + o) (hp : ((pc : Int) + o).toNat = pc') (h1 : if_icmp.holds cd x 0 = true → K pc' Ls st A k n) (h2 : if_icmp.holds cd x 0 = false → K (pc + 3) Ls st A k n) : K pc Ls (.int x :: st) A k n := by
  cases q : if_icmp.holds cd x 0 with
  | true => exact G.run1 (fun _ _ _ _ _ _ _ hx hby hA r => XS.ifYes hA hx rfl rfl (hb hby hd) rfl ((if0 _ _).trans q) ho hp r) (h1 q)
  | false => exact G.run1 (fun _ _ _ _ _ _ _ hx hby hA r => XS.ifNo hA hx rfl (hb hby hd) rfl ((if0 _ _).trans q) r) (h2 q)
theorem hI_eq {x y : Int32} : (if_icmp.holds .eq x y = true → x = y) ∧ (if_icmp.holds .eq x y = false → ¬ x = y) := by simp [if_icmp.holds, Int32.not_lt, Int32.not_le]
theorem Gd.icmp_eq (G : Gd l Z a0 n0 b R cs ss own nm code ml ret Q K) {o : Int} {x y : Int32} (pc' : Nat) (hd : decode code pc = .ok (.if_icmp .eq o, 3)) (ho : 0 ≤ (pc : Int) + o) (hp : ((pc : Int) + o).toNat = pc') (h1 : x = y → K pc' Ls st A k n) (h2 : ¬ x = y → K (pc + 3) Ls st A k n) : K pc Ls (.int y :: .int x :: st) A k n :=
  G.icmp pc' hd ho hp (fun q => h1 (hI_eq.1 q)) (fun q => h2 (hI_eq.2 q))
theorem Gd.if_eq (G : Gd l Z a0 n0 b R cs ss own nm code ml ret Q K) {o : Int} {x : Int32} (pc' : Nat) (hd : decode code pc = .ok (.ifCond .eq o, 3)) (ho : 0 ≤ (pc : Int) + o) (hp : ((pc : Int) + o).toNat = pc') (h1 : x = 0 → K pc' Ls st A k n) (h2 : ¬ x = 0 → K (pc + 3) Ls st A k n) : K pc Ls (.int x :: st) A k n :=
  G.ifc pc' hd ho hp (fun q => h1 (hI_eq.1 q)) (fun q => h2 (hI_eq.2 q))
theorem hI_ne {x y : Int32} : (if_icmp.holds .ne x y = true → ¬ x = y) ∧ (if_icmp.holds .ne x y = false → x = y) := by simp [if_icmp.holds, Int32.not_lt, Int32.not_le]
theorem Gd.icmp_ne (G : Gd l Z a0 n0 b R cs ss own nm code ml ret Q K) {o : Int} {x y : Int32} (pc' : Nat) (hd : decode code pc = .ok (.if_icmp .ne o, 3)) (ho : 0 ≤ (pc : Int) + o) (hp : ((pc : Int) + o).toNat = pc') (h1 : ¬ x = y → K pc' Ls st A k n) (h2 : x = y → K (pc + 3) Ls st A k n) : K pc Ls (.int y :: .int x :: st) A k n :=
  G.icmp pc' hd ho hp (fun q => h1 (hI_ne.1 q)) (fun q => h2 (hI_ne.2 q))
theorem Gd.if_ne (G : Gd l Z a0 n0 b R cs ss own nm code ml ret Q K) {o : Int} {x : Int32} (pc' : Nat) (hd : decode code pc = .ok (.ifCond .ne o, 3)) (ho : 0 ≤ (pc : Int) + o) (hp : ((pc : Int) + o).toNat = pc') (h1 : ¬ x = 0 → K pc' Ls st A k n) (h2 : x = 0 → K (pc + 3) Ls st A k n) : K pc Ls (.int x :: st) A k n :=
  G.ifc pc' hd ho hp (fun q => h1 (hI_ne.1 q)) (fun q => h2 (hI_ne.2 q))
theorem hI_lt {x y : Int32} : (if_icmp.holds .lt x y = true → x < y) ∧ (if_icmp.holds .lt x y = false → ¬ x < y) := by simp [if_icmp.holds, Int32.not_lt, Int32.not_le]
theorem Gd.icmp_lt (G : Gd l Z a0 n0 b R cs ss own nm code ml ret Q K) {o : Int} {x y : Int32} (pc' : Nat) (hd : decode code pc = .ok (.if_icmp .lt o, 3)) (ho : 0 ≤ (pc : Int) + o) (hp : ((pc : Int) + o).toNat = pc') (h1 : x < y → K pc' Ls st A k n) (h2 : ¬ x < y → K (pc + 3) Ls st A k n) : K pc Ls (.int y :: .int x :: st) A k n :=
  G.icmp pc' hd ho hp (fun q => h1 (hI_lt.1 q)) (fun q => h2 (hI_lt.2 q))
theorem Gd.if_lt (G : Gd l Z a0 n0 b R cs ss own nm code ml ret Q K) {o : Int} {x : Int32} (pc' : Nat) (hd : decode code pc = .ok (.ifCond .lt o, 3)) (ho : 0 ≤ (pc : Int) + o) (hp : ((pc : Int) + o).toNat = pc') (h1 : x < 0 → K pc' Ls st A k n) (h2 : ¬ x < 0 → K (pc + 3) Ls st A k n) : K pc Ls (.int x :: st) A k n :=
  G.ifc pc' hd ho hp (fun q => h1 (hI_lt.1 q)) (fun q => h2 (hI_lt.2 q))
theorem hI_ge {x y : Int32} : (if_icmp.holds .ge x y = true → ¬ x < y) ∧ (if_icmp.holds .ge x y = false → x < y) := by simp [if_icmp.holds, Int32.not_lt, Int32.not_le]
theorem Gd.icmp_ge (G : Gd l Z a0 n0 b R cs ss own nm code ml ret Q K) {o : Int} {x y : Int32} (pc' : Nat) (hd : decode code pc = .ok (.if_icmp .ge o, 3)) (ho : 0 ≤ (pc : Int) + o) (hp : ((pc : Int) + o).toNat = pc') (h1 : ¬ x < y → K pc' Ls st A k n) (h2 : x < y → K (pc + 3) Ls st A k n) : K pc Ls (.int y :: .int x :: st) A k n :=
  G.icmp pc' hd ho hp (fun q => h1 (hI_ge.1 q)) (fun q => h2 (hI_ge.2 q))
theorem Gd.if_ge (G : Gd l Z a0 n0 b R cs ss own nm code ml ret Q K) {o : Int} {x : Int32} (pc' : Nat) (hd : decode code pc = .ok (.ifCond .ge o, 3)) (ho : 0 ≤ (pc : Int) + o) (hp : ((pc : Int) + o).toNat = pc') (h1 : ¬ x < 0 → K pc' Ls st A k n) (h2 : x < 0 → K (pc + 3) Ls st A k n) : K pc Ls (.int x :: st) A k n :=
  G.ifc pc' hd ho hp (fun q => h1 (hI_ge.1 q)) (fun q => h2 (hI_ge.2 q))
theorem hI_gt {x y : Int32} : (if_icmp.holds .gt x y = true → y < x) ∧ (if_icmp.holds .gt x y = false → ¬ y < x) := by simp [if_icmp.holds, Int32.not_lt, Int32.not_le]
theorem Gd.icmp_gt (G : Gd l Z a0 n0 b R cs ss own nm code ml ret Q K) {o : Int} {x y : Int32} (pc' : Nat) (hd : decode code pc = .ok (.if_icmp .gt o, 3)) (ho : 0 ≤ (pc : Int) + o) (hp : ((pc : Int) + o).toNat = pc') (h1 : y < x → K pc' Ls st A k n) (h2 : ¬ y < x → K (pc + 3) Ls st A k n) : K pc Ls (.int y :: .int x :: st) A k n :=
  G.icmp pc' hd ho hp (fun q => h1 (hI_gt.1 q)) (fun q => h2 (hI_gt.2 q))
theorem Gd.if_gt (G : Gd l Z a0 n0 b R cs ss own nm code ml ret Q K) {o : Int} {x : Int32} (pc' : Nat) (hd : decode code pc = .ok (.ifCond .gt o, 3)) (ho : 0 ≤ (pc : Int) + o) (hp : ((pc : Int) + o).toNat = pc') (h1 : 0 < x → K pc' Ls st A k n) (h2 : ¬ 0 < x → K (pc + 3) Ls st A k n) : K pc Ls (.int x :: st) A k n :=
  G.ifc pc' hd ho hp (fun q => h1 (hI_gt.1 q)) (fun q => h2 (hI_gt.2 q))
theorem hI_le {x y : Int32} : (if_icmp.holds .le x y = true → ¬ y < x) ∧ (if_icmp.holds .le x y = false → y < x) := by simp [if_icmp.holds, Int32.not_lt, Int32.not_le]
theorem Gd.icmp_le (G : Gd l Z a0 n0 b R cs ss own nm code ml ret Q K) {o : Int} {x y : Int32} (pc' : Nat) (hd : decode code pc = .ok (.if_icmp .le o, 3)) (ho : 0 ≤ (pc : Int) + o) (hp : ((pc : Int) + o).toNat = pc') (h1 : ¬ y < x → K pc' Ls st A k n) (h2 : y < x → K (pc + 3) Ls st A k n) : K pc Ls (.int y :: .int x :: st) A k n :=
  G.icmp pc' hd ho hp (fun q => h1 (hI_le.1 q)) (fun q => h2 (hI_le.2 q))
theorem Gd.if_le (G : Gd l Z a0 n0 b R cs ss own nm code ml ret Q K) {o : Int} {x : Int32} (pc' : Nat) (hd : decode code pc = .ok (.ifCond .le o, 3)) (ho : 0 ≤ (pc : Int) + o) (hp : ((pc : Int) + o).toNat = pc') (h1 : ¬ 0 < x → K pc' Ls st A k n) (h2 : 0 < x → K (pc + 3) Ls st A k n) : K pc Ls (.int x :: st) A k n :=
  G.ifc pc' hd ho hp (fun q => h1 (hI_le.1 q)) (fun q => h2 (hI_le.2 q))
theorem Gd.ifnonnullR (G : Gd l Z a0 n0 b R cs ss own nm code ml ret Q K) {o : Int} {b : Addr} (pc' : Nat) (hd : decode code pc = .ok (.ifnonnull o, 3)) (ho : 0 ≤ (pc : Int) + o) (hp : ((pc : Int) + o).toNat = pc') (h : K pc' Ls st A k n) : K pc Ls (.ref b :: st) A k n :=
  G.run1 (fun _ _ _ _ _ _ _ hx hby hA r => XS.ifnonnullYes hA hx rfl rfl (hb hby hd) rfl ho hp r) h
theorem idxOk {c : Cell} {vs : List Value} {j : Int32} {jn : Nat} (e : c.slots = vs.toArray) (hj : j.toInt = (jn : Int)) (hl : jn < vs.length) : ¬ (j < 0 ∨ c.slots.size ≤ j.toNatClampNeg) ∧ j.toNatClampNeg = jn := by
  have h1 : j.toNatClampNeg = jn := by
    show j.toInt.toNat = jn
    rw [hj]; rfl
  refine ⟨?_, h1⟩
  rintro (q | q)
  · rw [Int32.lt_iff_toInt_lt] at q
    have : (0 : Int32).toInt = 0 := by decide
    omega
  · rw [h1, e] at q
    simp at q
    omega
theorem Gd.getf (G : Gd l Z a0 n0 b R cs ss own nm code ml ret Q K) {idx i j : Nat} {C fn d host : String} {fs : List (String × String × Value)} {v : Value} (hd : decode code pc = .ok (.getfield idx, 3)) (w : (Jvm.Cond.fieldLink own idx C fn d).before a0 Z = true ∨ (Jvm.Cond.fieldLinkNest own idx C fn d host).before a0 Z = true) (hA : A[i]? = some (.inl (C, fs))) (hf : fs[j]? = some (fn, d, v)) (h : K (pc + 3) Ls (v :: st) A k n) : K pc Ls (.ref (ad n0 i) :: st) A k n := by
  obtain ⟨p, e, s, m, args, below, meth, c, hx, hby, -, hown, -, hZ, -, -, -, rfl⟩ := G
  intro T locs X N hAl RP
  obtain ⟨T', X', e', stp⟩ := getF X hx hZ hown w Via.refl rfl ((RP.2 i _ hA).2.2 j _ _ _ hf).1 (g := mkF m pc Ls.toArray (.ref (ad n0 i) :: st)) rfl rfl (hb hby hd)
  obtain ⟨s₂, o, hs, r⟩ := h T' locs X' N hAl (by rw [e']; exact RP)
  exact ⟨s₂, o, stp _ hs, r⟩
theorem Gd.putf (G : Gd l Z a0 n0 b R cs ss own nm code ml ret Q K) {idx i j kk : Nat} {C fn d host : String} {fs : List (String × String × Value)} {v old : Value} {ty : FieldType} (hd : decode code pc = .ok (.putfield idx, 3)) (w : (Jvm.Cond.fieldLink own idx C fn d).before a0 Z = true ∨ (Jvm.Cond.fieldLinkNest own idx C fn d host).before a0 Z = true) (L : (Jvm.Cond.lays C C fn d).before a0 Z = true ∨ ((Jvm.Cond.laysFinal C C fn d).before a0 Z = true ∧ own = C ∧ nm = "<init>")) (wi : (Jvm.Cond.instantiable C kk).before a0 Z = true)
    (hty : parseFieldDescriptor d = some ty) (hn : narrow ty v = v) (hv : fits ty v = true) (hA : A[i]? = some (.inl (C, fs))) (hf : fs[j]? = some (fn, d, old)) (h : K (pc + 3) Ls st (A.set i (.inl (C, fs.set j (fn, d, v)))) k n) : K pc Ls (v :: .ref (ad n0 i) :: st) A k n := by
  obtain ⟨p, e, s, m, args, below, meth, c, hx, hby, -, hown, hnm, hZ, -, -, -, rfl⟩ := G
  intro T locs X N hAl RP
  have F := ((RP.2 i _ hA).2.2 j _ _ _ hf).1
  obtain ⟨T', h', X', e', W, stp⟩ := putF X hx hZ hown w Via.refl rfl F (RP.2 i _ hA).1 (by rcases L with L | ⟨L1, L2, L3⟩; exact Or.inl L; exact Or.inr ⟨L1, L2, hnm.trans L3⟩) wi hty hn hv (g := mkF m pc Ls.toArray (v :: .ref (ad n0 i) :: st)) rfl rfl (hb hby hd)
  obtain ⟨s₂, o, hs, r⟩ := h T' _ X' (Fr.snoc X' N (ad_le _ _)) (by rw [List.length_set]; exact hAl) (by rw [e']; exact RP.wr W ((RP.2 i _ hA).put hf W))
  exact ⟨s₂, o, stp _ hs, r⟩
/-- a field whose pool entry is resolved already -/
theorem Gd.getfR (G : Gd l Z a0 n0 b R cs ss own nm code ml ret Q K) {idx i j : Nat} {C fn d : String} {fs : List (String × String × Value)} {v : Value} (hd : decode code pc = .ok (.getfield idx, 3)) (w : (Jvm.Cond.fieldRef own idx C fn d).before a0 Z = true) (hA : A[i]? = some (.inl (C, fs))) (hf : fs[j]? = some (fn, d, v)) (h : K (pc + 3) Ls (v :: st) A k n) : K pc Ls (.ref (ad n0 i) :: st) A k n := by
  obtain ⟨p, e, s, m, args, below, meth, c, hx, hby, -, hown, -, hZ, -, -, -, rfl⟩ := G
  intro T locs X N hAl RP
  obtain ⟨cell, cf, kf, fi, f, h1, h2, h3, h4, h5, h6, h7⟩ := ((RP.2 i _ hA).2.2 j _ _ _ hf).1
  have hZT : Z.Warmed39 T.vm := wtrans hZ X.warmed
  have hown' : (Z.setVm T.vm).vm.findClass own = some m.cls := by show T.vm.findClass own = _; rw [X.warmed.alike.findClass]; exact hown
  obtain ⟨c3, k3, i3, f3, hi3, hr⟩ := Cond.fieldRef_spec (s := Z.setVm T.vm) hown' (Cond.fieldRef_warmed39 hZT w)
  obtain ⟨k', hi', -⟩ := State.fieldFound?_setVm (s := Z) hZT.alike h2
  cases hi3.symm.trans hi'
  have hr' : T.vm.fieldReady m.cls idx cf f := hr
  obtain ⟨s₂, o, hs, r⟩ := h T locs X N hAl RP
  refine ⟨s₂, o, ?_, r⟩
  show Steps p.tables e below (T.setTop { method := m, pc := pc, locals := Ls.toArray, stack := .ref (ad n0 i) :: st, locked := none }) _
  jvm_step X.here [hx, hb hby hd, getfield.wp_ready (e := e) (s := T) (f := { method := m, pc := pc, locals := Ls.toArray, stack := .ref (ad n0 i) :: st, locked := none }) X.here.top hr' h3 rfl h1 h4 h7]
  exact hs
theorem Gd.putfR (G : Gd l Z a0 n0 b R cs ss own nm code ml ret Q K) {idx i j kk : Nat} {C fn d : String} {fs : List (String × String × Value)} {v old : Value} {ty : FieldType} (hd : decode code pc = .ok (.putfield idx, 3)) (w : (Jvm.Cond.fieldRef own idx C fn d).before a0 Z = true) (L : (Jvm.Cond.lays C C fn d).before a0 Z = true) (wi : (Jvm.Cond.instantiable C kk).before a0 Z = true)
    (hty : parseFieldDescriptor d = some ty) (hn : narrow ty v = v) (hv : fits ty v = true) (hA : A[i]? = some (.inl (C, fs))) (hf : fs[j]? = some (fn, d, old)) (h : K (pc + 3) Ls st (A.set i (.inl (C, fs.set j (fn, d, v)))) k n) : K pc Ls (v :: .ref (ad n0 i) :: st) A k n := by
  obtain ⟨p, e, s, m, args, below, meth, c, hx, hby, -, hown, -, hZ, -, -, -, rfl⟩ := G
  intro T locs X N hAl RP
  obtain ⟨cell, cf, kf, fi, f, h1, h2, h3, h4, h5, h6, h7⟩ := ((RP.2 i _ hA).2.2 j _ _ _ hf).1
  obtain ⟨cell', kc, e1, e2, e3, -⟩ := (RP.2 i _ hA).1
  cases h1.symm.trans e1
  obtain ⟨c1, k1, cf1, kf1, i1, f1, a1, a2, a3, -, a5, -, a7, -⟩ := Cond.lays_spec L
  cases h2.symm.trans a3
  cases e2.symm.trans a1
  obtain ⟨c2, k2, i1', i2, i3, -⟩ := Cond.instantiable_spec wi
  cases e2.symm.trans i1'
  cases a2.symm.trans i2
  have ht := (State.fieldFound?_type h2 hty).2
  have hlt := (Array.getElem?_eq_some_iff.mp h7).1
  have hfitZ : Z.fitsSlot cell.cls cell.vm f.slot v = true := by
    have q : Z.slotType? cell.cls cell.vm f.slot = some ty := by
      simp only [State.slotType?, a2, Option.bind_eq_bind, Option.bind_some, i3]
      cases hq : cell.vm <;> first | (rw [hq] at h5; exact Bool.noConfusion h5) | (rw [a7, ht])
    simp [State.fitsSlot, q, hv]
  have hZT : Z.Warmed39 T.vm := wtrans hZ X.warmed
  have hfitT : T.fitsSlot cell.cls cell.vm f.slot v = true := by rw [← State.fitsSlot_setVm hZT.alike] at hfitZ; exact hfitZ
  have hown' : (Z.setVm T.vm).vm.findClass own = some m.cls := by show T.vm.findClass own = _; rw [X.warmed.alike.findClass]; exact hown
  obtain ⟨c3, k3, i3', f3, hi3, hr⟩ := Cond.fieldRef_spec (s := Z.setVm T.vm) hown' (Cond.fieldRef_warmed39 hZT w)
  obtain ⟨k', hi', -⟩ := State.fieldFound?_setVm (s := Z) hZT.alike h2
  cases hi3.symm.trans hi'
  have hr' : T.vm.fieldReady m.cls idx cf f := hr
  have X' := X.stored h1 f.slot v
  have es : Jvm.RoadKit.slotOf Z C fn d = f.slot := by simp [Jvm.RoadKit.slotOf, h2]
  have W : Wr T.heap (T.setCell (ad n0 i) (cell.setSlot f.slot v)).heap (ad n0 i) (Jvm.RoadKit.slotOf Z C fn d) v := by rw [es]; exact ⟨cell, h1, h5, hlt, rfl⟩
  obtain ⟨s₂, o, hs, r⟩ := h _ _ X' (Fr.snoc X' N (ad_le _ _)) (by rw [List.length_set]; exact hAl) (RP.wr W ((RP.2 i _ hA).put hf W))
  refine ⟨s₂, o, ?_, r⟩
  have hnar : narrow f.type v = v := by rw [ht]; exact hn
  show Steps p.tables e below (T.setTop { method := m, pc := pc, locals := Ls.toArray, stack := v :: .ref (ad n0 i) :: st, locked := none }) _
  jvm_step X.here [hx, hb hby hd, putfield.wp_ready (e := e) (s := T) (f := { method := m, pc := pc, locals := Ls.toArray, stack := v :: .ref (ad n0 i) :: st, locked := none }) X.here.top hr' h3 a5 rfl h1 h4, hnar]
  exact ⟨hlt, hfitT, hs⟩
theorem Gd.newo (G : Gd l Z a0 n0 b R cs ss own nm code ml ret Q K) {idx sl : Nat} {C : String} {fs : List (String × String × Value)} (hd : decode code pc = .ok (.new idx, 3)) (w : (Jvm.Cond.classLink own idx C).before a0 Z = true) (wi : (Jvm.Cond.instantiable C sl).before a0 Z = true) (wz : (Jvm.Cond.initialized C).before a0 Z = true) (hf : FOk Z a0 C fs) (hc : k + 1 ≤ R.cells) (hl : n + sl ≤ R.slots) (h : K (pc + 3) Ls (.ref (ad n0 A.length) :: st) (A ++ [.inl (C, fs)]) (k + 1) (n + sl)) : K pc Ls st A k n := by
  obtain ⟨p, e, s, m, args, below, meth, c, hx, hby, -, hown, hnm, hZ, -, -, hb0, rfl⟩ := G
  intro T locs X N hAl RP
  obtain ⟨T', h', X', e', E, Ex, D, -, stp⟩ := newO X hx hZ hown w wi wz rfl (g := mkF m pc Ls.toArray st) rfl (hb hby hd) hc hl
  have hsz : h'.size = T.heap.size + 1 := by
    have q1 := X'.heapSize
    have q2 : T.heap.size < h'.size := Ex.lt
    rw [e'] at q1
    have q3 := RP.1
    omega
  have R' : Rep Z a0 n0 h' (A ++ [.inl (C, fs)]) := RP.push E hsz ⟨Ex, hf.1, fun j fn d v hj => by
    obtain ⟨L, t, ht, hv⟩ := hf.2 _ (List.mem_of_getElem? hj)
    exact ⟨by have := D L ht; rw [hv] at this; exact this, L, t, ht⟩⟩
  have ea : ad n0 A.length = T.heap.size := RP.1.symm
  obtain ⟨s₂, o, hs, r⟩ := h T' locs X' N (by simp; omega) (by rw [e']; exact R')
  rw [ea] at hs
  exact ⟨s₂, o, stp _ hs, r⟩
theorem Gd.newarr (G : Gd l Z a0 n0 b R cs ss own nm code ml ret Q K) {aty : ArrayType} {z : Int32} (zn cap : Nat) (hd : decode code pc = .ok (.newarray aty, 2)) (w : (Jvm.Cond.arrayClass (newarray.typeOf aty)).before a0 Z = true) (hz : z.toInt = (zn : Int)) (hcap : zn ≤ cap) (hb0 : cap * 8 ≤ 536870912) (hc : k + 1 ≤ R.cells) (hl : n + cap ≤ R.slots) (hfit : fits (newarray.typeOf aty) (defaultValue (newarray.typeOf aty)) = true) (h : K (pc + 2) Ls (.ref (ad n0 A.length) :: st) (A ++ [.inr (newarray.typeOf aty, List.replicate zn (defaultValue (newarray.typeOf aty)))]) (k + 1) (n + cap)) : K pc Ls (.int z :: st) A k n := by
  obtain ⟨p, e, s, m, args, below, meth, c, hx, hby, -, hown, hnm, hZ, -, -, hsb, rfl⟩ := G
  intro T locs X N hAl RP
  have hz0 : ¬ z < 0 := by
    rw [Int32.lt_iff_toInt_lt]
    have : (0 : Int32).toInt = 0 := by decide
    omega
  have hzn : z.toNatClampNeg = zn := by show z.toInt.toNat = zn; rw [hz]; rfl
  obtain ⟨T', h', cA, X', e', E, Ar, Ex, stp⟩ := newPE X hx hZ w rfl (g := mkF m pc Ls.toArray (.int z :: st)) rfl (hb hby hd) rfl hz0 (cap := cap) (by rw [hzn]; exact hcap) hb0 hc hl (ad := "[" ++ (newarray.typeOf aty).toString) rfl
  have hsz : h'.size = T.heap.size + 1 := by
    have q1 := X'.heapSize
    have q2 : T.heap.size < h'.size := Ex.lt
    rw [e'] at q1
    have q3 := RP.1
    omega
  have R' : Rep Z a0 n0 h' (A ++ [.inr (newarray.typeOf aty, List.replicate zn (defaultValue (newarray.typeOf aty)))]) := RP.push E hsz ⟨Ex, _, Ar, by simp [newA, hzn], by simp; have := z.toInt_lt; omega, fun v hv => by rw [List.eq_of_mem_replicate hv]; exact hfit⟩
  have ea : ad n0 A.length = T.heap.size := RP.1.symm
  obtain ⟨s₂, o, hs, r⟩ := h T' locs X' N (by simp; omega) (by rw [e']; exact R')
  rw [ea] at hs
  exact ⟨s₂, o, stp _ hs, r⟩
theorem Gd.alen (G : Gd l Z a0 n0 b R cs ss own nm code ml ret Q K) {i : Nat} {ty : FieldType} {vs : List Value} (z : Int32) (hd : decode code pc = .ok (.arraylength, 1)) (hA : A[i]? = some (.inr (ty, vs))) (hz : vs.length.toInt32 = z) (h : K (pc + 1) Ls (.int z :: st) A k n) : K pc Ls (.ref (ad n0 i) :: st) A k n := by
  obtain ⟨p, e, s, m, args, below, meth, c, hx, hby, -, hown, -, hZ, -, -, -, rfl⟩ := G
  intro T locs X N hAl RP
  obtain ⟨-, cl, Ar, es, -, -⟩ := RP.2 i _ hA
  obtain ⟨s₂, o, hs, r⟩ := h T locs X N hAl RP
  refine ⟨s₂, o, X.arraylength hx Ar.1 (State.isArrayOf_alike hZ.alike Ar.2.1) (g := mkF m pc Ls.toArray (.ref (ad n0 i) :: st)) rfl rfl (hb hby hd) _ ?_, r⟩
  have q : cl.slots.size.toInt32 = z := by rw [es]; exact hz
  rw [q]; exact hs
theorem Gd.iald (G : Gd l Z a0 n0 b R cs ss own nm code ml ret Q K) {i : Nat} {vs : List Value} {j : Int32} {x : Int32} (jn : Nat) (hd : decode code pc = .ok (.iaload, 1)) (hA : A[i]? = some (.inr (.int, vs))) (hj : j.toInt = (jn : Int)) (hv : vs[jn]? = some (.int x)) (h : K (pc + 1) Ls (.int x :: st) A k n) : K pc Ls (.int j :: .ref (ad n0 i) :: st) A k n := by
  obtain ⟨p, e, s, m, args, below, meth, c, hx, hby, -, hown, -, hZ, -, -, -, rfl⟩ := G
  intro T locs X N hAl RP
  obtain ⟨-, cl, Ar, es, -, -⟩ := RP.2 i _ hA
  obtain ⟨q1, q2⟩ := idxOk es hj (List.getElem?_eq_some_iff.mp hv).1
  obtain ⟨s₂, o, hs, r⟩ := h T locs X N hAl RP
  exact ⟨s₂, o, X.iaload hx (j := j) (v := .int x) Ar.1 (State.isArrayOf_alike hZ.alike Ar.2.1) Ar.2.2 q1 (by rw [q2, es]; simpa using hv) (g := mkF m pc Ls.toArray (.int j :: .ref (ad n0 i) :: st)) rfl rfl (hb hby hd) _ hs, r⟩
theorem Gd.lald (G : Gd l Z a0 n0 b R cs ss own nm code ml ret Q K) {i : Nat} {vs : List Value} {j : Int32} {x : Int64} (jn : Nat) (hd : decode code pc = .ok (.laload, 1)) (hA : A[i]? = some (.inr (.long, vs))) (hj : j.toInt = (jn : Int)) (hv : vs[jn]? = some (.long x)) (h : K (pc + 1) Ls (.long x :: st) A k n) : K pc Ls (.int j :: .ref (ad n0 i) :: st) A k n := by
  obtain ⟨p, e, s, m, args, below, meth, c, hx, hby, -, hown, -, hZ, -, -, -, rfl⟩ := G
  intro T locs X N hAl RP
  obtain ⟨-, cl, Ar, es, -, -⟩ := RP.2 i _ hA
  obtain ⟨q1, q2⟩ := idxOk es hj (List.getElem?_eq_some_iff.mp hv).1
  obtain ⟨s₂, o, hs, r⟩ := h T locs X N hAl RP
  exact ⟨s₂, o, X.laload hx (j := j) (v := .long x) Ar.1 (State.isArrayOf_alike hZ.alike Ar.2.1) Ar.2.2 q1 (by rw [q2, es]; simpa using hv) (g := mkF m pc Ls.toArray (.int j :: .ref (ad n0 i) :: st)) rfl rfl (hb hby hd) _ hs, r⟩
theorem Gd.bald (G : Gd l Z a0 n0 b R cs ss own nm code ml ret Q K) {i : Nat} {vs : List Value} {j : Int32} {x : Int32} (jn : Nat) (hd : decode code pc = .ok (.baload, 1)) (hA : A[i]? = some (.inr (.byte, vs))) (hj : j.toInt = (jn : Int)) (hv : vs[jn]? = some (.int x)) (h : K (pc + 1) Ls (.int x :: st) A k n) : K pc Ls (.int j :: .ref (ad n0 i) :: st) A k n := by
  obtain ⟨p, e, s, m, args, below, meth, c, hx, hby, -, hown, -, hZ, -, -, -, rfl⟩ := G
  intro T locs X N hAl RP
  obtain ⟨-, cl, Ar, es, -, -⟩ := RP.2 i _ hA
  obtain ⟨q1, q2⟩ := idxOk es hj (List.getElem?_eq_some_iff.mp hv).1
  obtain ⟨s₂, o, hs, r⟩ := h T locs X N hAl RP
  exact ⟨s₂, o, X.baloadBytes hx (j := j) (v := .int x) Ar.1 (State.isArrayOf_alike hZ.alike Ar.2.1) Ar.2.2 q1 (by rw [q2, es]; simpa using hv) (g := mkF m pc Ls.toArray (.int j :: .ref (ad n0 i) :: st)) rfl rfl (hb hby hd) _ hs, r⟩
theorem Gd.zald (G : Gd l Z a0 n0 b R cs ss own nm code ml ret Q K) {i : Nat} {vs : List Value} {j : Int32} {x : Int32} (jn : Nat) (hd : decode code pc = .ok (.baload, 1)) (hA : A[i]? = some (.inr (.boolean, vs))) (hj : j.toInt = (jn : Int)) (hv : vs[jn]? = some (.int x)) (h : K (pc + 1) Ls (.int x :: st) A k n) : K pc Ls (.int j :: .ref (ad n0 i) :: st) A k n := by
  obtain ⟨p, e, s, m, args, below, meth, c, hx, hby, -, hown, -, hZ, -, -, -, rfl⟩ := G
  intro T locs X N hAl RP
  obtain ⟨-, cl, Ar, es, -, -⟩ := RP.2 i _ hA
  obtain ⟨q1, q2⟩ := idxOk es hj (List.getElem?_eq_some_iff.mp hv).1
  obtain ⟨s₂, o, hs, r⟩ := h T locs X N hAl RP
  exact ⟨s₂, o, X.baloadBooleans hx (j := j) (v := .int x) Ar.1 (State.isArrayOf_alike hZ.alike Ar.2.1) Ar.2.2 q1 (by rw [q2, es]; simpa using hv) (g := mkF m pc Ls.toArray (.int j :: .ref (ad n0 i) :: st)) rfl rfl (hb hby hd) _ hs, r⟩
theorem Gd.iast (G : Gd l Z a0 n0 b R cs ss own nm code ml ret Q K) {i : Nat} {vs : List Value} {j : Int32} {x : Int32} (jn : Nat) (hd : decode code pc = .ok (.iastore, 1)) (hA : A[i]? = some (.inr (.int, vs))) (hj : j.toInt = (jn : Int)) (hl : jn < vs.length) (h : K (pc + 1) Ls st (A.set i (.inr (.int, vs.set jn (.int x)))) k n) : K pc Ls (.int x :: .int j :: .ref (ad n0 i) :: st) A k n := by
  obtain ⟨p, e, s, m, args, below, meth, c, hx, hby, -, hown, -, hZ, -, -, -, rfl⟩ := G
  intro T locs X N hAl RP
  obtain ⟨-, cl, Ar, es, -, -⟩ := RP.2 i _ hA
  obtain ⟨q1, q2⟩ := idxOk es hj hl
  obtain ⟨T', h', X', e', W, stp⟩ := stI X hx hZ rfl Ar q1 (g := mkF m pc Ls.toArray (.int x :: .int j :: .ref (ad n0 i) :: st)) rfl rfl (hb hby hd)
  have W' : Wr T.heap h' (ad n0 i) jn (.int x) := by rw [← q2]; exact W
  obtain ⟨s₂, o, hs, r⟩ := h T' _ X' (Fr.snoc X' N (ad_le _ _)) (by rw [List.length_set]; exact hAl) (by rw [e']; exact RP.wr W' ((RP.2 i _ hA).store rfl W'))
  exact ⟨s₂, o, stp _ hs, r⟩
theorem Gd.last (G : Gd l Z a0 n0 b R cs ss own nm code ml ret Q K) {i : Nat} {vs : List Value} {j : Int32} {x : Int64} (jn : Nat) (hd : decode code pc = .ok (.lastore, 1)) (hA : A[i]? = some (.inr (.long, vs))) (hj : j.toInt = (jn : Int)) (hl : jn < vs.length) (h : K (pc + 1) Ls st (A.set i (.inr (.long, vs.set jn (.long x)))) k n) : K pc Ls (.long x :: .int j :: .ref (ad n0 i) :: st) A k n := by
  obtain ⟨p, e, s, m, args, below, meth, c, hx, hby, -, hown, -, hZ, -, -, -, rfl⟩ := G
  intro T locs X N hAl RP
  obtain ⟨-, cl, Ar, es, -, -⟩ := RP.2 i _ hA
  obtain ⟨q1, q2⟩ := idxOk es hj hl
  obtain ⟨T', h', X', e', W, stp⟩ := stJ X hx hZ rfl Ar q1 (g := mkF m pc Ls.toArray (.long x :: .int j :: .ref (ad n0 i) :: st)) rfl rfl (hb hby hd)
  have W' : Wr T.heap h' (ad n0 i) jn (.long x) := by rw [← q2]; exact W
  obtain ⟨s₂, o, hs, r⟩ := h T' _ X' (Fr.snoc X' N (ad_le _ _)) (by rw [List.length_set]; exact hAl) (by rw [e']; exact RP.wr W' ((RP.2 i _ hA).store rfl W'))
  exact ⟨s₂, o, stp _ hs, r⟩
theorem Gd.bast (G : Gd l Z a0 n0 b R cs ss own nm code ml ret Q K) {i : Nat} {vs : List Value} {j : Int32} {x : Int32} (jn : Nat) (hd : decode code pc = .ok (.bastore, 1)) (hA : A[i]? = some (.inr (.byte, vs))) (hj : j.toInt = (jn : Int)) (hl : jn < vs.length) {x8 : Int32} (hx8 : nar .byte x = x8) (hfit : fits .byte (.int x8) = true) (h : K (pc + 1) Ls st (A.set i (.inr (.byte, vs.set jn (.int x8)))) k n) : K pc Ls (.int x :: .int j :: .ref (ad n0 i) :: st) A k n := by
  obtain ⟨p, e, s, m, args, below, meth, c, hx, hby, -, hown, -, hZ, -, -, -, rfl⟩ := G
  intro T locs X N hAl RP
  obtain ⟨-, cl, Ar, es, -, -⟩ := RP.2 i _ hA
  obtain ⟨q1, q2⟩ := idxOk es hj hl
  obtain ⟨T', h', X', e', W, stp⟩ := stB X hx hZ rfl Ar q1 (g := mkF m pc Ls.toArray (.int x :: .int j :: .ref (ad n0 i) :: st)) rfl rfl (hb hby hd)
  have W' : Wr T.heap h' (ad n0 i) jn (.int x8) := by rw [← q2, ← hx8]; exact W
  obtain ⟨s₂, o, hs, r⟩ := h T' _ X' (Fr.snoc X' N (ad_le _ _)) (by rw [List.length_set]; exact hAl) (by rw [e']; exact RP.wr W' ((RP.2 i _ hA).store hfit W'))
  exact ⟨s₂, o, stp _ hs, r⟩
theorem Gd.zast (G : Gd l Z a0 n0 b R cs ss own nm code ml ret Q K) {i : Nat} {vs : List Value} {j : Int32} {x : Int32} (jn : Nat) (hd : decode code pc = .ok (.bastore, 1)) (hA : A[i]? = some (.inr (.boolean, vs))) (hj : j.toInt = (jn : Int)) (hl : jn < vs.length) {x8 : Int32} (hx8 : nar .boolean x = x8) (hfit : fits .boolean (.int x8) = true) (h : K (pc + 1) Ls st (A.set i (.inr (.boolean, vs.set jn (.int x8)))) k n) : K pc Ls (.int x :: .int j :: .ref (ad n0 i) :: st) A k n := by
  obtain ⟨p, e, s, m, args, below, meth, c, hx, hby, -, hown, -, hZ, -, -, -, rfl⟩ := G
  intro T locs X N hAl RP
  obtain ⟨-, cl, Ar, es, -, -⟩ := RP.2 i _ hA
  obtain ⟨q1, q2⟩ := idxOk es hj hl
  obtain ⟨T', h', X', e', W, stp⟩ := stZ X hx hZ rfl Ar q1 (g := mkF m pc Ls.toArray (.int x :: .int j :: .ref (ad n0 i) :: st)) rfl rfl (hb hby hd)
  have W' : Wr T.heap h' (ad n0 i) jn (.int x8) := by rw [← q2, ← hx8]; exact W
  obtain ⟨s₂, o, hs, r⟩ := h T' _ X' (Fr.snoc X' N (ad_le _ _)) (by rw [List.length_set]; exact hAl) (by rw [e']; exact RP.wr W' ((RP.2 i _ hA).store hfit W'))
  exact ⟨s₂, o, stp _ hs, r⟩
def AI (N : Nat) (vs : List Value) : Prop := vs.length = N ∧ ∀ v ∈ vs, ∃ x : Int32, v = .int x
theorem AI.rep (N : Nat) : AI N (List.replicate N (.int 0)) := ⟨by simp, fun v hv => ⟨0, List.eq_of_mem_replicate hv⟩⟩
theorem AI.at {N j : Nat} {vs : List Value} (h : AI N vs) (hj : j < N) : ∃ x : Int32, vs[j]? = some (.int x) := by
  have hl : j < vs.length := by rw [h.1]; exact hj
  obtain ⟨x, e⟩ := h.2 _ (List.getElem_mem hl)
  exact ⟨x, by rw [List.getElem?_eq_getElem hl, e]⟩
theorem AI.set {N : Nat} {vs : List Value} (h : AI N vs) (j : Nat) (x : Int32) : AI N (vs.set j (.int x)) :=
  ⟨by rw [List.length_set]; exact h.1, fun v hv => by
    rcases List.mem_or_eq_of_mem_set hv with q | rfl
    · exact h.2 v q
    · exact ⟨x, rfl⟩⟩
/-- a store into the only cell, an int[] of which no more is kept in mind than that it holds ints -/
theorem Gd.iastA (G : Gd l Z a0 n0 b R cs ss own nm code ml ret Q K) {N : Nat} {vs : List Value} {j x : Int32} (jn : Nat) (hd : decode code pc = .ok (.iastore, 1)) (hv : AI N vs) (hj : j.toInt = (jn : Int)) (hl : jn < N) (h : ∀ vs', AI N vs' → K (pc + 1) Ls st [.inr (.int, vs')] k n) : K pc Ls (.int x :: .int j :: .ref (ad n0 0) :: st) [.inr (.int, vs)] k n :=
  G.iast jn hd rfl hj (by rw [hv.1]; exact hl) (h _ (hv.set jn x))
theorem Gd.ldcI (G : Gd l Z a0 n0 b R cs ss own nm code ml ret Q K) {idx : Nat} {v : Int32} (hd : decode code pc = .ok (.ldc idx, 2)) (w : (Jvm.Cond.constant own idx v).before a0 Z = true) (h : K (pc + 2) Ls (.int v :: st) A k n) : K pc Ls st A k n := by
  obtain ⟨p, e, s, m, args, below, meth, c, hx, hby, -, hown, -, hZ, -, -, -, rfl⟩ := G
  intro T locs X N hAl RP
  obtain ⟨s₂, o, hs, r⟩ := h T locs X N hAl RP
  exact ⟨s₂, o, X.ldcInt hx hown (mvT hZ w) (g := mkF m pc Ls.toArray st) rfl (hb hby hd) _ hs, r⟩
theorem Gd.ldcwI (G : Gd l Z a0 n0 b R cs ss own nm code ml ret Q K) {idx : Nat} {v : Int32} (hd : decode code pc = .ok (.ldc_w idx, 3)) (w : (Jvm.Cond.constant own idx v).before a0 Z = true) (h : K (pc + 3) Ls (.int v :: st) A k n) : K pc Ls st A k n := by
  obtain ⟨p, e, s, m, args, below, meth, c, hx, hby, -, hown, -, hZ, -, -, -, rfl⟩ := G
  intro T locs X N hAl RP
  obtain ⟨s₂, o, hs, r⟩ := h T locs X N hAl RP
  exact ⟨s₂, o, X.ldcwInt hx hown (mvT hZ w) (g := mkF m pc Ls.toArray st) rfl (hb hby hd) _ hs, r⟩
theorem Gd.ldcL (G : Gd l Z a0 n0 b R cs ss own nm code ml ret Q K) {idx : Nat} {v : Int64} (hd : decode code pc = .ok (.ldc2_w idx, 3)) (w : (Jvm.Cond.constantLong own idx v).before a0 Z = true) (h : K (pc + 3) Ls (.long v :: st) A k n) : K pc Ls st A k n := by
  obtain ⟨p, e, s, m, args, below, meth, c, hx, hby, -, hown, -, hZ, -, -, -, rfl⟩ := G
  intro T locs X N hAl RP
  obtain ⟨s₂, o, hs, r⟩ := h T locs X N hAl RP
  exact ⟨s₂, o, X.ldc2Long hx hown (mvT hZ w) (g := mkF m pc Ls.toArray st) rfl (hb hby hd) _ hs, r⟩
theorem Gd.retV (G : Gd l Z a0 n0 b R cs ss own nm code ml ret Q K) {t : FieldType} {i : Instr} {w : Value} (hret : ret = some t) (hd : decode code pc = .ok (i, 1)) (hn : narrow t w = w)
    (hi : (i = .ireturn ∧ (t = .int ∨ t = .boolean ∨ t = .byte ∨ t = .char ∨ t = .short) ∧ ∃ z, w = .int z) ∨ (i = .lreturn ∧ t = .long ∧ ∃ z, w = .long z) ∨ (i = .dreturn ∧ t = .double ∧ ∃ z, w = .double z) ∨ (i = .freturn ∧ t = .float ∧ ∃ z, w = .float z) ∨ (i = .areturn ∧ t.isReference = true ∧ w.isRef = true))
    (hk : k ≤ cs) (hs : n ≤ ss) (hQ : Q (some w) A) : K pc Ls (w :: st) A k n := by
  obtain ⟨p, e, s, m, args, below, meth, c, hx, hby, -, hown, -, hZ, hrt, hlk, -, rfl⟩ := G
  intro T locs X N hAl RP
  obtain ⟨fs, hr, hrun, hended, hW, hsame⟩ := X.leave (v := some w) (fun q => by rw [hrt, hret] at q; cases q) hlk
  exact ⟨_, _, retOut X hx (hrt.trans hret) hn hi (hb hby hd) hr, hrun, hended, _, locs, rfl, ⟨N, A, hQ, RP⟩, ⟨_, rfl⟩, hW, hsame.mono hk hs⟩
theorem Gd.ireturn (G : Gd l Z a0 n0 b R cs ss own nm code ml ret Q K) {z : Int32} (hret : ret = some .int) (hd : decode code pc = .ok (.ireturn, 1)) (hk : k ≤ cs) (hs : n ≤ ss) (hQ : Q (some (.int z)) A) : K pc Ls (.int z :: st) A k n :=
  G.retV hret hd rfl (Or.inl ⟨rfl, Or.inl rfl, _, rfl⟩) hk hs hQ
theorem Gd.zreturn (G : Gd l Z a0 n0 b R cs ss own nm code ml ret Q K) {z : Int32} (hret : ret = some .boolean) (hd : decode code pc = .ok (.ireturn, 1)) (hz : narrow .boolean (.int z) = .int z) (hk : k ≤ cs) (hs : n ≤ ss) (hQ : Q (some (.int z)) A) : K pc Ls (.int z :: st) A k n :=
  G.retV hret hd hz (Or.inl ⟨rfl, Or.inr (Or.inl rfl), _, rfl⟩) hk hs hQ
theorem Gd.lreturn (G : Gd l Z a0 n0 b R cs ss own nm code ml ret Q K) {z : Int64} (hret : ret = some .long) (hd : decode code pc = .ok (.lreturn, 1)) (hk : k ≤ cs) (hs : n ≤ ss) (hQ : Q (some (.long z)) A) : K pc Ls (.long z :: st) A k n :=
  G.retV hret hd rfl (Or.inr (Or.inl ⟨rfl, rfl, _, rfl⟩)) hk hs hQ
theorem Gd.areturn (G : Gd l Z a0 n0 b R cs ss own nm code ml ret Q K) {t : FieldType} {w : Value} (hret : ret = some t) (hd : decode code pc = .ok (.areturn, 1)) (ht : t.isReference = true) (hw : w.isRef = true) (hn : narrow t w = w) (hk : k ≤ cs) (hs : n ≤ ss) (hQ : Q (some w) A) : K pc Ls (w :: st) A k n :=
  G.retV hret hd hn (Or.inr (Or.inr (Or.inr (Or.inr ⟨rfl, ht, hw⟩)))) hk hs hQ
theorem Gd.vreturn (G : Gd l Z a0 n0 b R cs ss own nm code ml ret Q K) (hret : ret = none) (hd : decode code pc = .ok (.return_, 1)) (hk : k ≤ cs) (hs : n ≤ ss) (hQ : Q none A) : K pc Ls [] A k n := by
  obtain ⟨p, e, s, m, args, below, meth, c, hx, hby, -, hown, -, hZ, hrt, hlk, -, rfl⟩ := G
  intro T locs X N hAl RP
  obtain ⟨fs, hr, hrun, hended, hW, hsame⟩ := X.leave (v := none) (fun _ => rfl) hlk
  exact ⟨_, _, X.returnOut hx (hrt.trans hret) (hb hby hd) hr, hrun, hended, _, locs, rfl, ⟨N, A, hQ, RP⟩, ⟨_, rfl⟩, hW, hsame.mono hk hs⟩
/-- Object's own constructor -/
theorem Gd.initObj (G : Gd l Z a0 n0 b R cs ss own nm code ml ret Q K) {idx : Nat} {a : Addr} (hd : decode code pc = .ok (.invokespecial idx, 3)) (w1 : (Jvm.Cond.methodLink own idx Lib.objectInit).before a0 Z = true) (w2 : (Jvm.Cond.instanceMethod Lib.objectInit).before a0 Z = true) (w3 : (Jvm.Cond.code Lib.objectInit ⟨#[0xb1]⟩ 1 none).before a0 Z = true) (hL : Ls.length = ml) (hf : 1 ≤ R.frames) (hl : (st.map fun v => v.category).sum + 12 ≤ R.locals) (h : K (pc + 3) Ls st A k n) : K pc Ls (.ref a :: st) A k n := by
  obtain ⟨p, e, s, m, args, below, meth, c, hx, hby, hml, hown, -, hZ, -, -, -, rfl⟩ := G
  intro T locs X N hAl RP
  obtain ⟨T', X', e', stp⟩ := initO X hx hZ hown w1 w2 w3 rfl (g := mkF m pc Ls.toArray (.ref a :: st)) rfl (by rw [hml]; simpa using hL) rfl (hb hby hd) hf (W := (st.map fun v => v.category).sum) (by show 2 * 0 + _ ≤ _; omega) hl
  obtain ⟨s₂, o, hs, r⟩ := h T' locs X' N hAl (by rw [e']; exact RP)
  exact ⟨s₂, o, stp _ hs, r⟩
/-- a static method by its contract -/
theorem Gd.scall (G : Gd l Z a0 n0 b R cs ss own nm code ml ret Q K) {idx maxL : Nat} {y : MethodName} {bytes : ByteArray} {rt : Option FieldType} {rm : Room} {Q' : Option Value → AHeap → Prop} {ps : List FieldType} (argsL : List Value) (hst : st' = argsL.reverse ++ st) (hd : decode code pc = .ok (.invokestatic idx, 3)) (w1 : (Jvm.Cond.methodLink own idx y).before a0 Z = true) (w2 : (Jvm.Cond.static y).before a0 Z = true) (w3 : (Jvm.Cond.initialized y.cls).before a0 Z = true) (w4 : (Jvm.Cond.code y bytes maxL rt).before a0 Z = true) (hy : y.cls ≠ "java/lang/invoke/MethodHandle" ∧ y.cls ≠ "java/lang/invoke/VarHandle")
    (hM : Meth l Z a0 [] y bytes maxL rt rm rm.cells rm.slots n0 argsL.toArray A Q') (hpd : parseMethodDescriptor y.desc = some ⟨ps, rt⟩) (hal : argsL.length = ps.length) (hL : Ls.length = ml) (hf : rm.frames + 1 ≤ R.frames) (hl : (st.map fun v => v.category).sum + (maxL + 11) + rm.locals ≤ R.locals) (hc : k + rm.cells ≤ R.cells) (hsl : n + rm.slots ≤ R.slots) (hlen' : ∀ v A', Q' v A' → A'.length = A.length + rm.cells)
    (h : ∀ v A', Q' v A' → K (pc + 3) Ls (v.toList ++ st) A' (k + rm.cells) (n + rm.slots)) : K pc Ls st' A k n := by
  subst hst
  obtain ⟨p, e, s, m, args, below, meth, c, hx, hby, hml, hown, -, hZ, -, -, -, rfl⟩ := G
  intro T locs X N hAl RP
  obtain ⟨v, _, ⟨TB, LB, kB, nB⟩, -, XB, ⟨Lc, hQB, l1, y1, z1⟩, stp⟩ := Jvm.LawKit.callS X hx (y := y) hown (mvT hZ w1) (mvT hZ w2) (mvT hZ w3) (mvT hZ w4) hy (backOf (W := (st.map fun v => v.category).sum) (Q := fun v h L => Fr n0 L ∧ ∃ A', Q' v A' ∧ Rep Z a0 n0 h A') (hM T.heap RP) hZ w4 w3 hf hl) (g := mkF m pc Ls.toArray (argsL.reverse ++ st)) rfl (by rw [hml]; simpa using hL) (argsL := argsL) (rest := st) (lenOf hpd hal) rfl (by show 2 * 0 + _ ≤ _; omega) (hb hby hd) (fun _ _ => ⟨rfl, rfl, hc, hsl⟩)
  dsimp only [Pt.U, Pt.locs, Pt.cells, Pt.slots] at XB l1 y1 z1 stp hQB
  subst l1 y1 z1
  obtain ⟨NB, A', hq, RB⟩ := hQB
  obtain ⟨s₂, o, hs, r⟩ := h _ A' hq TB _ XB (Fr.app N NB) (by rw [hlen' _ _ hq, hAl]; omega) RB
  exact ⟨s₂, o, stp _ hs, r⟩
/-- a constructor by its contract -/
theorem Gd.ncall (G : Gd l Z a0 n0 b R cs ss own nm code ml ret Q K) {idx maxL : Nat} {y : MethodName} {bytes : ByteArray} {rm : Room} {Q' : Option Value → AHeap → Prop} {ps : List FieldType} {a : Addr} (argsL : List Value) (hst : st' = argsL.reverse ++ .ref a :: st) (hd : decode code pc = .ok (.invokespecial idx, 3)) (hy1 : y.name = "<init>") (w1 : (Jvm.Cond.methodLink own idx y).before a0 Z = true) (w2 : (Jvm.Cond.instanceMethod y).before a0 Z = true) (w3 : (Jvm.Cond.initialized y.cls).before a0 Z = true) (w4 : (Jvm.Cond.code y bytes maxL none).before a0 Z = true) (hy : y.cls ≠ "java/lang/invoke/MethodHandle" ∧ y.cls ≠ "java/lang/invoke/VarHandle")
    (hM : Meth l Z a0 [] y bytes maxL none rm rm.cells rm.slots n0 (.ref a :: argsL).toArray A Q') (hpd : parseMethodDescriptor y.desc = some ⟨ps, none⟩) (hal : argsL.length = ps.length) (hL : Ls.length = ml) (hf : rm.frames + 1 ≤ R.frames) (hl : (st.map fun v => v.category).sum + (maxL + 11) + rm.locals ≤ R.locals) (hc : k + rm.cells ≤ R.cells) (hsl : n + rm.slots ≤ R.slots) (hlen' : ∀ v A', Q' v A' → A'.length = A.length + rm.cells)
    (h : ∀ v A', Q' v A' → K (pc + 3) Ls (v.toList ++ st) A' (k + rm.cells) (n + rm.slots)) : K pc Ls st' A k n := by
  subst hst
  obtain ⟨p, e, s, m, args, below, meth, c, hx, hby, hml, hown, -, hZ, -, -, -, rfl⟩ := G
  intro T locs X N hAl RP
  obtain ⟨v, _, ⟨TB, LB, kB, nB⟩, -, XB, ⟨Lc, hQB, l1, y1, z1⟩, stp⟩ := X.specialBack hx (y := y) hy1 hown (mvT hZ w1) (mvT hZ w2) (mvT hZ w4) hy (backOf (W := (st.map fun v => v.category).sum) (Q := fun v h L => Fr n0 L ∧ ∃ A', Q' v A' ∧ Rep Z a0 n0 h A') (hM T.heap RP) hZ w4 w3 hf hl) (g := mkF m pc Ls.toArray (argsL.reverse ++ .ref a :: st)) rfl (by rw [hml]; simpa using hL) (Steps.refl _) (a := a) (argsL := argsL) (rest := st) (lenOf hpd hal) rfl (by show 2 * 0 + _ ≤ _; omega) (hb hby hd) (fun _ _ => ⟨rfl, rfl, hc, hsl⟩)
  dsimp only [Pt.U, Pt.locs, Pt.cells, Pt.slots] at XB l1 y1 z1 stp hQB
  subst l1 y1 z1
  obtain ⟨NB, A', hq, RB⟩ := hQB
  obtain ⟨s₂, o, hs, r⟩ := h _ A' hq TB _ XB (Fr.app N NB) (by rw [hlen' _ _ hq, hAl]; omega) RB
  exact ⟨s₂, o, stp.trans hs, r⟩
/-- an instance method by its contract -/
theorem Gd.vcall (G : Gd l Z a0 n0 b R cs ss own nm code ml ret Q K) {idx maxL i : Nat} {y : MethodName} {bytes : ByteArray} {rt : Option FieldType} {rm : Room} {Q' : Option Value → AHeap → Prop} {ps : List FieldType} {fs : List (String × String × Value)} (argsL : List Value) (hst : st' = argsL.reverse ++ .ref (ad n0 i) :: st) (hd : decode code pc = .ok (.invokevirtual idx, 3)) (w1 : (Jvm.Cond.methodLink own idx y).before a0 Z = true) (w2 : (Jvm.Cond.declares y).before a0 Z = true) (ws : (Jvm.Cond.selects y.cls y y).before a0 Z = true) (wm : (Jvm.Cond.instanceMethod y).before a0 Z = true) (w3 : (Jvm.Cond.initialized y.cls).before a0 Z = true) (w4 : (Jvm.Cond.code y bytes maxL rt).before a0 Z = true) (hy : y.cls ≠ "java/lang/invoke/MethodHandle" ∧ y.cls ≠ "java/lang/invoke/VarHandle") (hA : A[i]? = some (.inl (y.cls, fs)))
    (hM : Meth l Z a0 [] y bytes maxL rt rm rm.cells rm.slots n0 (.ref (ad n0 i) :: argsL).toArray A Q') (hpd : parseMethodDescriptor y.desc = some ⟨ps, rt⟩) (hal : argsL.length = ps.length) (hL : Ls.length = ml) (hf : rm.frames + 1 ≤ R.frames) (hl : (st.map fun v => v.category).sum + (maxL + 11) + rm.locals ≤ R.locals) (hc : k + rm.cells ≤ R.cells) (hsl : n + rm.slots ≤ R.slots) (hlen' : ∀ v A', Q' v A' → A'.length = A.length + rm.cells)
    (h : ∀ v A', Q' v A' → K (pc + 3) Ls (v.toList ++ st) A' (k + rm.cells) (n + rm.slots)) : K pc Ls st' A k n := by
  subst hst
  obtain ⟨p, e, s, m, args, below, meth, c, hx, hby, hml, hown, -, hZ, -, -, -, rfl⟩ := G
  intro T locs X N hAl RP
  obtain ⟨cq, kq, qa, qb, qc⟩ := isOf hZ rfl (RP.2 i _ hA).1
  obtain ⟨v, _, ⟨TB, LB, kB, nB⟩, -, XB, ⟨Lc, hQB, l1, y1, z1⟩, stp⟩ := X.virtualBack hx (y := y) (z := y) hown (mvT hZ w1) (mvT hZ w2) (notFace_of_selects (args := #[]) (mvT hZ ws)) (mvT hZ ws) (mvT hZ wm) hy (backOf (W := (st.map fun v => v.category).sum) (Q := fun v h L => Fr n0 L ∧ ∃ A', Q' v A' ∧ Rep Z a0 n0 h A') (hM T.heap RP) hZ w4 w3 hf hl) qa qc (g := mkF m pc Ls.toArray (argsL.reverse ++ .ref (ad n0 i) :: st)) rfl (by rw [hml]; simpa using hL) (Steps.refl _) (argsL := argsL) (rest := st) (lenOf hpd hal) rfl (by show 2 * 0 + _ ≤ _; omega) (hb hby hd) (fun _ _ => ⟨rfl, rfl, hc, hsl⟩)
  dsimp only [Pt.U, Pt.locs, Pt.cells, Pt.slots] at XB l1 y1 z1 stp hQB
  subst l1 y1 z1
  obtain ⟨NB, A', hq, RB⟩ := hQB
  obtain ⟨s₂, o, hs, r⟩ := h _ A' hq TB _ XB (Fr.app N NB) (by rw [hlen' _ _ hq, hAl]; omega) RB
  exact ⟨s₂, o, stp.trans hs, r⟩
/-- a private instance method by its contract -/
theorem Gd.pcall (G : Gd l Z a0 n0 b R cs ss own nm code ml ret Q K) {idx maxL i : Nat} {y : MethodName} {bytes : ByteArray} {rt : Option FieldType} {rm : Room} {Q' : Option Value → AHeap → Prop} {ps : List FieldType} {fs : List (String × String × Value)} {C : String} (argsL : List Value) (hst : st' = argsL.reverse ++ .ref (ad n0 i) :: st) (hd : decode code pc = .ok (.invokevirtual idx, 3)) (w1 : (Jvm.Cond.methodLink own idx y).before a0 Z = true) (wp : (Jvm.Cond.privateMethod y).before a0 Z = true) (ws : (Jvm.Cond.selects y.cls y y).before a0 Z = true) (wm : (Jvm.Cond.instanceMethod y).before a0 Z = true) (w3 : (Jvm.Cond.initialized y.cls).before a0 Z = true) (w4 : (Jvm.Cond.code y bytes maxL rt).before a0 Z = true) (hy : y.cls ≠ "java/lang/invoke/MethodHandle" ∧ y.cls ≠ "java/lang/invoke/VarHandle") (hA : A[i]? = some (.inl (C, fs)))
    (hM : Meth l Z a0 [] y bytes maxL rt rm rm.cells rm.slots n0 (.ref (ad n0 i) :: argsL).toArray A Q') (hpd : parseMethodDescriptor y.desc = some ⟨ps, rt⟩) (hal : argsL.length = ps.length) (hL : Ls.length = ml) (hf : rm.frames + 1 ≤ R.frames) (hl : (st.map fun v => v.category).sum + (maxL + 11) + rm.locals ≤ R.locals) (hc : k + rm.cells ≤ R.cells) (hsl : n + rm.slots ≤ R.slots) (hlen' : ∀ v A', Q' v A' → A'.length = A.length + rm.cells)
    (h : ∀ v A', Q' v A' → K (pc + 3) Ls (v.toList ++ st) A' (k + rm.cells) (n + rm.slots)) : K pc Ls st' A k n := by
  subst hst
  obtain ⟨p, e, s, m, args, below, meth, c, hx, hby, hml, hown, -, hZ, -, -, -, rfl⟩ := G
  intro T locs X N hAl RP
  obtain ⟨cq, q1, q2⟩ := (RP.2 i _ hA).1.cell
  obtain ⟨v, _, ⟨TB, LB, kB, nB⟩, -, XB, ⟨Lc, hQB, l1, y1, z1⟩, stp⟩ := X.privateBack hx (y := y) hown (mvT hZ w1) (mvT hZ wm) (mvT hZ ws) (Cond.privateMethod_at (mvP hZ wp (args := #[]))) (mvT hZ w4) hy (backOf (W := (st.map fun v => v.category).sum) (Q := fun v h L => Fr n0 L ∧ ∃ A', Q' v A' ∧ Rep Z a0 n0 h A') (hM T.heap RP) hZ w4 w3 hf hl) (g := mkF m pc Ls.toArray (argsL.reverse ++ .ref (ad n0 i) :: st)) rfl (by rw [hml]; simpa using hL) (Steps.refl _) (a := ad n0 i) q1 q2 (argsL := argsL) (rest := st) (lenOf hpd hal) rfl (by show 2 * 0 + _ ≤ _; omega) (hb hby hd) (fun _ _ => ⟨rfl, rfl, hc, hsl⟩)
  dsimp only [Pt.U, Pt.locs, Pt.cells, Pt.slots] at XB l1 y1 z1 stp hQB
  subst l1 y1 z1
  obtain ⟨NB, A', hq, RB⟩ := hQB
  obtain ⟨s₂, o, hs, r⟩ := h _ A' hq TB _ XB (Fr.app N NB) (by rw [hlen' _ _ hq, hAl]; omega) RB
  exact ⟨s₂, o, stp.trans hs, r⟩
theorem COk.keep {h h' : Heap} {a b : Addr} {c : ACell} (K : Keep h h' [b]) (ne : a ≠ b) (H : COk Z a0 h a c) : COk Z a0 h' a c := by
  have hn : a ∉ [b] := ninS ne nin0
  match c, H with
  | .inl (C, fs), ⟨h1, h2, h3⟩ => exact ⟨h1.keep K, h2, fun j n d v hj => ⟨(h3 j n d v hj).1.keep K hn, (h3 j n d v hj).2⟩⟩
  | .inr (ty, vs), ⟨h0, c, h1, h2⟩ => exact ⟨h0.keep K, c, ⟨K.2.1 a c h1.1 hn, h1.2⟩, h2⟩
theorem arv_of {h : Heap} {a : Addr} {ty : FieldType} {vs : List Value} (dv : Value) (H : COk Z a0 h a (.inr (ty, vs))) : ∃ k, Arv Z h a k ty (Int32.ofNat vs.length) vs dv ∧ (Int32.ofNat vs.length).toNatClampNeg = vs.length := by
  obtain ⟨-, c, h1, h2, h3, h4⟩ := H
  have hz : (Int32.ofNat vs.length).toInt = (vs.length : Int) := Int32.toInt_ofNat_of_lt (by omega)
  have hn : (Int32.ofNat vs.length).toNatClampNeg = vs.length := by show (Int32.ofNat vs.length).toInt.toNat = _; rw [hz]; rfl
  have hs : c.slots.size = vs.length := by rw [h2]; rfl
  have hg : ∀ i, i < vs.length → vs[i]? = some (vs.getD i dv) := fun i hi => by
    rw [List.getD_eq_getElem?_getD, List.getElem?_eq_getElem hi]; rfl
  refine ⟨c.cls, ⟨c, h1, rfl, by rw [hs, hn], ?_, fun i hi => ?_, fun i hi => ?_⟩, hn⟩
  · rw [Int32.lt_iff_toInt_lt, hz]
    have : (0 : Int32).toInt = 0 := by decide
    omega
  · rw [hs] at hi
    rw [h2, ← hg i hi]
    simp
  · rw [hs] at hi
    exact h4 _ (List.mem_of_getElem? (hg i hi))
/-- System.arraycopy between two arrays of one plain kind -/
theorem Gd.acopy (G : Gd l Z a0 n0 b R cs ss own nm code ml ret Q K) {idx i j : Nat} {ty : FieldType} {vs vd : List Value} {sp dp nn : Int32} (spn dpn nnn : Nat) (hd : decode code pc = .ok (.invokestatic idx, 3)) (w1 : (Jvm.Cond.methodLink own idx Jvm.Stand.acN).before a0 Z = true) (w2 : (Jvm.Cond.native Jvm.Stand.acN).before a0 Z = true) (w3 : (Jvm.Cond.static Jvm.Stand.acN).before a0 Z = true) (w4 : (Jvm.Cond.initialized "java/lang/System").before a0 Z = true)
    (hA : A[i]? = some (.inr (ty, vs))) (hB : A[j]? = some (.inr (ty, vd))) (hty : refKind ty = false) (h1 : sp.toInt = (spn : Int)) (h2 : dp.toInt = (dpn : Int)) (h3 : nn.toInt = (nnn : Int)) (h4 : spn + nnn ≤ vs.length) (h5 : dpn + nnn ≤ vd.length) (hL : Ls.length = ml) (hf : 1 ≤ R.frames) (hlo : (st.map fun v => v.category).sum + (nativeFrameWords "java/lang/System" "arraycopy" 5 + 11) ≤ R.locals)
    (h : K (pc + 3) Ls st (A.set j (.inr (ty, vd.take dpn ++ (vs.drop spn).take nnn ++ vd.drop (dpn + nnn)))) k n) : K pc Ls (.int nn :: .int dp :: .ref (ad n0 j) :: .int sp :: .ref (ad n0 i) :: st) A k n := by
  obtain ⟨p, e, s, m, args, below, meth, c, hx, hby, hml, hown, -, hZ, -, -, hsb, rfl⟩ := G
  intro T locs X N hAl RP
  obtain ⟨k1, V1, z1⟩ := arv_of (.int 0) (RP.2 i _ hA)
  obtain ⟨k2, V2, z2⟩ := arv_of (.int 0) (RP.2 j _ hB)
  have z0 : (0 : Int32).toInt = 0 := by decide
  have n1 : sp.toNatClampNeg = spn := by show sp.toInt.toNat = _; rw [h1]; rfl
  have n2 : dp.toNatClampNeg = dpn := by show dp.toInt.toNat = _; rw [h2]; rfl
  have n3 : nn.toNatClampNeg = nnn := by show nn.toInt.toNat = _; rw [h3]; rfl
  have hus : (vs.drop spn).take nnn = (List.range nn.toNatClampNeg).map fun i => vs.getD (sp.toNatClampNeg + i) (.int 0) := by
    rw [n1, n3]
    apply List.ext_getElem?
    intro q
    rw [List.getElem?_map, List.getElem?_take]
    by_cases hq : q < nnn
    · rw [if_pos hq, List.getElem?_drop, List.getElem?_range hq, List.getElem?_eq_getElem (by omega)]
      simp [List.getD_eq_getElem?_getD, List.getElem?_eq_getElem (show spn + q < vs.length by omega)]
    · rw [if_neg hq, List.getElem?_eq_none (by simp; omega)]
      rfl
  obtain ⟨T', h', L', X', e', N', KE, V', stp⟩ := cpA X hx hZ hown w1 w2 w3 w4 rfl V1 V2 (Or.inl ⟨rfl, hty⟩) (by rw [Int32.lt_iff_toInt_lt]; omega) (by rw [Int32.lt_iff_toInt_lt]; omega) (by rw [Int32.lt_iff_toInt_lt]; omega) (by rw [n1, n3, z1]; exact h4) (by rw [n2, n3, z2]; exact h5) hus (by rw [n2, n3]; exact h5) N (ad_le _ _) (g := mkF m pc Ls.toArray (.int nn :: .int dp :: .ref (ad n0 j) :: .int sp :: .ref (ad n0 i) :: st)) rfl (by rw [hml]; simpa using hL) rfl (hb hby hd) hf (W := (st.map fun v => v.category).sum) (by show 2 * 0 + _ ≤ _; omega) hlo
  rw [n2, n3] at V'
  have hsz : h'.size = T.heap.size := by
    have q1 := X'.heapSize
    have q2 := KE.1
    rw [e'] at q1
    have q3 := RP.1
    omega
  have R' : Rep Z a0 n0 h' (A.set j (.inr (ty, vd.take dpn ++ (vs.drop spn).take nnn ++ vd.drop (dpn + nnn)))) := by
    refine ⟨by rw [hsz, RP.1]; simp, fun q d hq => ?_⟩
    rw [List.getElem?_set] at hq
    split at hq
    · rename_i eq
      subst eq
      split at hq
      · cases hq
        obtain ⟨E2, c2, A2, s2, l2, f2⟩ := RP.2 j _ hB
        obtain ⟨c3, A3, -, S3, -, H3, G3⟩ := V'
        have hln : (vd.take dpn ++ (vs.drop spn).take nnn ++ vd.drop (dpn + nnn)).length = vd.length := by simp; omega
        refine ⟨E2.keep KE, c3, A3, ?_, by rw [hln]; exact l2, fun v hv => ?_⟩
        · apply Array.ext'
          apply List.ext_getElem?
          intro r
          rw [Array.getElem?_toList]
          by_cases hr : r < c3.slots.size
          · rw [H3 r hr]
            have hr' : r < (vd.take dpn ++ (vs.drop spn).take nnn ++ vd.drop (dpn + nnn)).length := by rw [hln]; rw [S3, z2] at hr; exact hr
            rw [List.getD_eq_getElem?_getD, List.getElem?_eq_getElem hr']; rfl
          · rw [Array.getElem?_eq_none (by omega), List.getElem?_eq_none (by rw [S3, z2] at hr; simp only [List.toList_toArray]; rw [hln]; omega)]
        · obtain ⟨r, hr, er⟩ := List.mem_iff_getElem.mp hv
          have hr2 : r < c3.slots.size := by rw [S3, z2, ← hln]; exact hr
          have := G3 r hr2
          rw [List.getD_eq_getElem?_getD, List.getElem?_eq_getElem hr] at this
          rw [← er]; exact this
      · cases hq
    · rename_i ne
      exact (RP.2 q d hq).keep KE (ad_ne fun e => ne e.symm)
  obtain ⟨s₂, o, hs, r⟩ := h T' L' X' N' (by rw [List.length_set]; exact hAl) (by rw [e']; exact R')
  exact ⟨s₂, o, stp _ hs, r⟩
/-- clone() of an array of a plain kind -/
theorem Gd.aclone (G : Gd l Z a0 n0 b R cs ss own nm code ml ret Q K) {idx i : Nat} {ty : FieldType} {vs : List Value} {C : String} (cap : Nat) (hd : decode code pc = .ok (.invokevirtual idx, 3)) (w1 : (Jvm.Cond.methodLink own idx ⟨C, "clone", "()Ljava/lang/Object;"⟩).before a0 Z = true) (w2 : (Jvm.Cond.sameMethod C "java/lang/Object" "clone" "()Ljava/lang/Object;").before a0 Z = true) (w3 : (Jvm.Cond.native ⟨"java/lang/Object", "clone", "()Ljava/lang/Object;"⟩).before a0 Z = true)
    (w4 : (Jvm.Cond.instanceMethod ⟨"java/lang/Object", "clone", "()Ljava/lang/Object;"⟩).before a0 Z = true) (w5 : (Jvm.Cond.selects C ⟨C, "clone", "()Ljava/lang/Object;"⟩ ⟨"java/lang/Object", "clone", "()Ljava/lang/Object;"⟩).before a0 Z = true) (w6 : (Jvm.Cond.castable C "java/lang/Cloneable").before a0 Z = true)
    (hA : A[i]? = some (.inr (ty, vs))) (hC : "[" ++ ty.toString = C) (hcap : vs.length ≤ cap) (hL : Ls.length = ml) (hf : 1 ≤ R.frames) (hlo : (st.map fun v => v.category).sum + 14 ≤ R.locals) (hc : k + 1 ≤ R.cells) (hsl : n + cap ≤ R.slots)
    (h : K (pc + 3) Ls (.ref (ad n0 A.length) :: st) (A ++ [.inr (ty, vs)]) (k + 1) (n + cap)) : K pc Ls (.ref (ad n0 i) :: st) A k n := by
  obtain ⟨p, e, s, m, args, below, meth, c, hx, hby, hml, hown, -, hZ, -, -, hsb, rfl⟩ := G
  intro T locs X N hAl RP
  have H0 := RP.2 i _ hA
  obtain ⟨k1, V1, z1⟩ := arv_of (.int 0) H0
  obtain ⟨E0, c0, A0, s0, l0, f0⟩ := H0
  rw [hC] at E0
  obtain ⟨T', h', X', e', E, V', Ex, stp⟩ := cloneH X hx hZ hown w1 w2 w3 w4 w5 w6 rfl V1.arh E0 (g := mkF m pc Ls.toArray (.ref (ad n0 i) :: st)) rfl (by rw [hml]; simpa using hL) rfl (hb hby hd) hf (W := (st.map fun v => v.category).sum) (cap := cap) (by show 2 * 0 + _ ≤ _; omega) hlo (by rw [z1]; exact hcap) hc hsl
  have hsz : h'.size = T.heap.size + 1 := by
    have q1 := X'.heapSize
    have q2 : T.heap.size < h'.size := Ex.lt
    rw [e'] at q1
    have q3 := RP.1
    omega
  have R' : Rep Z a0 n0 h' (A ++ [.inr (ty, vs)]) := by
    refine RP.push E hsz ?_
    obtain ⟨c3, A3, -, S3, -, H3, G3⟩ := V'
    refine ⟨by rw [hC]; exact Ex, c3, A3, ?_, l0, f0⟩
    apply Array.ext'
    apply List.ext_getElem?
    intro r
    rw [Array.getElem?_toList]
    by_cases hr : r < c3.slots.size
    · rw [H3 r hr]
      have hr' : r < vs.length := by rw [S3, z1] at hr; exact hr
      show some (vs.getD r (.int 0)) = _
      rw [List.getD_eq_getElem?_getD]
      simp [List.getElem?_eq_getElem hr']
    · rw [Array.getElem?_eq_none (by omega)]
      rw [S3, z1] at hr
      simp
      omega
  have ea : ad n0 A.length = T.heap.size := RP.1.symm
  obtain ⟨s₂, o, hs, r⟩ := h T' locs X' N (by simp; omega) (by rw [e']; exact R')
  rw [ea] at hs
  exact ⟨s₂, o, stp _ hs, r⟩
/-- checkcast of an array to its own class -/
theorem Gd.castA (G : Gd l Z a0 n0 b R cs ss own nm code ml ret Q K) {idx i : Nat} {ty : FieldType} {vs : List Value} {C : String} (hd : decode code pc = .ok (.checkcast idx, 3)) (w : (Jvm.Cond.classLink own idx C).before a0 Z = true) (hA : A[i]? = some (.inr (ty, vs))) (hC : "[" ++ ty.toString = C) (h : K (pc + 3) Ls (.ref (ad n0 i) :: st) A k n) : K pc Ls (.ref (ad n0 i) :: st) A k n := by
  obtain ⟨p, e, s, m, args, below, meth, c, hx, hby, hml, hown, -, hZ, -, -, hsb, rfl⟩ := G
  intro T locs X N hAl RP
  obtain ⟨E0, -⟩ := RP.2 i _ hA
  rw [hC] at E0
  obtain ⟨T', X', e', stp⟩ := castY X hx hZ hown w rfl (Ins.self E0) (g := mkF m pc Ls.toArray (.ref (ad n0 i) :: st)) rfl rfl (hb hby hd)
  obtain ⟨s₂, o, hs, r⟩ := h T' locs X' N hAl (by rw [e']; exact RP)
  exact ⟨s₂, o, stp _ hs, r⟩
end Rules
end Jvm.Pilot.@@N@@
namespace Jvm.Pilot.@@N@@
open Jvm Jvm.ClassFile Sem Op Lib Jvm.Free Jvm.Stand Jvm.LawKit Jvm.RoadKit Bundle Jvm.Pilot.@@N@@.Jvm.D
theorem own_pd0 : parseMethodDescriptor "()V" = some ⟨[], none⟩ := by decide +kernel
theorem own_pd1 : parseMethodDescriptor "([I[J[JJ)V" = some ⟨[.array (.int), .array (.long), .array (.long), .long], none⟩ := by decide +kernel
theorem own_pd2 : parseMethodDescriptor "(IIIII)Z" = some ⟨[.int, .int, .int, .int, .int], some (.boolean)⟩ := by decide +kernel
theorem own_pd3 : parseMethodDescriptor "(I)I" = some ⟨[.int], some (.int)⟩ := by decide +kernel
theorem own_fo (Z : State) (a0 : Array Value) (hw : ∀ d ∈ tables_1, d.before a0 Z = true) : FOk Z a0 "com/example/tidemark/tidemark/model/RecordTally" [("partitions", "[I", .null), ("versions", "[J", .null), ("records", "[J", .null), ("backed", "J", .long 0)] :=
  (((((FOk.nil _).cons (n := "backed") (d := "J") (t := .long) (Or.inr (hw _ (List.mem_of_getElem? (i := 33) rfl))) (by decide) (by decide)).cons (n := "records") (d := "[J") (t := .array (.long)) (Or.inr (hw _ (List.mem_of_getElem? (i := 31) rfl))) (by decide) (by decide)).cons (n := "versions") (d := "[J") (t := .array (.long)) (Or.inr (hw _ (List.mem_of_getElem? (i := 29) rfl))) (by decide) (by decide)).cons (n := "partitions") (d := "[I") (t := .array (.int)) (Or.inr (hw _ (List.mem_of_getElem? (i := 21) rfl))) (by decide) (by decide))
theorem d1_0 : decode prog_89_method_1_code 0 = .ok (.aload_n 0, 1) := by decide +kernel
theorem d1_1 : decode prog_89_method_1_code 1 = .ok (.invokespecial 1, 3) := by decide +kernel
theorem d1_4 : decode prog_89_method_1_code 4 = .ok (.aload_n 2, 1) := by decide +kernel
theorem d1_5 : decode prog_89_method_1_code 5 = .ok (.arraylength, 1) := by decide +kernel
theorem d1_6 : decode prog_89_method_1_code 6 = .ok (.aload_n 1, 1) := by decide +kernel
theorem d1_7 : decode prog_89_method_1_code 7 = .ok (.arraylength, 1) := by decide +kernel
theorem d1_8 : decode prog_89_method_1_code 8 = .ok (.if_icmp .ne 10, 3) := by decide +kernel
theorem d1_11 : decode prog_89_method_1_code 11 = .ok (.aload_n 3, 1) := by decide +kernel
theorem d1_12 : decode prog_89_method_1_code 12 = .ok (.arraylength, 1) := by decide +kernel
theorem d1_13 : decode prog_89_method_1_code 13 = .ok (.aload_n 1, 1) := by decide +kernel
theorem d1_14 : decode prog_89_method_1_code 14 = .ok (.arraylength, 1) := by decide +kernel
theorem d1_15 : decode prog_89_method_1_code 15 = .ok (.if_icmp .eq 22, 3) := by decide +kernel
theorem d1_18 : decode prog_89_method_1_code 18 = .ok (.new 7, 3) := by decide +kernel
theorem d1_21 : decode prog_89_method_1_code 21 = .ok (.dup, 1) := by decide +kernel
theorem d1_22 : decode prog_89_method_1_code 22 = .ok (.aload_n 1, 1) := by decide +kernel
theorem d1_23 : decode prog_89_method_1_code 23 = .ok (.arraylength, 1) := by decide +kernel
theorem d1_24 : decode prog_89_method_1_code 24 = .ok (.aload_n 2, 1) := by decide +kernel
theorem d1_25 : decode prog_89_method_1_code 25 = .ok (.arraylength, 1) := by decide +kernel
theorem d1_26 : decode prog_89_method_1_code 26 = .ok (.aload_n 3, 1) := by decide +kernel
theorem d1_27 : decode prog_89_method_1_code 27 = .ok (.arraylength, 1) := by decide +kernel
theorem d1_28 : decode prog_89_method_1_code 28 = .ok (.invokedynamic 9, 5) := by decide +kernel
theorem d1_33 : decode prog_89_method_1_code 33 = .ok (.invokespecial 13, 3) := by decide +kernel
theorem d1_36 : decode prog_89_method_1_code 36 = .ok (.athrow, 1) := by decide +kernel
theorem d1_37 : decode prog_89_method_1_code 37 = .ok (.iconst 0, 1) := by decide +kernel
theorem d1_38 : decode prog_89_method_1_code 38 = .ok (.istore 6, 2) := by decide +kernel
theorem d1_40 : decode prog_89_method_1_code 40 = .ok (.iload 6, 2) := by decide +kernel
theorem d1_42 : decode prog_89_method_1_code 42 = .ok (.aload_n 1, 1) := by decide +kernel
theorem d1_43 : decode prog_89_method_1_code 43 = .ok (.arraylength, 1) := by decide +kernel
theorem d1_44 : decode prog_89_method_1_code 44 = .ok (.if_icmp .ge 89, 3) := by decide +kernel
theorem d1_47 : decode prog_89_method_1_code 47 = .ok (.iload 6, 2) := by decide +kernel
theorem d1_49 : decode prog_89_method_1_code 49 = .ok (.ifCond .ne 7, 3) := by decide +kernel
theorem d1_52 : decode prog_89_method_1_code 52 = .ok (.iconst 0, 1) := by decide +kernel
theorem d1_53 : decode prog_89_method_1_code 53 = .ok (.goto 11, 3) := by decide +kernel
theorem d1_56 : decode prog_89_method_1_code 56 = .ok (.aload_n 1, 1) := by decide +kernel
theorem d1_57 : decode prog_89_method_1_code 57 = .ok (.iload 6, 2) := by decide +kernel
theorem d1_59 : decode prog_89_method_1_code 59 = .ok (.iconst 1, 1) := by decide +kernel
theorem d1_60 : decode prog_89_method_1_code 60 = .ok (.isub, 1) := by decide +kernel
theorem d1_61 : decode prog_89_method_1_code 61 = .ok (.iaload, 1) := by decide +kernel
theorem d1_62 : decode prog_89_method_1_code 62 = .ok (.iconst 1, 1) := by decide +kernel
theorem d1_63 : decode prog_89_method_1_code 63 = .ok (.iadd, 1) := by decide +kernel
theorem d1_64 : decode prog_89_method_1_code 64 = .ok (.istore 7, 2) := by decide +kernel
theorem d1_66 : decode prog_89_method_1_code 66 = .ok (.aload_n 1, 1) := by decide +kernel
theorem d1_67 : decode prog_89_method_1_code 67 = .ok (.iload 6, 2) := by decide +kernel
theorem d1_69 : decode prog_89_method_1_code 69 = .ok (.iaload, 1) := by decide +kernel
theorem d1_70 : decode prog_89_method_1_code 70 = .ok (.iload 7, 2) := by decide +kernel
theorem d1_72 : decode prog_89_method_1_code 72 = .ok (.if_icmp .lt 30, 3) := by decide +kernel
theorem d1_75 : decode prog_89_method_1_code 75 = .ok (.aload_n 1, 1) := by decide +kernel
theorem d1_76 : decode prog_89_method_1_code 76 = .ok (.iload 6, 2) := by decide +kernel
theorem d1_78 : decode prog_89_method_1_code 78 = .ok (.iaload, 1) := by decide +kernel
theorem d1_79 : decode prog_89_method_1_code 79 = .ok (.ldc 18, 2) := by decide +kernel
theorem d1_81 : decode prog_89_method_1_code 81 = .ok (.if_icmp .ge 21, 3) := by decide +kernel
theorem d1_84 : decode prog_89_method_1_code 84 = .ok (.aload_n 2, 1) := by decide +kernel
theorem d1_85 : decode prog_89_method_1_code 85 = .ok (.iload 6, 2) := by decide +kernel
theorem d1_87 : decode prog_89_method_1_code 87 = .ok (.laload, 1) := by decide +kernel
theorem d1_88 : decode prog_89_method_1_code 88 = .ok (.lconst 1, 1) := by decide +kernel
theorem d1_89 : decode prog_89_method_1_code 89 = .ok (.lcmp, 1) := by decide +kernel
theorem d1_90 : decode prog_89_method_1_code 90 = .ok (.ifCond .lt 12, 3) := by decide +kernel
theorem d1_93 : decode prog_89_method_1_code 93 = .ok (.aload_n 3, 1) := by decide +kernel
theorem d1_94 : decode prog_89_method_1_code 94 = .ok (.iload 6, 2) := by decide +kernel
theorem d1_96 : decode prog_89_method_1_code 96 = .ok (.laload, 1) := by decide +kernel
theorem d1_97 : decode prog_89_method_1_code 97 = .ok (.lconst 0, 1) := by decide +kernel
theorem d1_98 : decode prog_89_method_1_code 98 = .ok (.lcmp, 1) := by decide +kernel
theorem d1_99 : decode prog_89_method_1_code 99 = .ok (.ifCond .ge 28, 3) := by decide +kernel
theorem d1_102 : decode prog_89_method_1_code 102 = .ok (.new 7, 3) := by decide +kernel
theorem d1_105 : decode prog_89_method_1_code 105 = .ok (.dup, 1) := by decide +kernel
theorem d1_106 : decode prog_89_method_1_code 106 = .ok (.aload_n 1, 1) := by decide +kernel
theorem d1_107 : decode prog_89_method_1_code 107 = .ok (.iload 6, 2) := by decide +kernel
theorem d1_109 : decode prog_89_method_1_code 109 = .ok (.iaload, 1) := by decide +kernel
theorem d1_110 : decode prog_89_method_1_code 110 = .ok (.aload_n 2, 1) := by decide +kernel
theorem d1_111 : decode prog_89_method_1_code 111 = .ok (.iload 6, 2) := by decide +kernel
theorem d1_113 : decode prog_89_method_1_code 113 = .ok (.laload, 1) := by decide +kernel
theorem d1_114 : decode prog_89_method_1_code 114 = .ok (.aload_n 3, 1) := by decide +kernel
theorem d1_115 : decode prog_89_method_1_code 115 = .ok (.iload 6, 2) := by decide +kernel
theorem d1_117 : decode prog_89_method_1_code 117 = .ok (.laload, 1) := by decide +kernel
theorem d1_118 : decode prog_89_method_1_code 118 = .ok (.invokedynamic 19, 5) := by decide +kernel
theorem d1_123 : decode prog_89_method_1_code 123 = .ok (.invokespecial 13, 3) := by decide +kernel
theorem d1_126 : decode prog_89_method_1_code 126 = .ok (.athrow, 1) := by decide +kernel
theorem d1_127 : decode prog_89_method_1_code 127 = .ok (.iinc 6 1, 3) := by decide +kernel
theorem d1_130 : decode prog_89_method_1_code 130 = .ok (.goto (-90), 3) := by decide +kernel
theorem d1_133 : decode prog_89_method_1_code 133 = .ok (.lload 4, 2) := by decide +kernel
theorem d1_135 : decode prog_89_method_1_code 135 = .ok (.lconst 0, 1) := by decide +kernel
theorem d1_136 : decode prog_89_method_1_code 136 = .ok (.lcmp, 1) := by decide +kernel
theorem d1_137 : decode prog_89_method_1_code 137 = .ok (.ifCond .ge 18, 3) := by decide +kernel
theorem d1_140 : decode prog_89_method_1_code 140 = .ok (.new 7, 3) := by decide +kernel
theorem d1_143 : decode prog_89_method_1_code 143 = .ok (.dup, 1) := by decide +kernel
theorem d1_144 : decode prog_89_method_1_code 144 = .ok (.lload 4, 2) := by decide +kernel
theorem d1_146 : decode prog_89_method_1_code 146 = .ok (.invokedynamic 22, 5) := by decide +kernel
theorem d1_151 : decode prog_89_method_1_code 151 = .ok (.invokespecial 13, 3) := by decide +kernel
theorem d1_154 : decode prog_89_method_1_code 154 = .ok (.athrow, 1) := by decide +kernel
theorem d1_155 : decode prog_89_method_1_code 155 = .ok (.aload_n 0, 1) := by decide +kernel
theorem d1_156 : decode prog_89_method_1_code 156 = .ok (.aload_n 1, 1) := by decide +kernel
theorem d1_157 : decode prog_89_method_1_code 157 = .ok (.invokevirtual 25, 3) := by decide +kernel
theorem d1_160 : decode prog_89_method_1_code 160 = .ok (.checkcast 26, 3) := by decide +kernel
theorem d1_163 : decode prog_89_method_1_code 163 = .ok (.putfield 31, 3) := by decide +kernel
theorem d1_166 : decode prog_89_method_1_code 166 = .ok (.aload_n 0, 1) := by decide +kernel
theorem d1_167 : decode prog_89_method_1_code 167 = .ok (.aload_n 2, 1) := by decide +kernel
theorem d1_168 : decode prog_89_method_1_code 168 = .ok (.invokevirtual 36, 3) := by decide +kernel
theorem d1_171 : decode prog_89_method_1_code 171 = .ok (.checkcast 37, 3) := by decide +kernel
theorem d1_174 : decode prog_89_method_1_code 174 = .ok (.putfield 39, 3) := by decide +kernel
theorem d1_177 : decode prog_89_method_1_code 177 = .ok (.aload_n 0, 1) := by decide +kernel
theorem d1_178 : decode prog_89_method_1_code 178 = .ok (.aload_n 3, 1) := by decide +kernel
theorem d1_179 : decode prog_89_method_1_code 179 = .ok (.invokevirtual 36, 3) := by decide +kernel
theorem d1_182 : decode prog_89_method_1_code 182 = .ok (.checkcast 37, 3) := by decide +kernel
theorem d1_185 : decode prog_89_method_1_code 185 = .ok (.putfield 42, 3) := by decide +kernel
theorem d1_188 : decode prog_89_method_1_code 188 = .ok (.aload_n 0, 1) := by decide +kernel
theorem d1_189 : decode prog_89_method_1_code 189 = .ok (.lload 4, 2) := by decide +kernel
theorem d1_191 : decode prog_89_method_1_code 191 = .ok (.putfield 45, 3) := by decide +kernel
theorem d1_194 : decode prog_89_method_1_code 194 = .ok (.return_, 1) := by decide +kernel
def own_x_m_1_0 (bk : Int64) : Int32 := (0 : Int32)
theorem own_pn4 : plainName "com/example/tidemark/tidemark/model/RecordTally" = true := by first | (simp [plainName, overriddenIn]; done) | decide +kernel
set_option maxRecDepth 65536 in
set_option maxHeartbeats 40000000 in
theorem m_1_0 (l : Launch) (Z : State) (a0 : Array Value) (hw : ∀ d ∈ tables_1, d.before a0 Z = true) (n0 : Nat) (ws : List Jvm.Cond) (bk : Int64) (hb : ¬ lcmpW bk (0 : Int64) < (0 : Int32)) :
    Meth l Z a0 ws (⟨"com/example/tidemark/tidemark/model/RecordTally", "<init>", "([I[J[JJ)V"⟩ : MethodName) prog_89_method_1_code 8 none ({ frames := 1, cells := 3, slots := 0, locals := 20 } : Room) 3 0 n0 #[.ref (ad n0 3), .ref (ad n0 0), .ref (ad n0 1), .ref (ad n0 2), .long bk] ([.inr (.int, []), .inr (.long, []), .inr (.long, []), .inl ("com/example/tidemark/tidemark/model/RecordTally", [("partitions", "[I", .null), ("versions", "[J", .null), ("records", "[J", .null), ("backed", "J", .long (0 : Int64))])] : AHeap) (fun r A' => r = none ∧ A' = ([.inr (.int, []), .inr (.long, []), .inr (.long, []), .inl ("com/example/tidemark/tidemark/model/RecordTally", [("partitions", "[I", .ref (ad n0 4)), ("versions", "[J", .ref (ad n0 5)), ("records", "[J", .ref (ad n0 6)), ("backed", "J", .long bk)]), .inr (.int, []), .inr (.long, []), .inr (.long, [])] : AHeap)) := by
  refine Meth.of (plainFor_of_name own_pn4) (Ls := [.val (.ref (ad n0 3)), .val (.ref (ad n0 0)), .val (.ref (ad n0 1)), .val (.ref (ad n0 2)), .val (.long bk), .second, .unset, .unset]) (fun m => by first | (simp [entryFrame, mkF, argsToLocals, Value.category, maxLocals]; done) | rfl) ?_
  intro K G
  have he : own_x_m_1_0 bk = own_x_m_1_0 bk := rfl
  refine G.aloadN d1_0 rfl rfl ?_
  refine G.initObj d1_1 (hw _ (List.mem_of_getElem? (i := 8) rfl)) (hw _ (List.mem_of_getElem? (i := 9) rfl)) (hw _ (List.mem_of_getElem? (i := 10) rfl)) rfl (Nat.le_of_ble_eq_true rfl) (Nat.le_of_ble_eq_true rfl) ?_
  refine G.aloadN d1_4 rfl rfl ?_
  refine G.alen (0) d1_5 rfl rfl ?_
  refine G.aloadN d1_6 rfl rfl ?_
  refine G.alen (0) d1_7 rfl rfl ?_
  refine G.icmp_ne 18 d1_8 (by decide) rfl (fun h8 => absurd h8 (by decide)) (fun _ => ?_)
  refine G.aloadN d1_11 rfl rfl ?_
  refine G.alen (0) d1_12 rfl rfl ?_
  refine G.aloadN d1_13 rfl rfl ?_
  refine G.alen (0) d1_14 rfl rfl ?_
  refine G.icmp_eq 37 d1_15 (by decide) rfl (fun _ => ?_) (fun h15 => absurd h15 (by decide))
  refine G.iconst (0) d1_37 rfl ?_
  refine G.istore6 d1_38 rfl ?_
  refine G.iload d1_40 rfl ?_
  refine G.aloadN d1_42 rfl rfl ?_
  refine G.alen (0) d1_43 rfl rfl ?_
  refine G.icmp_ge 133 d1_44 (by decide) rfl (fun _ => ?_) (fun h44 => absurd h44 (by decide))
  refine G.lload d1_133 rfl ?_
  refine G.lconst (0) d1_135 rfl ?_
  refine G.lcmp d1_136 ?_
  refine G.if_ge 155 d1_137 (by decide) rfl (fun _ => ?_) (fun h137 => absurd h137 (by assumption))
  refine G.aloadN d1_155 rfl rfl ?_
  refine G.aloadN d1_156 rfl rfl ?_
  refine G.aclone 0 d1_157 (hw _ (List.mem_of_getElem? (i := 11) rfl)) (hw _ (List.mem_of_getElem? (i := 12) rfl)) (hw _ (List.mem_of_getElem? (i := 16) rfl)) (hw _ (List.mem_of_getElem? (i := 14) rfl)) (hw _ (List.mem_of_getElem? (i := 15) rfl)) (hw _ (List.mem_of_getElem? (i := 17) rfl)) rfl rfl (Nat.le_of_ble_eq_true rfl) rfl (Nat.le_of_ble_eq_true rfl) (Nat.le_of_ble_eq_true rfl) (Nat.le_of_ble_eq_true rfl) (Nat.le_of_ble_eq_true rfl) ?_
  try simp only [List.set_cons_zero, List.set_cons_succ, List.length_cons, List.length_nil, List.nil_append, List.cons_append, Nat.zero_add, Nat.reduceAdd]
  refine G.castA d1_160 (hw _ (List.mem_of_getElem? (i := 18) rfl)) rfl rfl ?_
  refine G.putf (j := 0) (host := "") d1_163 (Or.inl (hw _ (List.mem_of_getElem? (i := 20) rfl))) (Or.inr ⟨(hw _ (List.mem_of_getElem? (i := 21) rfl)), rfl, rfl⟩) (hw _ (List.mem_of_getElem? (i := 3) rfl)) (ty := .array (.int)) (by decide) rfl rfl rfl rfl ?_
  try simp only [List.set_cons_zero, List.set_cons_succ, List.length_cons, List.length_nil, List.nil_append, List.cons_append, Nat.zero_add, Nat.reduceAdd]
  refine G.aloadN d1_166 rfl rfl ?_
  refine G.aloadN d1_167 rfl rfl ?_
  refine G.aclone 0 d1_168 (hw _ (List.mem_of_getElem? (i := 22) rfl)) (hw _ (List.mem_of_getElem? (i := 23) rfl)) (hw _ (List.mem_of_getElem? (i := 16) rfl)) (hw _ (List.mem_of_getElem? (i := 14) rfl)) (hw _ (List.mem_of_getElem? (i := 24) rfl)) (hw _ (List.mem_of_getElem? (i := 25) rfl)) rfl rfl (Nat.le_of_ble_eq_true rfl) rfl (Nat.le_of_ble_eq_true rfl) (Nat.le_of_ble_eq_true rfl) (Nat.le_of_ble_eq_true rfl) (Nat.le_of_ble_eq_true rfl) ?_
  try simp only [List.set_cons_zero, List.set_cons_succ, List.length_cons, List.length_nil, List.nil_append, List.cons_append, Nat.zero_add, Nat.reduceAdd]
  refine G.castA d1_171 (hw _ (List.mem_of_getElem? (i := 26) rfl)) rfl rfl ?_
  refine G.putf (j := 1) (host := "") d1_174 (Or.inl (hw _ (List.mem_of_getElem? (i := 28) rfl))) (Or.inr ⟨(hw _ (List.mem_of_getElem? (i := 29) rfl)), rfl, rfl⟩) (hw _ (List.mem_of_getElem? (i := 3) rfl)) (ty := .array (.long)) (by decide) rfl rfl rfl rfl ?_
  try simp only [List.set_cons_zero, List.set_cons_succ, List.length_cons, List.length_nil, List.nil_append, List.cons_append, Nat.zero_add, Nat.reduceAdd]
  refine G.aloadN d1_177 rfl rfl ?_
  refine G.aloadN d1_178 rfl rfl ?_
  refine G.aclone 0 d1_179 (hw _ (List.mem_of_getElem? (i := 22) rfl)) (hw _ (List.mem_of_getElem? (i := 23) rfl)) (hw _ (List.mem_of_getElem? (i := 16) rfl)) (hw _ (List.mem_of_getElem? (i := 14) rfl)) (hw _ (List.mem_of_getElem? (i := 24) rfl)) (hw _ (List.mem_of_getElem? (i := 25) rfl)) rfl rfl (Nat.le_of_ble_eq_true rfl) rfl (Nat.le_of_ble_eq_true rfl) (Nat.le_of_ble_eq_true rfl) (Nat.le_of_ble_eq_true rfl) (Nat.le_of_ble_eq_true rfl) ?_
  try simp only [List.set_cons_zero, List.set_cons_succ, List.length_cons, List.length_nil, List.nil_append, List.cons_append, Nat.zero_add, Nat.reduceAdd]
  refine G.castA d1_182 (hw _ (List.mem_of_getElem? (i := 26) rfl)) rfl rfl ?_
  refine G.putf (j := 2) (host := "") d1_185 (Or.inl (hw _ (List.mem_of_getElem? (i := 30) rfl))) (Or.inr ⟨(hw _ (List.mem_of_getElem? (i := 31) rfl)), rfl, rfl⟩) (hw _ (List.mem_of_getElem? (i := 3) rfl)) (ty := .array (.long)) (by decide) rfl rfl rfl rfl ?_
  try simp only [List.set_cons_zero, List.set_cons_succ, List.length_cons, List.length_nil, List.nil_append, List.cons_append, Nat.zero_add, Nat.reduceAdd]
  refine G.aloadN d1_188 rfl rfl ?_
  refine G.lload d1_189 rfl ?_
  refine G.putf (j := 3) (host := "") d1_191 (Or.inl (hw _ (List.mem_of_getElem? (i := 32) rfl))) (Or.inr ⟨(hw _ (List.mem_of_getElem? (i := 33) rfl)), rfl, rfl⟩) (hw _ (List.mem_of_getElem? (i := 3) rfl)) (ty := .long) (by decide) rfl rfl rfl rfl ?_
  try simp only [List.set_cons_zero, List.set_cons_succ, List.length_cons, List.length_nil, List.nil_append, List.cons_append, Nat.zero_add, Nat.reduceAdd]
  exact G.vreturn rfl d1_194 (Nat.le_of_ble_eq_true rfl) (Nat.le_of_ble_eq_true rfl) ⟨rfl, rfl⟩
def own_x_m_1_1 (p0 : Int32) (v0 : Int64) (r0 : Int64) (bk : Int64) : Int32 := (0 : Int32)
set_option maxRecDepth 65536 in
set_option maxHeartbeats 40000000 in
theorem m_1_1 (l : Launch) (Z : State) (a0 : Array Value) (hw : ∀ d ∈ tables_1, d.before a0 Z = true) (n0 : Nat) (ws : List Jvm.Cond) (p0 : Int32) (v0 r0 bk : Int64) (hp0 : ¬ p0 < (0 : Int32)) (hq0 : p0 < (65536 : Int32)) (hv0 : ¬ lcmpW v0 (1 : Int64) < (0 : Int32)) (hr0 : ¬ lcmpW r0 (0 : Int64) < (0 : Int32)) (hb : ¬ lcmpW bk (0 : Int64) < (0 : Int32)) :
    Meth l Z a0 ws (⟨"com/example/tidemark/tidemark/model/RecordTally", "<init>", "([I[J[JJ)V"⟩ : MethodName) prog_89_method_1_code 8 none ({ frames := 1, cells := 3, slots := 3, locals := 20 } : Room) 3 3 n0 #[.ref (ad n0 3), .ref (ad n0 0), .ref (ad n0 1), .ref (ad n0 2), .long bk] ([.inr (.int, [.int p0]), .inr (.long, [.long v0]), .inr (.long, [.long r0]), .inl ("com/example/tidemark/tidemark/model/RecordTally", [("partitions", "[I", .null), ("versions", "[J", .null), ("records", "[J", .null), ("backed", "J", .long (0 : Int64))])] : AHeap) (fun r A' => r = none ∧ A' = ([.inr (.int, [.int p0]), .inr (.long, [.long v0]), .inr (.long, [.long r0]), .inl ("com/example/tidemark/tidemark/model/RecordTally", [("partitions", "[I", .ref (ad n0 4)), ("versions", "[J", .ref (ad n0 5)), ("records", "[J", .ref (ad n0 6)), ("backed", "J", .long bk)]), .inr (.int, [.int p0]), .inr (.long, [.long v0]), .inr (.long, [.long r0])] : AHeap)) := by
  refine Meth.of (plainFor_of_name own_pn4) (Ls := [.val (.ref (ad n0 3)), .val (.ref (ad n0 0)), .val (.ref (ad n0 1)), .val (.ref (ad n0 2)), .val (.long bk), .second, .unset, .unset]) (fun m => by first | (simp [entryFrame, mkF, argsToLocals, Value.category, maxLocals]; done) | rfl) ?_
  intro K G
  have he : own_x_m_1_1 p0 v0 r0 bk = own_x_m_1_1 p0 v0 r0 bk := rfl
  refine G.aloadN d1_0 rfl rfl ?_
  refine G.initObj d1_1 (hw _ (List.mem_of_getElem? (i := 8) rfl)) (hw _ (List.mem_of_getElem? (i := 9) rfl)) (hw _ (List.mem_of_getElem? (i := 10) rfl)) rfl (Nat.le_of_ble_eq_true rfl) (Nat.le_of_ble_eq_true rfl) ?_
  refine G.aloadN d1_4 rfl rfl ?_
  refine G.alen (1) d1_5 rfl rfl ?_
  refine G.aloadN d1_6 rfl rfl ?_
  refine G.alen (1) d1_7 rfl rfl ?_
  refine G.icmp_ne 18 d1_8 (by decide) rfl (fun h8 => absurd h8 (by decide)) (fun _ => ?_)
  refine G.aloadN d1_11 rfl rfl ?_
  refine G.alen (1) d1_12 rfl rfl ?_
  refine G.aloadN d1_13 rfl rfl ?_
  refine G.alen (1) d1_14 rfl rfl ?_
  refine G.icmp_eq 37 d1_15 (by decide) rfl (fun _ => ?_) (fun h15 => absurd h15 (by decide))
  refine G.iconst (0) d1_37 rfl ?_
  refine G.istore6 d1_38 rfl ?_
  refine G.iload d1_40 rfl ?_
  refine G.aloadN d1_42 rfl rfl ?_
  refine G.alen (1) d1_43 rfl rfl ?_
  refine G.icmp_ge 133 d1_44 (by decide) rfl (fun h44 => absurd h44 (by decide)) (fun _ => ?_)
  refine G.iload d1_47 rfl ?_
  refine G.if_ne 56 d1_49 (by decide) rfl (fun h49 => absurd h49 (by decide)) (fun _ => ?_)
  refine G.iconst (0) d1_52 rfl ?_
  refine G.goto 64 d1_53 (by decide) rfl ?_
  refine G.istore7 d1_64 rfl ?_
  refine G.aloadN d1_66 rfl rfl ?_
  refine G.iload d1_67 rfl ?_
  refine G.iald (0) d1_69 rfl (by decide) rfl ?_
  refine G.iload d1_70 rfl ?_
  refine G.icmp_lt 102 d1_72 (by decide) rfl (fun h72 => absurd h72 (by assumption)) (fun _ => ?_)
  refine G.aloadN d1_75 rfl rfl ?_
  refine G.iload d1_76 rfl ?_
  refine G.iald (0) d1_78 rfl (by decide) rfl ?_
  refine G.ldcI d1_79 (hw _ (List.mem_of_getElem? (i := 43) rfl)) ?_
  refine G.icmp_ge 102 d1_81 (by decide) rfl (fun h81 => absurd h81 (fun q => q (by assumption))) (fun _ => ?_)
  refine G.aloadN d1_84 rfl rfl ?_
  refine G.iload d1_85 rfl ?_
  refine G.lald (0) d1_87 rfl (by decide) rfl ?_
  refine G.lconst (1) d1_88 rfl ?_
  refine G.lcmp d1_89 ?_
  refine G.if_lt 102 d1_90 (by decide) rfl (fun h90 => absurd h90 (by assumption)) (fun _ => ?_)
  refine G.aloadN d1_93 rfl rfl ?_
  refine G.iload d1_94 rfl ?_
  refine G.lald (0) d1_96 rfl (by decide) rfl ?_
  refine G.lconst (0) d1_97 rfl ?_
  refine G.lcmp d1_98 ?_
  refine G.if_ge 127 d1_99 (by decide) rfl (fun _ => ?_) (fun h99 => absurd h99 (by assumption))
  refine G.iinc6 (1) d1_127 rfl rfl ?_
  refine G.goto 40 d1_130 (by decide) rfl ?_
  refine G.iload d1_40 rfl ?_
  refine G.aloadN d1_42 rfl rfl ?_
  refine G.alen (1) d1_43 rfl rfl ?_
  refine G.icmp_ge 133 d1_44 (by decide) rfl (fun _ => ?_) (fun h44 => absurd h44 (by decide))
  refine G.lload d1_133 rfl ?_
  refine G.lconst (0) d1_135 rfl ?_
  refine G.lcmp d1_136 ?_
  refine G.if_ge 155 d1_137 (by decide) rfl (fun _ => ?_) (fun h137 => absurd h137 (by assumption))
  refine G.aloadN d1_155 rfl rfl ?_
  refine G.aloadN d1_156 rfl rfl ?_
  refine G.aclone 1 d1_157 (hw _ (List.mem_of_getElem? (i := 11) rfl)) (hw _ (List.mem_of_getElem? (i := 12) rfl)) (hw _ (List.mem_of_getElem? (i := 16) rfl)) (hw _ (List.mem_of_getElem? (i := 14) rfl)) (hw _ (List.mem_of_getElem? (i := 15) rfl)) (hw _ (List.mem_of_getElem? (i := 17) rfl)) rfl rfl (Nat.le_of_ble_eq_true rfl) rfl (Nat.le_of_ble_eq_true rfl) (Nat.le_of_ble_eq_true rfl) (Nat.le_of_ble_eq_true rfl) (Nat.le_of_ble_eq_true rfl) ?_
  try simp only [List.set_cons_zero, List.set_cons_succ, List.length_cons, List.length_nil, List.nil_append, List.cons_append, Nat.zero_add, Nat.reduceAdd]
  refine G.castA d1_160 (hw _ (List.mem_of_getElem? (i := 18) rfl)) rfl rfl ?_
  refine G.putf (j := 0) (host := "") d1_163 (Or.inl (hw _ (List.mem_of_getElem? (i := 20) rfl))) (Or.inr ⟨(hw _ (List.mem_of_getElem? (i := 21) rfl)), rfl, rfl⟩) (hw _ (List.mem_of_getElem? (i := 3) rfl)) (ty := .array (.int)) (by decide) rfl rfl rfl rfl ?_
  try simp only [List.set_cons_zero, List.set_cons_succ, List.length_cons, List.length_nil, List.nil_append, List.cons_append, Nat.zero_add, Nat.reduceAdd]
  refine G.aloadN d1_166 rfl rfl ?_
  refine G.aloadN d1_167 rfl rfl ?_
  refine G.aclone 1 d1_168 (hw _ (List.mem_of_getElem? (i := 22) rfl)) (hw _ (List.mem_of_getElem? (i := 23) rfl)) (hw _ (List.mem_of_getElem? (i := 16) rfl)) (hw _ (List.mem_of_getElem? (i := 14) rfl)) (hw _ (List.mem_of_getElem? (i := 24) rfl)) (hw _ (List.mem_of_getElem? (i := 25) rfl)) rfl rfl (Nat.le_of_ble_eq_true rfl) rfl (Nat.le_of_ble_eq_true rfl) (Nat.le_of_ble_eq_true rfl) (Nat.le_of_ble_eq_true rfl) (Nat.le_of_ble_eq_true rfl) ?_
  try simp only [List.set_cons_zero, List.set_cons_succ, List.length_cons, List.length_nil, List.nil_append, List.cons_append, Nat.zero_add, Nat.reduceAdd]
  refine G.castA d1_171 (hw _ (List.mem_of_getElem? (i := 26) rfl)) rfl rfl ?_
  refine G.putf (j := 1) (host := "") d1_174 (Or.inl (hw _ (List.mem_of_getElem? (i := 28) rfl))) (Or.inr ⟨(hw _ (List.mem_of_getElem? (i := 29) rfl)), rfl, rfl⟩) (hw _ (List.mem_of_getElem? (i := 3) rfl)) (ty := .array (.long)) (by decide) rfl rfl rfl rfl ?_
  try simp only [List.set_cons_zero, List.set_cons_succ, List.length_cons, List.length_nil, List.nil_append, List.cons_append, Nat.zero_add, Nat.reduceAdd]
  refine G.aloadN d1_177 rfl rfl ?_
  refine G.aloadN d1_178 rfl rfl ?_
  refine G.aclone 1 d1_179 (hw _ (List.mem_of_getElem? (i := 22) rfl)) (hw _ (List.mem_of_getElem? (i := 23) rfl)) (hw _ (List.mem_of_getElem? (i := 16) rfl)) (hw _ (List.mem_of_getElem? (i := 14) rfl)) (hw _ (List.mem_of_getElem? (i := 24) rfl)) (hw _ (List.mem_of_getElem? (i := 25) rfl)) rfl rfl (Nat.le_of_ble_eq_true rfl) rfl (Nat.le_of_ble_eq_true rfl) (Nat.le_of_ble_eq_true rfl) (Nat.le_of_ble_eq_true rfl) (Nat.le_of_ble_eq_true rfl) ?_
  try simp only [List.set_cons_zero, List.set_cons_succ, List.length_cons, List.length_nil, List.nil_append, List.cons_append, Nat.zero_add, Nat.reduceAdd]
  refine G.castA d1_182 (hw _ (List.mem_of_getElem? (i := 26) rfl)) rfl rfl ?_
  refine G.putf (j := 2) (host := "") d1_185 (Or.inl (hw _ (List.mem_of_getElem? (i := 30) rfl))) (Or.inr ⟨(hw _ (List.mem_of_getElem? (i := 31) rfl)), rfl, rfl⟩) (hw _ (List.mem_of_getElem? (i := 3) rfl)) (ty := .array (.long)) (by decide) rfl rfl rfl rfl ?_
  try simp only [List.set_cons_zero, List.set_cons_succ, List.length_cons, List.length_nil, List.nil_append, List.cons_append, Nat.zero_add, Nat.reduceAdd]
  refine G.aloadN d1_188 rfl rfl ?_
  refine G.lload d1_189 rfl ?_
  refine G.putf (j := 3) (host := "") d1_191 (Or.inl (hw _ (List.mem_of_getElem? (i := 32) rfl))) (Or.inr ⟨(hw _ (List.mem_of_getElem? (i := 33) rfl)), rfl, rfl⟩) (hw _ (List.mem_of_getElem? (i := 3) rfl)) (ty := .long) (by decide) rfl rfl rfl rfl ?_
  try simp only [List.set_cons_zero, List.set_cons_succ, List.length_cons, List.length_nil, List.nil_append, List.cons_append, Nat.zero_add, Nat.reduceAdd]
  exact G.vreturn rfl d1_194 (Nat.le_of_ble_eq_true rfl) (Nat.le_of_ble_eq_true rfl) ⟨rfl, rfl⟩
def own_x_m_1_2 (p0 : Int32) (p1 : Int32) (v0 : Int64) (v1 : Int64) (r0 : Int64) (r1 : Int64) (bk : Int64) : Int32 := (0 : Int32)
set_option maxRecDepth 65536 in
set_option maxHeartbeats 40000000 in
theorem m_1_2 (l : Launch) (Z : State) (a0 : Array Value) (hw : ∀ d ∈ tables_1, d.before a0 Z = true) (n0 : Nat) (ws : List Jvm.Cond) (p0 p1 : Int32) (v0 v1 r0 r1 bk : Int64) (hp0 : ¬ p0 < (0 : Int32)) (hq0 : p0 < (65536 : Int32)) (hv0 : ¬ lcmpW v0 (1 : Int64) < (0 : Int32)) (hr0 : ¬ lcmpW r0 (0 : Int64) < (0 : Int32)) (hp1 : ¬ p1 < (p0 + (1 : Int32))) (hq1 : p1 < (65536 : Int32)) (hv1 : ¬ lcmpW v1 (1 : Int64) < (0 : Int32)) (hr1 : ¬ lcmpW r1 (0 : Int64) < (0 : Int32)) (hb : ¬ lcmpW bk (0 : Int64) < (0 : Int32)) :
    Meth l Z a0 ws (⟨"com/example/tidemark/tidemark/model/RecordTally", "<init>", "([I[J[JJ)V"⟩ : MethodName) prog_89_method_1_code 8 none ({ frames := 1, cells := 3, slots := 6, locals := 20 } : Room) 3 6 n0 #[.ref (ad n0 3), .ref (ad n0 0), .ref (ad n0 1), .ref (ad n0 2), .long bk] ([.inr (.int, [.int p0, .int p1]), .inr (.long, [.long v0, .long v1]), .inr (.long, [.long r0, .long r1]), .inl ("com/example/tidemark/tidemark/model/RecordTally", [("partitions", "[I", .null), ("versions", "[J", .null), ("records", "[J", .null), ("backed", "J", .long (0 : Int64))])] : AHeap) (fun r A' => r = none ∧ A' = ([.inr (.int, [.int p0, .int p1]), .inr (.long, [.long v0, .long v1]), .inr (.long, [.long r0, .long r1]), .inl ("com/example/tidemark/tidemark/model/RecordTally", [("partitions", "[I", .ref (ad n0 4)), ("versions", "[J", .ref (ad n0 5)), ("records", "[J", .ref (ad n0 6)), ("backed", "J", .long bk)]), .inr (.int, [.int p0, .int p1]), .inr (.long, [.long v0, .long v1]), .inr (.long, [.long r0, .long r1])] : AHeap)) := by
  refine Meth.of (plainFor_of_name own_pn4) (Ls := [.val (.ref (ad n0 3)), .val (.ref (ad n0 0)), .val (.ref (ad n0 1)), .val (.ref (ad n0 2)), .val (.long bk), .second, .unset, .unset]) (fun m => by first | (simp [entryFrame, mkF, argsToLocals, Value.category, maxLocals]; done) | rfl) ?_
  intro K G
  have he : own_x_m_1_2 p0 p1 v0 v1 r0 r1 bk = own_x_m_1_2 p0 p1 v0 v1 r0 r1 bk := rfl
  refine G.aloadN d1_0 rfl rfl ?_
  refine G.initObj d1_1 (hw _ (List.mem_of_getElem? (i := 8) rfl)) (hw _ (List.mem_of_getElem? (i := 9) rfl)) (hw _ (List.mem_of_getElem? (i := 10) rfl)) rfl (Nat.le_of_ble_eq_true rfl) (Nat.le_of_ble_eq_true rfl) ?_
  refine G.aloadN d1_4 rfl rfl ?_
  refine G.alen (2) d1_5 rfl rfl ?_
  refine G.aloadN d1_6 rfl rfl ?_
  refine G.alen (2) d1_7 rfl rfl ?_
  refine G.icmp_ne 18 d1_8 (by decide) rfl (fun h8 => absurd h8 (by decide)) (fun _ => ?_)
  refine G.aloadN d1_11 rfl rfl ?_
  refine G.alen (2) d1_12 rfl rfl ?_
  refine G.aloadN d1_13 rfl rfl ?_
  refine G.alen (2) d1_14 rfl rfl ?_
  refine G.icmp_eq 37 d1_15 (by decide) rfl (fun _ => ?_) (fun h15 => absurd h15 (by decide))
  refine G.iconst (0) d1_37 rfl ?_
  refine G.istore6 d1_38 rfl ?_
  refine G.iload d1_40 rfl ?_
  refine G.aloadN d1_42 rfl rfl ?_
  refine G.alen (2) d1_43 rfl rfl ?_
  refine G.icmp_ge 133 d1_44 (by decide) rfl (fun h44 => absurd h44 (by decide)) (fun _ => ?_)
  refine G.iload d1_47 rfl ?_
  refine G.if_ne 56 d1_49 (by decide) rfl (fun h49 => absurd h49 (by decide)) (fun _ => ?_)
  refine G.iconst (0) d1_52 rfl ?_
  refine G.goto 64 d1_53 (by decide) rfl ?_
  refine G.istore7 d1_64 rfl ?_
  refine G.aloadN d1_66 rfl rfl ?_
  refine G.iload d1_67 rfl ?_
  refine G.iald (0) d1_69 rfl (by decide) rfl ?_
  refine G.iload d1_70 rfl ?_
  refine G.icmp_lt 102 d1_72 (by decide) rfl (fun h72 => absurd h72 (by assumption)) (fun _ => ?_)
  refine G.aloadN d1_75 rfl rfl ?_
  refine G.iload d1_76 rfl ?_
  refine G.iald (0) d1_78 rfl (by decide) rfl ?_
  refine G.ldcI d1_79 (hw _ (List.mem_of_getElem? (i := 43) rfl)) ?_
  refine G.icmp_ge 102 d1_81 (by decide) rfl (fun h81 => absurd h81 (fun q => q (by assumption))) (fun _ => ?_)
  refine G.aloadN d1_84 rfl rfl ?_
  refine G.iload d1_85 rfl ?_
  refine G.lald (0) d1_87 rfl (by decide) rfl ?_
  refine G.lconst (1) d1_88 rfl ?_
  refine G.lcmp d1_89 ?_
  refine G.if_lt 102 d1_90 (by decide) rfl (fun h90 => absurd h90 (by assumption)) (fun _ => ?_)
  refine G.aloadN d1_93 rfl rfl ?_
  refine G.iload d1_94 rfl ?_
  refine G.lald (0) d1_96 rfl (by decide) rfl ?_
  refine G.lconst (0) d1_97 rfl ?_
  refine G.lcmp d1_98 ?_
  refine G.if_ge 127 d1_99 (by decide) rfl (fun _ => ?_) (fun h99 => absurd h99 (by assumption))
  refine G.iinc6 (1) d1_127 rfl rfl ?_
  refine G.goto 40 d1_130 (by decide) rfl ?_
  refine G.iload d1_40 rfl ?_
  refine G.aloadN d1_42 rfl rfl ?_
  refine G.alen (2) d1_43 rfl rfl ?_
  refine G.icmp_ge 133 d1_44 (by decide) rfl (fun h44 => absurd h44 (by decide)) (fun _ => ?_)
  refine G.iload d1_47 rfl ?_
  refine G.if_ne 56 d1_49 (by decide) rfl (fun _ => ?_) (fun h49 => absurd h49 (by decide))
  refine G.aloadN d1_56 rfl rfl ?_
  refine G.iload d1_57 rfl ?_
  refine G.iconst (1) d1_59 rfl ?_
  refine G.isub d1_60 ?_
  refine G.iald (0) d1_61 rfl (by decide) rfl ?_
  refine G.iconst (1) d1_62 rfl ?_
  refine G.iadd d1_63 ?_
  refine G.istore7 d1_64 rfl ?_
  refine G.aloadN d1_66 rfl rfl ?_
  refine G.iload d1_67 rfl ?_
  refine G.iald (1) d1_69 rfl (by decide) rfl ?_
  refine G.iload d1_70 rfl ?_
  refine G.icmp_lt 102 d1_72 (by decide) rfl (fun h72 => absurd h72 (by assumption)) (fun _ => ?_)
  refine G.aloadN d1_75 rfl rfl ?_
  refine G.iload d1_76 rfl ?_
  refine G.iald (1) d1_78 rfl (by decide) rfl ?_
  refine G.ldcI d1_79 (hw _ (List.mem_of_getElem? (i := 43) rfl)) ?_
  refine G.icmp_ge 102 d1_81 (by decide) rfl (fun h81 => absurd h81 (fun q => q (by assumption))) (fun _ => ?_)
  refine G.aloadN d1_84 rfl rfl ?_
  refine G.iload d1_85 rfl ?_
  refine G.lald (1) d1_87 rfl (by decide) rfl ?_
  refine G.lconst (1) d1_88 rfl ?_
  refine G.lcmp d1_89 ?_
  refine G.if_lt 102 d1_90 (by decide) rfl (fun h90 => absurd h90 (by assumption)) (fun _ => ?_)
  refine G.aloadN d1_93 rfl rfl ?_
  refine G.iload d1_94 rfl ?_
  refine G.lald (1) d1_96 rfl (by decide) rfl ?_
  refine G.lconst (0) d1_97 rfl ?_
  refine G.lcmp d1_98 ?_
  refine G.if_ge 127 d1_99 (by decide) rfl (fun _ => ?_) (fun h99 => absurd h99 (by assumption))
  refine G.iinc6 (1) d1_127 rfl rfl ?_
  refine G.goto 40 d1_130 (by decide) rfl ?_
  refine G.iload d1_40 rfl ?_
  refine G.aloadN d1_42 rfl rfl ?_
  refine G.alen (2) d1_43 rfl rfl ?_
  refine G.icmp_ge 133 d1_44 (by decide) rfl (fun _ => ?_) (fun h44 => absurd h44 (by decide))
  refine G.lload d1_133 rfl ?_
  refine G.lconst (0) d1_135 rfl ?_
  refine G.lcmp d1_136 ?_
  refine G.if_ge 155 d1_137 (by decide) rfl (fun _ => ?_) (fun h137 => absurd h137 (by assumption))
  refine G.aloadN d1_155 rfl rfl ?_
  refine G.aloadN d1_156 rfl rfl ?_
  refine G.aclone 2 d1_157 (hw _ (List.mem_of_getElem? (i := 11) rfl)) (hw _ (List.mem_of_getElem? (i := 12) rfl)) (hw _ (List.mem_of_getElem? (i := 16) rfl)) (hw _ (List.mem_of_getElem? (i := 14) rfl)) (hw _ (List.mem_of_getElem? (i := 15) rfl)) (hw _ (List.mem_of_getElem? (i := 17) rfl)) rfl rfl (Nat.le_of_ble_eq_true rfl) rfl (Nat.le_of_ble_eq_true rfl) (Nat.le_of_ble_eq_true rfl) (Nat.le_of_ble_eq_true rfl) (Nat.le_of_ble_eq_true rfl) ?_
  try simp only [List.set_cons_zero, List.set_cons_succ, List.length_cons, List.length_nil, List.nil_append, List.cons_append, Nat.zero_add, Nat.reduceAdd]
  refine G.castA d1_160 (hw _ (List.mem_of_getElem? (i := 18) rfl)) rfl rfl ?_
  refine G.putf (j := 0) (host := "") d1_163 (Or.inl (hw _ (List.mem_of_getElem? (i := 20) rfl))) (Or.inr ⟨(hw _ (List.mem_of_getElem? (i := 21) rfl)), rfl, rfl⟩) (hw _ (List.mem_of_getElem? (i := 3) rfl)) (ty := .array (.int)) (by decide) rfl rfl rfl rfl ?_
  try simp only [List.set_cons_zero, List.set_cons_succ, List.length_cons, List.length_nil, List.nil_append, List.cons_append, Nat.zero_add, Nat.reduceAdd]
  refine G.aloadN d1_166 rfl rfl ?_
  refine G.aloadN d1_167 rfl rfl ?_
  refine G.aclone 2 d1_168 (hw _ (List.mem_of_getElem? (i := 22) rfl)) (hw _ (List.mem_of_getElem? (i := 23) rfl)) (hw _ (List.mem_of_getElem? (i := 16) rfl)) (hw _ (List.mem_of_getElem? (i := 14) rfl)) (hw _ (List.mem_of_getElem? (i := 24) rfl)) (hw _ (List.mem_of_getElem? (i := 25) rfl)) rfl rfl (Nat.le_of_ble_eq_true rfl) rfl (Nat.le_of_ble_eq_true rfl) (Nat.le_of_ble_eq_true rfl) (Nat.le_of_ble_eq_true rfl) (Nat.le_of_ble_eq_true rfl) ?_
  try simp only [List.set_cons_zero, List.set_cons_succ, List.length_cons, List.length_nil, List.nil_append, List.cons_append, Nat.zero_add, Nat.reduceAdd]
  refine G.castA d1_171 (hw _ (List.mem_of_getElem? (i := 26) rfl)) rfl rfl ?_
  refine G.putf (j := 1) (host := "") d1_174 (Or.inl (hw _ (List.mem_of_getElem? (i := 28) rfl))) (Or.inr ⟨(hw _ (List.mem_of_getElem? (i := 29) rfl)), rfl, rfl⟩) (hw _ (List.mem_of_getElem? (i := 3) rfl)) (ty := .array (.long)) (by decide) rfl rfl rfl rfl ?_
  try simp only [List.set_cons_zero, List.set_cons_succ, List.length_cons, List.length_nil, List.nil_append, List.cons_append, Nat.zero_add, Nat.reduceAdd]
  refine G.aloadN d1_177 rfl rfl ?_
  refine G.aloadN d1_178 rfl rfl ?_
  refine G.aclone 2 d1_179 (hw _ (List.mem_of_getElem? (i := 22) rfl)) (hw _ (List.mem_of_getElem? (i := 23) rfl)) (hw _ (List.mem_of_getElem? (i := 16) rfl)) (hw _ (List.mem_of_getElem? (i := 14) rfl)) (hw _ (List.mem_of_getElem? (i := 24) rfl)) (hw _ (List.mem_of_getElem? (i := 25) rfl)) rfl rfl (Nat.le_of_ble_eq_true rfl) rfl (Nat.le_of_ble_eq_true rfl) (Nat.le_of_ble_eq_true rfl) (Nat.le_of_ble_eq_true rfl) (Nat.le_of_ble_eq_true rfl) ?_
  try simp only [List.set_cons_zero, List.set_cons_succ, List.length_cons, List.length_nil, List.nil_append, List.cons_append, Nat.zero_add, Nat.reduceAdd]
  refine G.castA d1_182 (hw _ (List.mem_of_getElem? (i := 26) rfl)) rfl rfl ?_
  refine G.putf (j := 2) (host := "") d1_185 (Or.inl (hw _ (List.mem_of_getElem? (i := 30) rfl))) (Or.inr ⟨(hw _ (List.mem_of_getElem? (i := 31) rfl)), rfl, rfl⟩) (hw _ (List.mem_of_getElem? (i := 3) rfl)) (ty := .array (.long)) (by decide) rfl rfl rfl rfl ?_
  try simp only [List.set_cons_zero, List.set_cons_succ, List.length_cons, List.length_nil, List.nil_append, List.cons_append, Nat.zero_add, Nat.reduceAdd]
  refine G.aloadN d1_188 rfl rfl ?_
  refine G.lload d1_189 rfl ?_
  refine G.putf (j := 3) (host := "") d1_191 (Or.inl (hw _ (List.mem_of_getElem? (i := 32) rfl))) (Or.inr ⟨(hw _ (List.mem_of_getElem? (i := 33) rfl)), rfl, rfl⟩) (hw _ (List.mem_of_getElem? (i := 3) rfl)) (ty := .long) (by decide) rfl rfl rfl rfl ?_
  try simp only [List.set_cons_zero, List.set_cons_succ, List.length_cons, List.length_nil, List.nil_append, List.cons_append, Nat.zero_add, Nat.reduceAdd]
  exact G.vreturn rfl d1_194 (Nat.le_of_ble_eq_true rfl) (Nat.le_of_ble_eq_true rfl) ⟨rfl, rfl⟩
def own_x_m_1_3 (p0 : Int32) (p1 : Int32) (p2 : Int32) (v0 : Int64) (v1 : Int64) (v2 : Int64) (r0 : Int64) (r1 : Int64) (r2 : Int64) (bk : Int64) : Int32 := (0 : Int32)
set_option maxRecDepth 65536 in
set_option maxHeartbeats 40000000 in
theorem m_1_3 (l : Launch) (Z : State) (a0 : Array Value) (hw : ∀ d ∈ tables_1, d.before a0 Z = true) (n0 : Nat) (ws : List Jvm.Cond) (p0 p1 p2 : Int32) (v0 v1 v2 r0 r1 r2 bk : Int64) (hp0 : ¬ p0 < (0 : Int32)) (hq0 : p0 < (65536 : Int32)) (hv0 : ¬ lcmpW v0 (1 : Int64) < (0 : Int32)) (hr0 : ¬ lcmpW r0 (0 : Int64) < (0 : Int32)) (hp1 : ¬ p1 < (p0 + (1 : Int32))) (hq1 : p1 < (65536 : Int32)) (hv1 : ¬ lcmpW v1 (1 : Int64) < (0 : Int32)) (hr1 : ¬ lcmpW r1 (0 : Int64) < (0 : Int32)) (hp2 : ¬ p2 < (p1 + (1 : Int32))) (hq2 : p2 < (65536 : Int32)) (hv2 : ¬ lcmpW v2 (1 : Int64) < (0 : Int32)) (hr2 : ¬ lcmpW r2 (0 : Int64) < (0 : Int32)) (hb : ¬ lcmpW bk (0 : Int64) < (0 : Int32)) :
    Meth l Z a0 ws (⟨"com/example/tidemark/tidemark/model/RecordTally", "<init>", "([I[J[JJ)V"⟩ : MethodName) prog_89_method_1_code 8 none ({ frames := 1, cells := 3, slots := 9, locals := 20 } : Room) 3 9 n0 #[.ref (ad n0 3), .ref (ad n0 0), .ref (ad n0 1), .ref (ad n0 2), .long bk] ([.inr (.int, [.int p0, .int p1, .int p2]), .inr (.long, [.long v0, .long v1, .long v2]), .inr (.long, [.long r0, .long r1, .long r2]), .inl ("com/example/tidemark/tidemark/model/RecordTally", [("partitions", "[I", .null), ("versions", "[J", .null), ("records", "[J", .null), ("backed", "J", .long (0 : Int64))])] : AHeap) (fun r A' => r = none ∧ A' = ([.inr (.int, [.int p0, .int p1, .int p2]), .inr (.long, [.long v0, .long v1, .long v2]), .inr (.long, [.long r0, .long r1, .long r2]), .inl ("com/example/tidemark/tidemark/model/RecordTally", [("partitions", "[I", .ref (ad n0 4)), ("versions", "[J", .ref (ad n0 5)), ("records", "[J", .ref (ad n0 6)), ("backed", "J", .long bk)]), .inr (.int, [.int p0, .int p1, .int p2]), .inr (.long, [.long v0, .long v1, .long v2]), .inr (.long, [.long r0, .long r1, .long r2])] : AHeap)) := by
  refine Meth.of (plainFor_of_name own_pn4) (Ls := [.val (.ref (ad n0 3)), .val (.ref (ad n0 0)), .val (.ref (ad n0 1)), .val (.ref (ad n0 2)), .val (.long bk), .second, .unset, .unset]) (fun m => by first | (simp [entryFrame, mkF, argsToLocals, Value.category, maxLocals]; done) | rfl) ?_
  intro K G
  have he : own_x_m_1_3 p0 p1 p2 v0 v1 v2 r0 r1 r2 bk = own_x_m_1_3 p0 p1 p2 v0 v1 v2 r0 r1 r2 bk := rfl
  refine G.aloadN d1_0 rfl rfl ?_
  refine G.initObj d1_1 (hw _ (List.mem_of_getElem? (i := 8) rfl)) (hw _ (List.mem_of_getElem? (i := 9) rfl)) (hw _ (List.mem_of_getElem? (i := 10) rfl)) rfl (Nat.le_of_ble_eq_true rfl) (Nat.le_of_ble_eq_true rfl) ?_
  refine G.aloadN d1_4 rfl rfl ?_
  refine G.alen (3) d1_5 rfl rfl ?_
  refine G.aloadN d1_6 rfl rfl ?_
  refine G.alen (3) d1_7 rfl rfl ?_
  refine G.icmp_ne 18 d1_8 (by decide) rfl (fun h8 => absurd h8 (by decide)) (fun _ => ?_)
  refine G.aloadN d1_11 rfl rfl ?_
  refine G.alen (3) d1_12 rfl rfl ?_
  refine G.aloadN d1_13 rfl rfl ?_
  refine G.alen (3) d1_14 rfl rfl ?_
  refine G.icmp_eq 37 d1_15 (by decide) rfl (fun _ => ?_) (fun h15 => absurd h15 (by decide))
  refine G.iconst (0) d1_37 rfl ?_
  refine G.istore6 d1_38 rfl ?_
  refine G.iload d1_40 rfl ?_
  refine G.aloadN d1_42 rfl rfl ?_
  refine G.alen (3) d1_43 rfl rfl ?_
  refine G.icmp_ge 133 d1_44 (by decide) rfl (fun h44 => absurd h44 (by decide)) (fun _ => ?_)
  refine G.iload d1_47 rfl ?_
  refine G.if_ne 56 d1_49 (by decide) rfl (fun h49 => absurd h49 (by decide)) (fun _ => ?_)
  refine G.iconst (0) d1_52 rfl ?_
  refine G.goto 64 d1_53 (by decide) rfl ?_
  refine G.istore7 d1_64 rfl ?_
  refine G.aloadN d1_66 rfl rfl ?_
  refine G.iload d1_67 rfl ?_
  refine G.iald (0) d1_69 rfl (by decide) rfl ?_
  refine G.iload d1_70 rfl ?_
  refine G.icmp_lt 102 d1_72 (by decide) rfl (fun h72 => absurd h72 (by assumption)) (fun _ => ?_)
  refine G.aloadN d1_75 rfl rfl ?_
  refine G.iload d1_76 rfl ?_
  refine G.iald (0) d1_78 rfl (by decide) rfl ?_
  refine G.ldcI d1_79 (hw _ (List.mem_of_getElem? (i := 43) rfl)) ?_
  refine G.icmp_ge 102 d1_81 (by decide) rfl (fun h81 => absurd h81 (fun q => q (by assumption))) (fun _ => ?_)
  refine G.aloadN d1_84 rfl rfl ?_
  refine G.iload d1_85 rfl ?_
  refine G.lald (0) d1_87 rfl (by decide) rfl ?_
  refine G.lconst (1) d1_88 rfl ?_
  refine G.lcmp d1_89 ?_
  refine G.if_lt 102 d1_90 (by decide) rfl (fun h90 => absurd h90 (by assumption)) (fun _ => ?_)
  refine G.aloadN d1_93 rfl rfl ?_
  refine G.iload d1_94 rfl ?_
  refine G.lald (0) d1_96 rfl (by decide) rfl ?_
  refine G.lconst (0) d1_97 rfl ?_
  refine G.lcmp d1_98 ?_
  refine G.if_ge 127 d1_99 (by decide) rfl (fun _ => ?_) (fun h99 => absurd h99 (by assumption))
  refine G.iinc6 (1) d1_127 rfl rfl ?_
  refine G.goto 40 d1_130 (by decide) rfl ?_
  refine G.iload d1_40 rfl ?_
  refine G.aloadN d1_42 rfl rfl ?_
  refine G.alen (3) d1_43 rfl rfl ?_
  refine G.icmp_ge 133 d1_44 (by decide) rfl (fun h44 => absurd h44 (by decide)) (fun _ => ?_)
  refine G.iload d1_47 rfl ?_
  refine G.if_ne 56 d1_49 (by decide) rfl (fun _ => ?_) (fun h49 => absurd h49 (by decide))
  refine G.aloadN d1_56 rfl rfl ?_
  refine G.iload d1_57 rfl ?_
  refine G.iconst (1) d1_59 rfl ?_
  refine G.isub d1_60 ?_
  refine G.iald (0) d1_61 rfl (by decide) rfl ?_
  refine G.iconst (1) d1_62 rfl ?_
  refine G.iadd d1_63 ?_
  refine G.istore7 d1_64 rfl ?_
  refine G.aloadN d1_66 rfl rfl ?_
  refine G.iload d1_67 rfl ?_
  refine G.iald (1) d1_69 rfl (by decide) rfl ?_
  refine G.iload d1_70 rfl ?_
  refine G.icmp_lt 102 d1_72 (by decide) rfl (fun h72 => absurd h72 (by assumption)) (fun _ => ?_)
  refine G.aloadN d1_75 rfl rfl ?_
  refine G.iload d1_76 rfl ?_
  refine G.iald (1) d1_78 rfl (by decide) rfl ?_
  refine G.ldcI d1_79 (hw _ (List.mem_of_getElem? (i := 43) rfl)) ?_
  refine G.icmp_ge 102 d1_81 (by decide) rfl (fun h81 => absurd h81 (fun q => q (by assumption))) (fun _ => ?_)
  refine G.aloadN d1_84 rfl rfl ?_
  refine G.iload d1_85 rfl ?_
  refine G.lald (1) d1_87 rfl (by decide) rfl ?_
  refine G.lconst (1) d1_88 rfl ?_
  refine G.lcmp d1_89 ?_
  refine G.if_lt 102 d1_90 (by decide) rfl (fun h90 => absurd h90 (by assumption)) (fun _ => ?_)
  refine G.aloadN d1_93 rfl rfl ?_
  refine G.iload d1_94 rfl ?_
  refine G.lald (1) d1_96 rfl (by decide) rfl ?_
  refine G.lconst (0) d1_97 rfl ?_
  refine G.lcmp d1_98 ?_
  refine G.if_ge 127 d1_99 (by decide) rfl (fun _ => ?_) (fun h99 => absurd h99 (by assumption))
  refine G.iinc6 (1) d1_127 rfl rfl ?_
  refine G.goto 40 d1_130 (by decide) rfl ?_
  refine G.iload d1_40 rfl ?_
  refine G.aloadN d1_42 rfl rfl ?_
  refine G.alen (3) d1_43 rfl rfl ?_
  refine G.icmp_ge 133 d1_44 (by decide) rfl (fun h44 => absurd h44 (by decide)) (fun _ => ?_)
  refine G.iload d1_47 rfl ?_
  refine G.if_ne 56 d1_49 (by decide) rfl (fun _ => ?_) (fun h49 => absurd h49 (by decide))
  refine G.aloadN d1_56 rfl rfl ?_
  refine G.iload d1_57 rfl ?_
  refine G.iconst (1) d1_59 rfl ?_
  refine G.isub d1_60 ?_
  refine G.iald (1) d1_61 rfl (by decide) rfl ?_
  refine G.iconst (1) d1_62 rfl ?_
  refine G.iadd d1_63 ?_
  refine G.istore7 d1_64 rfl ?_
  refine G.aloadN d1_66 rfl rfl ?_
  refine G.iload d1_67 rfl ?_
  refine G.iald (2) d1_69 rfl (by decide) rfl ?_
  refine G.iload d1_70 rfl ?_
  refine G.icmp_lt 102 d1_72 (by decide) rfl (fun h72 => absurd h72 (by assumption)) (fun _ => ?_)
  refine G.aloadN d1_75 rfl rfl ?_
  refine G.iload d1_76 rfl ?_
  refine G.iald (2) d1_78 rfl (by decide) rfl ?_
  refine G.ldcI d1_79 (hw _ (List.mem_of_getElem? (i := 43) rfl)) ?_
  refine G.icmp_ge 102 d1_81 (by decide) rfl (fun h81 => absurd h81 (fun q => q (by assumption))) (fun _ => ?_)
  refine G.aloadN d1_84 rfl rfl ?_
  refine G.iload d1_85 rfl ?_
  refine G.lald (2) d1_87 rfl (by decide) rfl ?_
  refine G.lconst (1) d1_88 rfl ?_
  refine G.lcmp d1_89 ?_
  refine G.if_lt 102 d1_90 (by decide) rfl (fun h90 => absurd h90 (by assumption)) (fun _ => ?_)
  refine G.aloadN d1_93 rfl rfl ?_
  refine G.iload d1_94 rfl ?_
  refine G.lald (2) d1_96 rfl (by decide) rfl ?_
  refine G.lconst (0) d1_97 rfl ?_
  refine G.lcmp d1_98 ?_
  refine G.if_ge 127 d1_99 (by decide) rfl (fun _ => ?_) (fun h99 => absurd h99 (by assumption))
  refine G.iinc6 (1) d1_127 rfl rfl ?_
  refine G.goto 40 d1_130 (by decide) rfl ?_
  refine G.iload d1_40 rfl ?_
  refine G.aloadN d1_42 rfl rfl ?_
  refine G.alen (3) d1_43 rfl rfl ?_
  refine G.icmp_ge 133 d1_44 (by decide) rfl (fun _ => ?_) (fun h44 => absurd h44 (by decide))
  refine G.lload d1_133 rfl ?_
  refine G.lconst (0) d1_135 rfl ?_
  refine G.lcmp d1_136 ?_
  refine G.if_ge 155 d1_137 (by decide) rfl (fun _ => ?_) (fun h137 => absurd h137 (by assumption))
  refine G.aloadN d1_155 rfl rfl ?_
  refine G.aloadN d1_156 rfl rfl ?_
  refine G.aclone 3 d1_157 (hw _ (List.mem_of_getElem? (i := 11) rfl)) (hw _ (List.mem_of_getElem? (i := 12) rfl)) (hw _ (List.mem_of_getElem? (i := 16) rfl)) (hw _ (List.mem_of_getElem? (i := 14) rfl)) (hw _ (List.mem_of_getElem? (i := 15) rfl)) (hw _ (List.mem_of_getElem? (i := 17) rfl)) rfl rfl (Nat.le_of_ble_eq_true rfl) rfl (Nat.le_of_ble_eq_true rfl) (Nat.le_of_ble_eq_true rfl) (Nat.le_of_ble_eq_true rfl) (Nat.le_of_ble_eq_true rfl) ?_
  try simp only [List.set_cons_zero, List.set_cons_succ, List.length_cons, List.length_nil, List.nil_append, List.cons_append, Nat.zero_add, Nat.reduceAdd]
  refine G.castA d1_160 (hw _ (List.mem_of_getElem? (i := 18) rfl)) rfl rfl ?_
  refine G.putf (j := 0) (host := "") d1_163 (Or.inl (hw _ (List.mem_of_getElem? (i := 20) rfl))) (Or.inr ⟨(hw _ (List.mem_of_getElem? (i := 21) rfl)), rfl, rfl⟩) (hw _ (List.mem_of_getElem? (i := 3) rfl)) (ty := .array (.int)) (by decide) rfl rfl rfl rfl ?_
  try simp only [List.set_cons_zero, List.set_cons_succ, List.length_cons, List.length_nil, List.nil_append, List.cons_append, Nat.zero_add, Nat.reduceAdd]
  refine G.aloadN d1_166 rfl rfl ?_
  refine G.aloadN d1_167 rfl rfl ?_
  refine G.aclone 3 d1_168 (hw _ (List.mem_of_getElem? (i := 22) rfl)) (hw _ (List.mem_of_getElem? (i := 23) rfl)) (hw _ (List.mem_of_getElem? (i := 16) rfl)) (hw _ (List.mem_of_getElem? (i := 14) rfl)) (hw _ (List.mem_of_getElem? (i := 24) rfl)) (hw _ (List.mem_of_getElem? (i := 25) rfl)) rfl rfl (Nat.le_of_ble_eq_true rfl) rfl (Nat.le_of_ble_eq_true rfl) (Nat.le_of_ble_eq_true rfl) (Nat.le_of_ble_eq_true rfl) (Nat.le_of_ble_eq_true rfl) ?_
  try simp only [List.set_cons_zero, List.set_cons_succ, List.length_cons, List.length_nil, List.nil_append, List.cons_append, Nat.zero_add, Nat.reduceAdd]
  refine G.castA d1_171 (hw _ (List.mem_of_getElem? (i := 26) rfl)) rfl rfl ?_
  refine G.putf (j := 1) (host := "") d1_174 (Or.inl (hw _ (List.mem_of_getElem? (i := 28) rfl))) (Or.inr ⟨(hw _ (List.mem_of_getElem? (i := 29) rfl)), rfl, rfl⟩) (hw _ (List.mem_of_getElem? (i := 3) rfl)) (ty := .array (.long)) (by decide) rfl rfl rfl rfl ?_
  try simp only [List.set_cons_zero, List.set_cons_succ, List.length_cons, List.length_nil, List.nil_append, List.cons_append, Nat.zero_add, Nat.reduceAdd]
  refine G.aloadN d1_177 rfl rfl ?_
  refine G.aloadN d1_178 rfl rfl ?_
  refine G.aclone 3 d1_179 (hw _ (List.mem_of_getElem? (i := 22) rfl)) (hw _ (List.mem_of_getElem? (i := 23) rfl)) (hw _ (List.mem_of_getElem? (i := 16) rfl)) (hw _ (List.mem_of_getElem? (i := 14) rfl)) (hw _ (List.mem_of_getElem? (i := 24) rfl)) (hw _ (List.mem_of_getElem? (i := 25) rfl)) rfl rfl (Nat.le_of_ble_eq_true rfl) rfl (Nat.le_of_ble_eq_true rfl) (Nat.le_of_ble_eq_true rfl) (Nat.le_of_ble_eq_true rfl) (Nat.le_of_ble_eq_true rfl) ?_
  try simp only [List.set_cons_zero, List.set_cons_succ, List.length_cons, List.length_nil, List.nil_append, List.cons_append, Nat.zero_add, Nat.reduceAdd]
  refine G.castA d1_182 (hw _ (List.mem_of_getElem? (i := 26) rfl)) rfl rfl ?_
  refine G.putf (j := 2) (host := "") d1_185 (Or.inl (hw _ (List.mem_of_getElem? (i := 30) rfl))) (Or.inr ⟨(hw _ (List.mem_of_getElem? (i := 31) rfl)), rfl, rfl⟩) (hw _ (List.mem_of_getElem? (i := 3) rfl)) (ty := .array (.long)) (by decide) rfl rfl rfl rfl ?_
  try simp only [List.set_cons_zero, List.set_cons_succ, List.length_cons, List.length_nil, List.nil_append, List.cons_append, Nat.zero_add, Nat.reduceAdd]
  refine G.aloadN d1_188 rfl rfl ?_
  refine G.lload d1_189 rfl ?_
  refine G.putf (j := 3) (host := "") d1_191 (Or.inl (hw _ (List.mem_of_getElem? (i := 32) rfl))) (Or.inr ⟨(hw _ (List.mem_of_getElem? (i := 33) rfl)), rfl, rfl⟩) (hw _ (List.mem_of_getElem? (i := 3) rfl)) (ty := .long) (by decide) rfl rfl rfl rfl ?_
  try simp only [List.set_cons_zero, List.set_cons_succ, List.length_cons, List.length_nil, List.nil_append, List.cons_append, Nat.zero_add, Nat.reduceAdd]
  exact G.vreturn rfl d1_194 (Nat.le_of_ble_eq_true rfl) (Nat.le_of_ble_eq_true rfl) ⟨rfl, rfl⟩
theorem d3_0 : decode method_2_code 0 = .ok (.iload_n 0, 1) := by decide +kernel
theorem d3_1 : decode method_2_code 1 = .ok (.ifCond .le 9, 3) := by decide +kernel
theorem d3_4 : decode method_2_code 4 = .ok (.iload_n 1, 1) := by decide +kernel
theorem d3_5 : decode method_2_code 5 = .ok (.iload 4, 2) := by decide +kernel
theorem d3_7 : decode method_2_code 7 = .ok (.if_icmp .eq 25, 3) := by decide +kernel
theorem d3_10 : decode method_2_code 10 = .ok (.iload_n 0, 1) := by decide +kernel
theorem d3_11 : decode method_2_code 11 = .ok (.iconst 1, 1) := by decide +kernel
theorem d3_12 : decode method_2_code 12 = .ok (.if_icmp .le 9, 3) := by decide +kernel
theorem d3_15 : decode method_2_code 15 = .ok (.iload_n 2, 1) := by decide +kernel
theorem d3_16 : decode method_2_code 16 = .ok (.iload 4, 2) := by decide +kernel
theorem d3_18 : decode method_2_code 18 = .ok (.if_icmp .eq 14, 3) := by decide +kernel
theorem d3_21 : decode method_2_code 21 = .ok (.iload_n 0, 1) := by decide +kernel
theorem d3_22 : decode method_2_code 22 = .ok (.iconst 2, 1) := by decide +kernel
theorem d3_23 : decode method_2_code 23 = .ok (.if_icmp .le 13, 3) := by decide +kernel
theorem d3_26 : decode method_2_code 26 = .ok (.iload_n 3, 1) := by decide +kernel
theorem d3_27 : decode method_2_code 27 = .ok (.iload 4, 2) := by decide +kernel
theorem d3_29 : decode method_2_code 29 = .ok (.if_icmp .ne 7, 3) := by decide +kernel
theorem d3_32 : decode method_2_code 32 = .ok (.iconst 1, 1) := by decide +kernel
theorem d3_33 : decode method_2_code 33 = .ok (.goto 4, 3) := by decide +kernel
theorem d3_36 : decode method_2_code 36 = .ok (.iconst 0, 1) := by decide +kernel
theorem d3_37 : decode method_2_code 37 = .ok (.ireturn, 1) := by decide +kernel
def own_in_21 (l0 : Int32) (l1 : Int32) (l2 : Int32) (l3 : Int32) (l4 : Int32) : Int32 := (if (2 : Int32) < l0 then (if l3 = l4 then (1 : Int32) else (0 : Int32)) else (0 : Int32))
def own_in_10 (l0 : Int32) (l1 : Int32) (l2 : Int32) (l3 : Int32) (l4 : Int32) : Int32 := (if (1 : Int32) < l0 then (if l2 = l4 then (1 : Int32) else own_in_21 l0 l1 l2 l3 l4) else own_in_21 l0 l1 l2 l3 l4)
def own_in (x0 : Int32) (x1 : Int32) (x2 : Int32) (x3 : Int32) (x4 : Int32) : Int32 := (if (0 : Int32) < x0 then (if x1 = x4 then (1 : Int32) else own_in_10 x0 x1 x2 x3 x4) else own_in_10 x0 x1 x2 x3 x4)
theorem own_pn5 : plainName "com/example/tidemark/tidemark/model/RecordTallyUnownedPinLaw" = true := by first | (simp [plainName, overriddenIn]; done) | decide +kernel
set_option maxRecDepth 65536 in
set_option maxHeartbeats 40000000 in
theorem m_3 (l : Launch) (Z : State) (a0 : Array Value) (hw : ∀ d ∈ tables_1, d.before a0 Z = true) (n0 : Nat) (ws : List Jvm.Cond) (x0 : Int32) (x1 : Int32) (x2 : Int32) (x3 : Int32) (x4 : Int32) (A : AHeap) :
    Meth l Z a0 ws (⟨"com/example/tidemark/tidemark/model/RecordTallyUnownedPinLaw", "in", "(IIIII)Z"⟩ : MethodName) method_2_code 5 (some (.boolean)) ({ frames := 0, cells := 0, slots := 0, locals := 0 } : Room) 0 0 n0 #[.int x0, .int x1, .int x2, .int x3, .int x4] A (fun r A' => r = some (.int (own_in x0 x1 x2 x3 x4)) ∧ A' = A) := by
  refine Meth.of (plainFor_of_name own_pn5) (Ls := [.val (.int x0), .val (.int x1), .val (.int x2), .val (.int x3), .val (.int x4)]) (fun m => by first | (simp [entryFrame, mkF, argsToLocals, Value.category, maxLocals]; done) | rfl) ?_
  intro K G
  have J21 : ∀ (l0 : Int32) (l1 : Int32) (l2 : Int32) (l3 : Int32) (l4 : Int32), own_in x0 x1 x2 x3 x4 = own_in_21 l0 l1 l2 l3 l4 → K 21 [.val (.int l0), .val (.int l1), .val (.int l2), .val (.int l3), .val (.int l4)] [] A 0 0 := by
    intro l0 l1 l2 l3 l4 he
    refine G.iloadN d3_21 rfl ?_
    refine G.iconst (2) d3_22 rfl ?_
    refine G.icmp_le 36 d3_23 (by decide) rfl (fun h23 => ?_) (fun h23 => ?_)
    · replace he := he.trans (if_neg h23)
      refine G.iconst (0) d3_36 rfl ?_
      exact G.zreturn rfl d3_37 rfl (Nat.le_of_ble_eq_true rfl) (Nat.le_of_ble_eq_true rfl) ⟨congrArg (fun z => some (Value.int z)) he.symm, rfl⟩
    · replace he := he.trans (if_pos h23)
      refine G.iloadN d3_26 rfl ?_
      refine G.iload d3_27 rfl ?_
      refine G.icmp_ne 36 d3_29 (by decide) rfl (fun h29 => ?_) (fun h29 => ?_)
      · replace he := he.trans (if_neg h29)
        refine G.iconst (0) d3_36 rfl ?_
        exact G.zreturn rfl d3_37 rfl (Nat.le_of_ble_eq_true rfl) (Nat.le_of_ble_eq_true rfl) ⟨congrArg (fun z => some (Value.int z)) he.symm, rfl⟩
      · replace he := he.trans (if_pos h29)
        refine G.iconst (1) d3_32 rfl ?_
        refine G.goto 37 d3_33 (by decide) rfl ?_
        exact G.zreturn rfl d3_37 rfl (Nat.le_of_ble_eq_true rfl) (Nat.le_of_ble_eq_true rfl) ⟨congrArg (fun z => some (Value.int z)) he.symm, rfl⟩
  have J10 : ∀ (l0 : Int32) (l1 : Int32) (l2 : Int32) (l3 : Int32) (l4 : Int32), own_in x0 x1 x2 x3 x4 = own_in_10 l0 l1 l2 l3 l4 → K 10 [.val (.int l0), .val (.int l1), .val (.int l2), .val (.int l3), .val (.int l4)] [] A 0 0 := by
    intro l0 l1 l2 l3 l4 he
    refine G.iloadN d3_10 rfl ?_
    refine G.iconst (1) d3_11 rfl ?_
    refine G.icmp_le 21 d3_12 (by decide) rfl (fun h12 => ?_) (fun h12 => ?_)
    · replace he := he.trans (if_neg h12)
      exact J21 _ _ _ _ _ he
    · replace he := he.trans (if_pos h12)
      refine G.iloadN d3_15 rfl ?_
      refine G.iload d3_16 rfl ?_
      refine G.icmp_eq 32 d3_18 (by decide) rfl (fun h18 => ?_) (fun h18 => ?_)
      · replace he := he.trans (if_pos h18)
        refine G.iconst (1) d3_32 rfl ?_
        refine G.goto 37 d3_33 (by decide) rfl ?_
        exact G.zreturn rfl d3_37 rfl (Nat.le_of_ble_eq_true rfl) (Nat.le_of_ble_eq_true rfl) ⟨congrArg (fun z => some (Value.int z)) he.symm, rfl⟩
      · replace he := he.trans (if_neg h18)
        exact J21 _ _ _ _ _ he
  have he : own_in x0 x1 x2 x3 x4 = own_in x0 x1 x2 x3 x4 := rfl
  refine G.iloadN d3_0 rfl ?_
  refine G.if_le 10 d3_1 (by decide) rfl (fun h1 => ?_) (fun h1 => ?_)
  · replace he := he.trans (if_neg h1)
    exact J10 _ _ _ _ _ he
  · replace he := he.trans (if_pos h1)
    refine G.iloadN d3_4 rfl ?_
    refine G.iload d3_5 rfl ?_
    refine G.icmp_eq 32 d3_7 (by decide) rfl (fun h7 => ?_) (fun h7 => ?_)
    · replace he := he.trans (if_pos h7)
      refine G.iconst (1) d3_32 rfl ?_
      refine G.goto 37 d3_33 (by decide) rfl ?_
      exact G.zreturn rfl d3_37 rfl (Nat.le_of_ble_eq_true rfl) (Nat.le_of_ble_eq_true rfl) ⟨congrArg (fun z => some (Value.int z)) he.symm, rfl⟩
    · replace he := he.trans (if_neg h7)
      exact J10 _ _ _ _ _ he
theorem d4_0 : decode prog_89_method_9_code 0 = .ok (.iconst 0, 1) := by decide +kernel
theorem d4_1 : decode prog_89_method_9_code 1 = .ok (.istore_n 2, 1) := by decide +kernel
theorem d4_2 : decode prog_89_method_9_code 2 = .ok (.iload_n 2, 1) := by decide +kernel
theorem d4_3 : decode prog_89_method_9_code 3 = .ok (.iload_n 1, 1) := by decide +kernel
theorem d4_4 : decode prog_89_method_9_code 4 = .ok (.if_icmp .ge 28, 3) := by decide +kernel
theorem d4_7 : decode prog_89_method_9_code 7 = .ok (.iload_n 2, 1) := by decide +kernel
theorem d4_8 : decode prog_89_method_9_code 8 = .ok (.aload_n 0, 1) := by decide +kernel
theorem d4_9 : decode prog_89_method_9_code 9 = .ok (.getfield 31, 3) := by decide +kernel
theorem d4_12 : decode prog_89_method_9_code 12 = .ok (.arraylength, 1) := by decide +kernel
theorem d4_13 : decode prog_89_method_9_code 13 = .ok (.if_icmp .ge 19, 3) := by decide +kernel
theorem d4_16 : decode prog_89_method_9_code 16 = .ok (.aload_n 0, 1) := by decide +kernel
theorem d4_17 : decode prog_89_method_9_code 17 = .ok (.getfield 31, 3) := by decide +kernel
theorem d4_20 : decode prog_89_method_9_code 20 = .ok (.iload_n 2, 1) := by decide +kernel
theorem d4_21 : decode prog_89_method_9_code 21 = .ok (.iaload, 1) := by decide +kernel
theorem d4_22 : decode prog_89_method_9_code 22 = .ok (.iload_n 2, 1) := by decide +kernel
theorem d4_23 : decode prog_89_method_9_code 23 = .ok (.if_icmp .ne 9, 3) := by decide +kernel
theorem d4_26 : decode prog_89_method_9_code 26 = .ok (.iinc 2 1, 3) := by decide +kernel
theorem d4_29 : decode prog_89_method_9_code 29 = .ok (.goto (-27), 3) := by decide +kernel
theorem d4_32 : decode prog_89_method_9_code 32 = .ok (.iload_n 2, 1) := by decide +kernel
theorem d4_33 : decode prog_89_method_9_code 33 = .ok (.iload_n 1, 1) := by decide +kernel
theorem d4_34 : decode prog_89_method_9_code 34 = .ok (.if_icmp .ge 7, 3) := by decide +kernel
theorem d4_37 : decode prog_89_method_9_code 37 = .ok (.iload_n 2, 1) := by decide +kernel
theorem d4_38 : decode prog_89_method_9_code 38 = .ok (.goto 4, 3) := by decide +kernel
theorem d4_41 : decode prog_89_method_9_code 41 = .ok (.iconst (-1), 1) := by decide +kernel
theorem d4_42 : decode prog_89_method_9_code 42 = .ok (.ireturn, 1) := by decide +kernel
def own_un0 (cn : Int32) : Int32 := (if (0 : Int32) < cn then (if (0 : Int32) < cn then (0 : Int32) else (-1 : Int32)) else (if (0 : Int32) < cn then (0 : Int32) else (-1 : Int32)))
set_option maxRecDepth 65536 in
set_option maxHeartbeats 40000000 in
theorem m_4_0 (l : Launch) (Z : State) (a0 : Array Value) (hw : ∀ d ∈ tables_1, d.before a0 Z = true) (n0 : Nat) (ws : List Jvm.Cond) (c0 c1 c2 c3 c4 : ACell) (cn  : Int32) (bk : Int64) :
    Meth l Z a0 ws (⟨"com/example/tidemark/tidemark/model/RecordTally", "unowned", "(I)I"⟩ : MethodName) prog_89_method_9_code 3 (some (.int)) ({ frames := 0, cells := 0, slots := 0, locals := 0 } : Room) 0 0 n0 #[.ref (ad n0 3), .int cn] ([c0, c1, c2, .inl ("com/example/tidemark/tidemark/model/RecordTally", [("partitions", "[I", .ref (ad n0 4)), ("versions", "[J", .ref (ad n0 5)), ("records", "[J", .ref (ad n0 6)), ("backed", "J", .long bk)]), .inr (.int, []), c3, c4] : AHeap) (fun r A' => r = some (.int (own_un0 cn )) ∧ A' = ([c0, c1, c2, .inl ("com/example/tidemark/tidemark/model/RecordTally", [("partitions", "[I", .ref (ad n0 4)), ("versions", "[J", .ref (ad n0 5)), ("records", "[J", .ref (ad n0 6)), ("backed", "J", .long bk)]), .inr (.int, []), c3, c4] : AHeap)) := by
  refine Meth.of (plainFor_of_name own_pn4) (Ls := [.val (.ref (ad n0 3)), .val (.int cn), .unset]) (fun m => by first | (simp [entryFrame, mkF, argsToLocals, Value.category, maxLocals]; done) | rfl) ?_
  intro K G
  have he : own_un0 cn = own_un0 cn := rfl
  refine G.iconst (0) d4_0 rfl ?_
  refine G.istoreN2 d4_1 rfl ?_
  refine G.iloadN d4_2 rfl ?_
  refine G.iloadN d4_3 rfl ?_
  refine G.icmp_ge 32 d4_4 (by decide) rfl (fun h4 => ?_) (fun h4 => ?_)
  · replace he := he.trans (if_neg h4)
    refine G.iloadN d4_32 rfl ?_
    refine G.iloadN d4_33 rfl ?_
    refine G.icmp_ge 41 d4_34 (by decide) rfl (fun h34 => ?_) (fun h34 => ?_)
    · replace he := he.trans (if_neg h34)
      refine G.iconst (-1) d4_41 rfl ?_
      exact G.ireturn rfl d4_42 (Nat.le_of_ble_eq_true rfl) (Nat.le_of_ble_eq_true rfl) ⟨congrArg (fun z => some (Value.int z)) he.symm, rfl⟩
    · replace he := he.trans (if_pos h34)
      refine G.iloadN d4_37 rfl ?_
      refine G.goto 42 d4_38 (by decide) rfl ?_
      exact G.ireturn rfl d4_42 (Nat.le_of_ble_eq_true rfl) (Nat.le_of_ble_eq_true rfl) ⟨congrArg (fun z => some (Value.int z)) he.symm, rfl⟩
  · replace he := he.trans (if_pos h4)
    refine G.iloadN d4_7 rfl ?_
    refine G.aloadN d4_8 rfl rfl ?_
    refine G.getf (j := 0) (host := "") d4_9 (Or.inl (hw _ (List.mem_of_getElem? (i := 20) rfl))) rfl rfl ?_
    refine G.alen (0) d4_12 rfl rfl ?_
    refine G.icmp_ge 32 d4_13 (by decide) rfl (fun _ => ?_) (fun h13 => absurd h13 (by decide))
    refine G.iloadN d4_32 rfl ?_
    refine G.iloadN d4_33 rfl ?_
    refine G.icmp_ge 41 d4_34 (by decide) rfl (fun h34 => ?_) (fun h34 => ?_)
    · replace he := he.trans (if_neg h34)
      refine G.iconst (-1) d4_41 rfl ?_
      exact G.ireturn rfl d4_42 (Nat.le_of_ble_eq_true rfl) (Nat.le_of_ble_eq_true rfl) ⟨congrArg (fun z => some (Value.int z)) he.symm, rfl⟩
    · replace he := he.trans (if_pos h34)
      refine G.iloadN d4_37 rfl ?_
      refine G.goto 42 d4_38 (by decide) rfl ?_
      exact G.ireturn rfl d4_42 (Nat.le_of_ble_eq_true rfl) (Nat.le_of_ble_eq_true rfl) ⟨congrArg (fun z => some (Value.int z)) he.symm, rfl⟩
def own_un1 (cn : Int32) (p0 : Int32) : Int32 := (if (0 : Int32) < cn then (if p0 = (0 : Int32) then (if ((0 : Int32) + (1 : Int32)) < cn then (if ((0 : Int32) + (1 : Int32)) < cn then ((0 : Int32) + (1 : Int32)) else (-1 : Int32)) else (if ((0 : Int32) + (1 : Int32)) < cn then ((0 : Int32) + (1 : Int32)) else (-1 : Int32))) else (if (0 : Int32) < cn then (0 : Int32) else (-1 : Int32))) else (if (0 : Int32) < cn then (0 : Int32) else (-1 : Int32)))
set_option maxRecDepth 65536 in
set_option maxHeartbeats 40000000 in
theorem m_4_1 (l : Launch) (Z : State) (a0 : Array Value) (hw : ∀ d ∈ tables_1, d.before a0 Z = true) (n0 : Nat) (ws : List Jvm.Cond) (c0 c1 c2 c3 c4 : ACell) (cn p0 : Int32) (bk : Int64) :
    Meth l Z a0 ws (⟨"com/example/tidemark/tidemark/model/RecordTally", "unowned", "(I)I"⟩ : MethodName) prog_89_method_9_code 3 (some (.int)) ({ frames := 0, cells := 0, slots := 0, locals := 0 } : Room) 0 0 n0 #[.ref (ad n0 3), .int cn] ([c0, c1, c2, .inl ("com/example/tidemark/tidemark/model/RecordTally", [("partitions", "[I", .ref (ad n0 4)), ("versions", "[J", .ref (ad n0 5)), ("records", "[J", .ref (ad n0 6)), ("backed", "J", .long bk)]), .inr (.int, [.int p0]), c3, c4] : AHeap) (fun r A' => r = some (.int (own_un1 cn p0)) ∧ A' = ([c0, c1, c2, .inl ("com/example/tidemark/tidemark/model/RecordTally", [("partitions", "[I", .ref (ad n0 4)), ("versions", "[J", .ref (ad n0 5)), ("records", "[J", .ref (ad n0 6)), ("backed", "J", .long bk)]), .inr (.int, [.int p0]), c3, c4] : AHeap)) := by
  refine Meth.of (plainFor_of_name own_pn4) (Ls := [.val (.ref (ad n0 3)), .val (.int cn), .unset]) (fun m => by first | (simp [entryFrame, mkF, argsToLocals, Value.category, maxLocals]; done) | rfl) ?_
  intro K G
  have he : own_un1 cn p0 = own_un1 cn p0 := rfl
  refine G.iconst (0) d4_0 rfl ?_
  refine G.istoreN2 d4_1 rfl ?_
  refine G.iloadN d4_2 rfl ?_
  refine G.iloadN d4_3 rfl ?_
  refine G.icmp_ge 32 d4_4 (by decide) rfl (fun h4 => ?_) (fun h4 => ?_)
  · replace he := he.trans (if_neg h4)
    refine G.iloadN d4_32 rfl ?_
    refine G.iloadN d4_33 rfl ?_
    refine G.icmp_ge 41 d4_34 (by decide) rfl (fun h34 => ?_) (fun h34 => ?_)
    · replace he := he.trans (if_neg h34)
      refine G.iconst (-1) d4_41 rfl ?_
      exact G.ireturn rfl d4_42 (Nat.le_of_ble_eq_true rfl) (Nat.le_of_ble_eq_true rfl) ⟨congrArg (fun z => some (Value.int z)) he.symm, rfl⟩
    · replace he := he.trans (if_pos h34)
      refine G.iloadN d4_37 rfl ?_
      refine G.goto 42 d4_38 (by decide) rfl ?_
      exact G.ireturn rfl d4_42 (Nat.le_of_ble_eq_true rfl) (Nat.le_of_ble_eq_true rfl) ⟨congrArg (fun z => some (Value.int z)) he.symm, rfl⟩
  · replace he := he.trans (if_pos h4)
    refine G.iloadN d4_7 rfl ?_
    refine G.aloadN d4_8 rfl rfl ?_
    refine G.getf (j := 0) (host := "") d4_9 (Or.inl (hw _ (List.mem_of_getElem? (i := 20) rfl))) rfl rfl ?_
    refine G.alen (1) d4_12 rfl rfl ?_
    refine G.icmp_ge 32 d4_13 (by decide) rfl (fun h13 => absurd h13 (by decide)) (fun _ => ?_)
    refine G.aloadN d4_16 rfl rfl ?_
    refine G.getf (j := 0) (host := "") d4_17 (Or.inl (hw _ (List.mem_of_getElem? (i := 20) rfl))) rfl rfl ?_
    refine G.iloadN d4_20 rfl ?_
    refine G.iald (0) d4_21 rfl (by decide) rfl ?_
    refine G.iloadN d4_22 rfl ?_
    refine G.icmp_ne 32 d4_23 (by decide) rfl (fun h23 => ?_) (fun h23 => ?_)
    · replace he := he.trans (if_neg h23)
      refine G.iloadN d4_32 rfl ?_
      refine G.iloadN d4_33 rfl ?_
      refine G.icmp_ge 41 d4_34 (by decide) rfl (fun h34 => ?_) (fun h34 => ?_)
      · replace he := he.trans (if_neg h34)
        refine G.iconst (-1) d4_41 rfl ?_
        exact G.ireturn rfl d4_42 (Nat.le_of_ble_eq_true rfl) (Nat.le_of_ble_eq_true rfl) ⟨congrArg (fun z => some (Value.int z)) he.symm, rfl⟩
      · replace he := he.trans (if_pos h34)
        refine G.iloadN d4_37 rfl ?_
        refine G.goto 42 d4_38 (by decide) rfl ?_
        exact G.ireturn rfl d4_42 (Nat.le_of_ble_eq_true rfl) (Nat.le_of_ble_eq_true rfl) ⟨congrArg (fun z => some (Value.int z)) he.symm, rfl⟩
    · replace he := he.trans (if_pos h23)
      refine G.iinc2 (1) d4_26 rfl rfl ?_
      refine G.goto 2 d4_29 (by decide) rfl ?_
      refine G.iloadN d4_2 rfl ?_
      refine G.iloadN d4_3 rfl ?_
      refine G.icmp_ge 32 d4_4 (by decide) rfl (fun h4 => ?_) (fun h4 => ?_)
      · replace he := he.trans (if_neg h4)
        refine G.iloadN d4_32 rfl ?_
        refine G.iloadN d4_33 rfl ?_
        refine G.icmp_ge 41 d4_34 (by decide) rfl (fun h34 => ?_) (fun h34 => ?_)
        · replace he := he.trans (if_neg h34)
          refine G.iconst (-1) d4_41 rfl ?_
          exact G.ireturn rfl d4_42 (Nat.le_of_ble_eq_true rfl) (Nat.le_of_ble_eq_true rfl) ⟨congrArg (fun z => some (Value.int z)) he.symm, rfl⟩
        · replace he := he.trans (if_pos h34)
          refine G.iloadN d4_37 rfl ?_
          refine G.goto 42 d4_38 (by decide) rfl ?_
          exact G.ireturn rfl d4_42 (Nat.le_of_ble_eq_true rfl) (Nat.le_of_ble_eq_true rfl) ⟨congrArg (fun z => some (Value.int z)) he.symm, rfl⟩
      · replace he := he.trans (if_pos h4)
        refine G.iloadN d4_7 rfl ?_
        refine G.aloadN d4_8 rfl rfl ?_
        refine G.getf (j := 0) (host := "") d4_9 (Or.inl (hw _ (List.mem_of_getElem? (i := 20) rfl))) rfl rfl ?_
        refine G.alen (1) d4_12 rfl rfl ?_
        refine G.icmp_ge 32 d4_13 (by decide) rfl (fun _ => ?_) (fun h13 => absurd h13 (by decide))
        refine G.iloadN d4_32 rfl ?_
        refine G.iloadN d4_33 rfl ?_
        refine G.icmp_ge 41 d4_34 (by decide) rfl (fun h34 => ?_) (fun h34 => ?_)
        · replace he := he.trans (if_neg h34)
          refine G.iconst (-1) d4_41 rfl ?_
          exact G.ireturn rfl d4_42 (Nat.le_of_ble_eq_true rfl) (Nat.le_of_ble_eq_true rfl) ⟨congrArg (fun z => some (Value.int z)) he.symm, rfl⟩
        · replace he := he.trans (if_pos h34)
          refine G.iloadN d4_37 rfl ?_
          refine G.goto 42 d4_38 (by decide) rfl ?_
          exact G.ireturn rfl d4_42 (Nat.le_of_ble_eq_true rfl) (Nat.le_of_ble_eq_true rfl) ⟨congrArg (fun z => some (Value.int z)) he.symm, rfl⟩
def own_un2 (cn : Int32) (p0 : Int32) (p1 : Int32) : Int32 := (if (0 : Int32) < cn then (if p0 = (0 : Int32) then (if ((0 : Int32) + (1 : Int32)) < cn then (if p1 = ((0 : Int32) + (1 : Int32)) then (if (((0 : Int32) + (1 : Int32)) + (1 : Int32)) < cn then (if (((0 : Int32) + (1 : Int32)) + (1 : Int32)) < cn then (((0 : Int32) + (1 : Int32)) + (1 : Int32)) else (-1 : Int32)) else (if (((0 : Int32) + (1 : Int32)) + (1 : Int32)) < cn then (((0 : Int32) + (1 : Int32)) + (1 : Int32)) else (-1 : Int32))) else (if ((0 : Int32) + (1 : Int32)) < cn then ((0 : Int32) + (1 : Int32)) else (-1 : Int32))) else (if ((0 : Int32) + (1 : Int32)) < cn then ((0 : Int32) + (1 : Int32)) else (-1 : Int32))) else (if (0 : Int32) < cn then (0 : Int32) else (-1 : Int32))) else (if (0 : Int32) < cn then (0 : Int32) else (-1 : Int32)))
set_option maxRecDepth 65536 in
set_option maxHeartbeats 40000000 in
theorem m_4_2 (l : Launch) (Z : State) (a0 : Array Value) (hw : ∀ d ∈ tables_1, d.before a0 Z = true) (n0 : Nat) (ws : List Jvm.Cond) (c0 c1 c2 c3 c4 : ACell) (cn p0 p1 : Int32) (bk : Int64) :
    Meth l Z a0 ws (⟨"com/example/tidemark/tidemark/model/RecordTally", "unowned", "(I)I"⟩ : MethodName) prog_89_method_9_code 3 (some (.int)) ({ frames := 0, cells := 0, slots := 0, locals := 0 } : Room) 0 0 n0 #[.ref (ad n0 3), .int cn] ([c0, c1, c2, .inl ("com/example/tidemark/tidemark/model/RecordTally", [("partitions", "[I", .ref (ad n0 4)), ("versions", "[J", .ref (ad n0 5)), ("records", "[J", .ref (ad n0 6)), ("backed", "J", .long bk)]), .inr (.int, [.int p0, .int p1]), c3, c4] : AHeap) (fun r A' => r = some (.int (own_un2 cn p0 p1)) ∧ A' = ([c0, c1, c2, .inl ("com/example/tidemark/tidemark/model/RecordTally", [("partitions", "[I", .ref (ad n0 4)), ("versions", "[J", .ref (ad n0 5)), ("records", "[J", .ref (ad n0 6)), ("backed", "J", .long bk)]), .inr (.int, [.int p0, .int p1]), c3, c4] : AHeap)) := by
  refine Meth.of (plainFor_of_name own_pn4) (Ls := [.val (.ref (ad n0 3)), .val (.int cn), .unset]) (fun m => by first | (simp [entryFrame, mkF, argsToLocals, Value.category, maxLocals]; done) | rfl) ?_
  intro K G
  have he : own_un2 cn p0 p1 = own_un2 cn p0 p1 := rfl
  refine G.iconst (0) d4_0 rfl ?_
  refine G.istoreN2 d4_1 rfl ?_
  refine G.iloadN d4_2 rfl ?_
  refine G.iloadN d4_3 rfl ?_
  refine G.icmp_ge 32 d4_4 (by decide) rfl (fun h4 => ?_) (fun h4 => ?_)
  · replace he := he.trans (if_neg h4)
    refine G.iloadN d4_32 rfl ?_
    refine G.iloadN d4_33 rfl ?_
    refine G.icmp_ge 41 d4_34 (by decide) rfl (fun h34 => ?_) (fun h34 => ?_)
    · replace he := he.trans (if_neg h34)
      refine G.iconst (-1) d4_41 rfl ?_
      exact G.ireturn rfl d4_42 (Nat.le_of_ble_eq_true rfl) (Nat.le_of_ble_eq_true rfl) ⟨congrArg (fun z => some (Value.int z)) he.symm, rfl⟩
    · replace he := he.trans (if_pos h34)
      refine G.iloadN d4_37 rfl ?_
      refine G.goto 42 d4_38 (by decide) rfl ?_
      exact G.ireturn rfl d4_42 (Nat.le_of_ble_eq_true rfl) (Nat.le_of_ble_eq_true rfl) ⟨congrArg (fun z => some (Value.int z)) he.symm, rfl⟩
  · replace he := he.trans (if_pos h4)
    refine G.iloadN d4_7 rfl ?_
    refine G.aloadN d4_8 rfl rfl ?_
    refine G.getf (j := 0) (host := "") d4_9 (Or.inl (hw _ (List.mem_of_getElem? (i := 20) rfl))) rfl rfl ?_
    refine G.alen (2) d4_12 rfl rfl ?_
    refine G.icmp_ge 32 d4_13 (by decide) rfl (fun h13 => absurd h13 (by decide)) (fun _ => ?_)
    refine G.aloadN d4_16 rfl rfl ?_
    refine G.getf (j := 0) (host := "") d4_17 (Or.inl (hw _ (List.mem_of_getElem? (i := 20) rfl))) rfl rfl ?_
    refine G.iloadN d4_20 rfl ?_
    refine G.iald (0) d4_21 rfl (by decide) rfl ?_
    refine G.iloadN d4_22 rfl ?_
    refine G.icmp_ne 32 d4_23 (by decide) rfl (fun h23 => ?_) (fun h23 => ?_)
    · replace he := he.trans (if_neg h23)
      refine G.iloadN d4_32 rfl ?_
      refine G.iloadN d4_33 rfl ?_
      refine G.icmp_ge 41 d4_34 (by decide) rfl (fun h34 => ?_) (fun h34 => ?_)
      · replace he := he.trans (if_neg h34)
        refine G.iconst (-1) d4_41 rfl ?_
        exact G.ireturn rfl d4_42 (Nat.le_of_ble_eq_true rfl) (Nat.le_of_ble_eq_true rfl) ⟨congrArg (fun z => some (Value.int z)) he.symm, rfl⟩
      · replace he := he.trans (if_pos h34)
        refine G.iloadN d4_37 rfl ?_
        refine G.goto 42 d4_38 (by decide) rfl ?_
        exact G.ireturn rfl d4_42 (Nat.le_of_ble_eq_true rfl) (Nat.le_of_ble_eq_true rfl) ⟨congrArg (fun z => some (Value.int z)) he.symm, rfl⟩
    · replace he := he.trans (if_pos h23)
      refine G.iinc2 (1) d4_26 rfl rfl ?_
      refine G.goto 2 d4_29 (by decide) rfl ?_
      refine G.iloadN d4_2 rfl ?_
      refine G.iloadN d4_3 rfl ?_
      refine G.icmp_ge 32 d4_4 (by decide) rfl (fun h4 => ?_) (fun h4 => ?_)
      · replace he := he.trans (if_neg h4)
        refine G.iloadN d4_32 rfl ?_
        refine G.iloadN d4_33 rfl ?_
        refine G.icmp_ge 41 d4_34 (by decide) rfl (fun h34 => ?_) (fun h34 => ?_)
        · replace he := he.trans (if_neg h34)
          refine G.iconst (-1) d4_41 rfl ?_
          exact G.ireturn rfl d4_42 (Nat.le_of_ble_eq_true rfl) (Nat.le_of_ble_eq_true rfl) ⟨congrArg (fun z => some (Value.int z)) he.symm, rfl⟩
        · replace he := he.trans (if_pos h34)
          refine G.iloadN d4_37 rfl ?_
          refine G.goto 42 d4_38 (by decide) rfl ?_
          exact G.ireturn rfl d4_42 (Nat.le_of_ble_eq_true rfl) (Nat.le_of_ble_eq_true rfl) ⟨congrArg (fun z => some (Value.int z)) he.symm, rfl⟩
      · replace he := he.trans (if_pos h4)
        refine G.iloadN d4_7 rfl ?_
        refine G.aloadN d4_8 rfl rfl ?_
        refine G.getf (j := 0) (host := "") d4_9 (Or.inl (hw _ (List.mem_of_getElem? (i := 20) rfl))) rfl rfl ?_
        refine G.alen (2) d4_12 rfl rfl ?_
        refine G.icmp_ge 32 d4_13 (by decide) rfl (fun h13 => absurd h13 (by decide)) (fun _ => ?_)
        refine G.aloadN d4_16 rfl rfl ?_
        refine G.getf (j := 0) (host := "") d4_17 (Or.inl (hw _ (List.mem_of_getElem? (i := 20) rfl))) rfl rfl ?_
        refine G.iloadN d4_20 rfl ?_
        refine G.iald (1) d4_21 rfl (by decide) rfl ?_
        refine G.iloadN d4_22 rfl ?_
        refine G.icmp_ne 32 d4_23 (by decide) rfl (fun h23 => ?_) (fun h23 => ?_)
        · replace he := he.trans (if_neg h23)
          refine G.iloadN d4_32 rfl ?_
          refine G.iloadN d4_33 rfl ?_
          refine G.icmp_ge 41 d4_34 (by decide) rfl (fun h34 => ?_) (fun h34 => ?_)
          · replace he := he.trans (if_neg h34)
            refine G.iconst (-1) d4_41 rfl ?_
            exact G.ireturn rfl d4_42 (Nat.le_of_ble_eq_true rfl) (Nat.le_of_ble_eq_true rfl) ⟨congrArg (fun z => some (Value.int z)) he.symm, rfl⟩
          · replace he := he.trans (if_pos h34)
            refine G.iloadN d4_37 rfl ?_
            refine G.goto 42 d4_38 (by decide) rfl ?_
            exact G.ireturn rfl d4_42 (Nat.le_of_ble_eq_true rfl) (Nat.le_of_ble_eq_true rfl) ⟨congrArg (fun z => some (Value.int z)) he.symm, rfl⟩
        · replace he := he.trans (if_pos h23)
          refine G.iinc2 (1) d4_26 rfl rfl ?_
          refine G.goto 2 d4_29 (by decide) rfl ?_
          refine G.iloadN d4_2 rfl ?_
          refine G.iloadN d4_3 rfl ?_
          refine G.icmp_ge 32 d4_4 (by decide) rfl (fun h4 => ?_) (fun h4 => ?_)
          · replace he := he.trans (if_neg h4)
            refine G.iloadN d4_32 rfl ?_
            refine G.iloadN d4_33 rfl ?_
            refine G.icmp_ge 41 d4_34 (by decide) rfl (fun h34 => ?_) (fun h34 => ?_)
            · replace he := he.trans (if_neg h34)
              refine G.iconst (-1) d4_41 rfl ?_
              exact G.ireturn rfl d4_42 (Nat.le_of_ble_eq_true rfl) (Nat.le_of_ble_eq_true rfl) ⟨congrArg (fun z => some (Value.int z)) he.symm, rfl⟩
            · replace he := he.trans (if_pos h34)
              refine G.iloadN d4_37 rfl ?_
              refine G.goto 42 d4_38 (by decide) rfl ?_
              exact G.ireturn rfl d4_42 (Nat.le_of_ble_eq_true rfl) (Nat.le_of_ble_eq_true rfl) ⟨congrArg (fun z => some (Value.int z)) he.symm, rfl⟩
          · replace he := he.trans (if_pos h4)
            refine G.iloadN d4_7 rfl ?_
            refine G.aloadN d4_8 rfl rfl ?_
            refine G.getf (j := 0) (host := "") d4_9 (Or.inl (hw _ (List.mem_of_getElem? (i := 20) rfl))) rfl rfl ?_
            refine G.alen (2) d4_12 rfl rfl ?_
            refine G.icmp_ge 32 d4_13 (by decide) rfl (fun _ => ?_) (fun h13 => absurd h13 (by decide))
            refine G.iloadN d4_32 rfl ?_
            refine G.iloadN d4_33 rfl ?_
            refine G.icmp_ge 41 d4_34 (by decide) rfl (fun h34 => ?_) (fun h34 => ?_)
            · replace he := he.trans (if_neg h34)
              refine G.iconst (-1) d4_41 rfl ?_
              exact G.ireturn rfl d4_42 (Nat.le_of_ble_eq_true rfl) (Nat.le_of_ble_eq_true rfl) ⟨congrArg (fun z => some (Value.int z)) he.symm, rfl⟩
            · replace he := he.trans (if_pos h34)
              refine G.iloadN d4_37 rfl ?_
              refine G.goto 42 d4_38 (by decide) rfl ?_
              exact G.ireturn rfl d4_42 (Nat.le_of_ble_eq_true rfl) (Nat.le_of_ble_eq_true rfl) ⟨congrArg (fun z => some (Value.int z)) he.symm, rfl⟩
def own_un3 (cn : Int32) (p0 : Int32) (p1 : Int32) (p2 : Int32) : Int32 := (if (0 : Int32) < cn then (if p0 = (0 : Int32) then (if ((0 : Int32) + (1 : Int32)) < cn then (if p1 = ((0 : Int32) + (1 : Int32)) then (if (((0 : Int32) + (1 : Int32)) + (1 : Int32)) < cn then (if p2 = (((0 : Int32) + (1 : Int32)) + (1 : Int32)) then (if ((((0 : Int32) + (1 : Int32)) + (1 : Int32)) + (1 : Int32)) < cn then (if ((((0 : Int32) + (1 : Int32)) + (1 : Int32)) + (1 : Int32)) < cn then ((((0 : Int32) + (1 : Int32)) + (1 : Int32)) + (1 : Int32)) else (-1 : Int32)) else (if ((((0 : Int32) + (1 : Int32)) + (1 : Int32)) + (1 : Int32)) < cn then ((((0 : Int32) + (1 : Int32)) + (1 : Int32)) + (1 : Int32)) else (-1 : Int32))) else (if (((0 : Int32) + (1 : Int32)) + (1 : Int32)) < cn then (((0 : Int32) + (1 : Int32)) + (1 : Int32)) else (-1 : Int32))) else (if (((0 : Int32) + (1 : Int32)) + (1 : Int32)) < cn then (((0 : Int32) + (1 : Int32)) + (1 : Int32)) else (-1 : Int32))) else (if ((0 : Int32) + (1 : Int32)) < cn then ((0 : Int32) + (1 : Int32)) else (-1 : Int32))) else (if ((0 : Int32) + (1 : Int32)) < cn then ((0 : Int32) + (1 : Int32)) else (-1 : Int32))) else (if (0 : Int32) < cn then (0 : Int32) else (-1 : Int32))) else (if (0 : Int32) < cn then (0 : Int32) else (-1 : Int32)))
set_option maxRecDepth 65536 in
set_option maxHeartbeats 40000000 in
theorem m_4_3 (l : Launch) (Z : State) (a0 : Array Value) (hw : ∀ d ∈ tables_1, d.before a0 Z = true) (n0 : Nat) (ws : List Jvm.Cond) (c0 c1 c2 c3 c4 : ACell) (cn p0 p1 p2 : Int32) (bk : Int64) :
    Meth l Z a0 ws (⟨"com/example/tidemark/tidemark/model/RecordTally", "unowned", "(I)I"⟩ : MethodName) prog_89_method_9_code 3 (some (.int)) ({ frames := 0, cells := 0, slots := 0, locals := 0 } : Room) 0 0 n0 #[.ref (ad n0 3), .int cn] ([c0, c1, c2, .inl ("com/example/tidemark/tidemark/model/RecordTally", [("partitions", "[I", .ref (ad n0 4)), ("versions", "[J", .ref (ad n0 5)), ("records", "[J", .ref (ad n0 6)), ("backed", "J", .long bk)]), .inr (.int, [.int p0, .int p1, .int p2]), c3, c4] : AHeap) (fun r A' => r = some (.int (own_un3 cn p0 p1 p2)) ∧ A' = ([c0, c1, c2, .inl ("com/example/tidemark/tidemark/model/RecordTally", [("partitions", "[I", .ref (ad n0 4)), ("versions", "[J", .ref (ad n0 5)), ("records", "[J", .ref (ad n0 6)), ("backed", "J", .long bk)]), .inr (.int, [.int p0, .int p1, .int p2]), c3, c4] : AHeap)) := by
  refine Meth.of (plainFor_of_name own_pn4) (Ls := [.val (.ref (ad n0 3)), .val (.int cn), .unset]) (fun m => by first | (simp [entryFrame, mkF, argsToLocals, Value.category, maxLocals]; done) | rfl) ?_
  intro K G
  have he : own_un3 cn p0 p1 p2 = own_un3 cn p0 p1 p2 := rfl
  refine G.iconst (0) d4_0 rfl ?_
  refine G.istoreN2 d4_1 rfl ?_
  refine G.iloadN d4_2 rfl ?_
  refine G.iloadN d4_3 rfl ?_
  refine G.icmp_ge 32 d4_4 (by decide) rfl (fun h4 => ?_) (fun h4 => ?_)
  · replace he := he.trans (if_neg h4)
    refine G.iloadN d4_32 rfl ?_
    refine G.iloadN d4_33 rfl ?_
    refine G.icmp_ge 41 d4_34 (by decide) rfl (fun h34 => ?_) (fun h34 => ?_)
    · replace he := he.trans (if_neg h34)
      refine G.iconst (-1) d4_41 rfl ?_
      exact G.ireturn rfl d4_42 (Nat.le_of_ble_eq_true rfl) (Nat.le_of_ble_eq_true rfl) ⟨congrArg (fun z => some (Value.int z)) he.symm, rfl⟩
    · replace he := he.trans (if_pos h34)
      refine G.iloadN d4_37 rfl ?_
      refine G.goto 42 d4_38 (by decide) rfl ?_
      exact G.ireturn rfl d4_42 (Nat.le_of_ble_eq_true rfl) (Nat.le_of_ble_eq_true rfl) ⟨congrArg (fun z => some (Value.int z)) he.symm, rfl⟩
  · replace he := he.trans (if_pos h4)
    refine G.iloadN d4_7 rfl ?_
    refine G.aloadN d4_8 rfl rfl ?_
    refine G.getf (j := 0) (host := "") d4_9 (Or.inl (hw _ (List.mem_of_getElem? (i := 20) rfl))) rfl rfl ?_
    refine G.alen (3) d4_12 rfl rfl ?_
    refine G.icmp_ge 32 d4_13 (by decide) rfl (fun h13 => absurd h13 (by decide)) (fun _ => ?_)
    refine G.aloadN d4_16 rfl rfl ?_
    refine G.getf (j := 0) (host := "") d4_17 (Or.inl (hw _ (List.mem_of_getElem? (i := 20) rfl))) rfl rfl ?_
    refine G.iloadN d4_20 rfl ?_
    refine G.iald (0) d4_21 rfl (by decide) rfl ?_
    refine G.iloadN d4_22 rfl ?_
    refine G.icmp_ne 32 d4_23 (by decide) rfl (fun h23 => ?_) (fun h23 => ?_)
    · replace he := he.trans (if_neg h23)
      refine G.iloadN d4_32 rfl ?_
      refine G.iloadN d4_33 rfl ?_
      refine G.icmp_ge 41 d4_34 (by decide) rfl (fun h34 => ?_) (fun h34 => ?_)
      · replace he := he.trans (if_neg h34)
        refine G.iconst (-1) d4_41 rfl ?_
        exact G.ireturn rfl d4_42 (Nat.le_of_ble_eq_true rfl) (Nat.le_of_ble_eq_true rfl) ⟨congrArg (fun z => some (Value.int z)) he.symm, rfl⟩
      · replace he := he.trans (if_pos h34)
        refine G.iloadN d4_37 rfl ?_
        refine G.goto 42 d4_38 (by decide) rfl ?_
        exact G.ireturn rfl d4_42 (Nat.le_of_ble_eq_true rfl) (Nat.le_of_ble_eq_true rfl) ⟨congrArg (fun z => some (Value.int z)) he.symm, rfl⟩
    · replace he := he.trans (if_pos h23)
      refine G.iinc2 (1) d4_26 rfl rfl ?_
      refine G.goto 2 d4_29 (by decide) rfl ?_
      refine G.iloadN d4_2 rfl ?_
      refine G.iloadN d4_3 rfl ?_
      refine G.icmp_ge 32 d4_4 (by decide) rfl (fun h4 => ?_) (fun h4 => ?_)
      · replace he := he.trans (if_neg h4)
        refine G.iloadN d4_32 rfl ?_
        refine G.iloadN d4_33 rfl ?_
        refine G.icmp_ge 41 d4_34 (by decide) rfl (fun h34 => ?_) (fun h34 => ?_)
        · replace he := he.trans (if_neg h34)
          refine G.iconst (-1) d4_41 rfl ?_
          exact G.ireturn rfl d4_42 (Nat.le_of_ble_eq_true rfl) (Nat.le_of_ble_eq_true rfl) ⟨congrArg (fun z => some (Value.int z)) he.symm, rfl⟩
        · replace he := he.trans (if_pos h34)
          refine G.iloadN d4_37 rfl ?_
          refine G.goto 42 d4_38 (by decide) rfl ?_
          exact G.ireturn rfl d4_42 (Nat.le_of_ble_eq_true rfl) (Nat.le_of_ble_eq_true rfl) ⟨congrArg (fun z => some (Value.int z)) he.symm, rfl⟩
      · replace he := he.trans (if_pos h4)
        refine G.iloadN d4_7 rfl ?_
        refine G.aloadN d4_8 rfl rfl ?_
        refine G.getf (j := 0) (host := "") d4_9 (Or.inl (hw _ (List.mem_of_getElem? (i := 20) rfl))) rfl rfl ?_
        refine G.alen (3) d4_12 rfl rfl ?_
        refine G.icmp_ge 32 d4_13 (by decide) rfl (fun h13 => absurd h13 (by decide)) (fun _ => ?_)
        refine G.aloadN d4_16 rfl rfl ?_
        refine G.getf (j := 0) (host := "") d4_17 (Or.inl (hw _ (List.mem_of_getElem? (i := 20) rfl))) rfl rfl ?_
        refine G.iloadN d4_20 rfl ?_
        refine G.iald (1) d4_21 rfl (by decide) rfl ?_
        refine G.iloadN d4_22 rfl ?_
        refine G.icmp_ne 32 d4_23 (by decide) rfl (fun h23 => ?_) (fun h23 => ?_)
        · replace he := he.trans (if_neg h23)
          refine G.iloadN d4_32 rfl ?_
          refine G.iloadN d4_33 rfl ?_
          refine G.icmp_ge 41 d4_34 (by decide) rfl (fun h34 => ?_) (fun h34 => ?_)
          · replace he := he.trans (if_neg h34)
            refine G.iconst (-1) d4_41 rfl ?_
            exact G.ireturn rfl d4_42 (Nat.le_of_ble_eq_true rfl) (Nat.le_of_ble_eq_true rfl) ⟨congrArg (fun z => some (Value.int z)) he.symm, rfl⟩
          · replace he := he.trans (if_pos h34)
            refine G.iloadN d4_37 rfl ?_
            refine G.goto 42 d4_38 (by decide) rfl ?_
            exact G.ireturn rfl d4_42 (Nat.le_of_ble_eq_true rfl) (Nat.le_of_ble_eq_true rfl) ⟨congrArg (fun z => some (Value.int z)) he.symm, rfl⟩
        · replace he := he.trans (if_pos h23)
          refine G.iinc2 (1) d4_26 rfl rfl ?_
          refine G.goto 2 d4_29 (by decide) rfl ?_
          refine G.iloadN d4_2 rfl ?_
          refine G.iloadN d4_3 rfl ?_
          refine G.icmp_ge 32 d4_4 (by decide) rfl (fun h4 => ?_) (fun h4 => ?_)
          · replace he := he.trans (if_neg h4)
            refine G.iloadN d4_32 rfl ?_
            refine G.iloadN d4_33 rfl ?_
            refine G.icmp_ge 41 d4_34 (by decide) rfl (fun h34 => ?_) (fun h34 => ?_)
            · replace he := he.trans (if_neg h34)
              refine G.iconst (-1) d4_41 rfl ?_
              exact G.ireturn rfl d4_42 (Nat.le_of_ble_eq_true rfl) (Nat.le_of_ble_eq_true rfl) ⟨congrArg (fun z => some (Value.int z)) he.symm, rfl⟩
            · replace he := he.trans (if_pos h34)
              refine G.iloadN d4_37 rfl ?_
              refine G.goto 42 d4_38 (by decide) rfl ?_
              exact G.ireturn rfl d4_42 (Nat.le_of_ble_eq_true rfl) (Nat.le_of_ble_eq_true rfl) ⟨congrArg (fun z => some (Value.int z)) he.symm, rfl⟩
          · replace he := he.trans (if_pos h4)
            refine G.iloadN d4_7 rfl ?_
            refine G.aloadN d4_8 rfl rfl ?_
            refine G.getf (j := 0) (host := "") d4_9 (Or.inl (hw _ (List.mem_of_getElem? (i := 20) rfl))) rfl rfl ?_
            refine G.alen (3) d4_12 rfl rfl ?_
            refine G.icmp_ge 32 d4_13 (by decide) rfl (fun h13 => absurd h13 (by decide)) (fun _ => ?_)
            refine G.aloadN d4_16 rfl rfl ?_
            refine G.getf (j := 0) (host := "") d4_17 (Or.inl (hw _ (List.mem_of_getElem? (i := 20) rfl))) rfl rfl ?_
            refine G.iloadN d4_20 rfl ?_
            refine G.iald (2) d4_21 rfl (by decide) rfl ?_
            refine G.iloadN d4_22 rfl ?_
            refine G.icmp_ne 32 d4_23 (by decide) rfl (fun h23 => ?_) (fun h23 => ?_)
            · replace he := he.trans (if_neg h23)
              refine G.iloadN d4_32 rfl ?_
              refine G.iloadN d4_33 rfl ?_
              refine G.icmp_ge 41 d4_34 (by decide) rfl (fun h34 => ?_) (fun h34 => ?_)
              · replace he := he.trans (if_neg h34)
                refine G.iconst (-1) d4_41 rfl ?_
                exact G.ireturn rfl d4_42 (Nat.le_of_ble_eq_true rfl) (Nat.le_of_ble_eq_true rfl) ⟨congrArg (fun z => some (Value.int z)) he.symm, rfl⟩
              · replace he := he.trans (if_pos h34)
                refine G.iloadN d4_37 rfl ?_
                refine G.goto 42 d4_38 (by decide) rfl ?_
                exact G.ireturn rfl d4_42 (Nat.le_of_ble_eq_true rfl) (Nat.le_of_ble_eq_true rfl) ⟨congrArg (fun z => some (Value.int z)) he.symm, rfl⟩
            · replace he := he.trans (if_pos h23)
              refine G.iinc2 (1) d4_26 rfl rfl ?_
              refine G.goto 2 d4_29 (by decide) rfl ?_
              refine G.iloadN d4_2 rfl ?_
              refine G.iloadN d4_3 rfl ?_
              refine G.icmp_ge 32 d4_4 (by decide) rfl (fun h4 => ?_) (fun h4 => ?_)
              · replace he := he.trans (if_neg h4)
                refine G.iloadN d4_32 rfl ?_
                refine G.iloadN d4_33 rfl ?_
                refine G.icmp_ge 41 d4_34 (by decide) rfl (fun h34 => ?_) (fun h34 => ?_)
                · replace he := he.trans (if_neg h34)
                  refine G.iconst (-1) d4_41 rfl ?_
                  exact G.ireturn rfl d4_42 (Nat.le_of_ble_eq_true rfl) (Nat.le_of_ble_eq_true rfl) ⟨congrArg (fun z => some (Value.int z)) he.symm, rfl⟩
                · replace he := he.trans (if_pos h34)
                  refine G.iloadN d4_37 rfl ?_
                  refine G.goto 42 d4_38 (by decide) rfl ?_
                  exact G.ireturn rfl d4_42 (Nat.le_of_ble_eq_true rfl) (Nat.le_of_ble_eq_true rfl) ⟨congrArg (fun z => some (Value.int z)) he.symm, rfl⟩
              · replace he := he.trans (if_pos h4)
                refine G.iloadN d4_7 rfl ?_
                refine G.aloadN d4_8 rfl rfl ?_
                refine G.getf (j := 0) (host := "") d4_9 (Or.inl (hw _ (List.mem_of_getElem? (i := 20) rfl))) rfl rfl ?_
                refine G.alen (3) d4_12 rfl rfl ?_
                refine G.icmp_ge 32 d4_13 (by decide) rfl (fun _ => ?_) (fun h13 => absurd h13 (by decide))
                refine G.iloadN d4_32 rfl ?_
                refine G.iloadN d4_33 rfl ?_
                refine G.icmp_ge 41 d4_34 (by decide) rfl (fun h34 => ?_) (fun h34 => ?_)
                · replace he := he.trans (if_neg h34)
                  refine G.iconst (-1) d4_41 rfl ?_
                  exact G.ireturn rfl d4_42 (Nat.le_of_ble_eq_true rfl) (Nat.le_of_ble_eq_true rfl) ⟨congrArg (fun z => some (Value.int z)) he.symm, rfl⟩
                · replace he := he.trans (if_pos h34)
                  refine G.iloadN d4_37 rfl ?_
                  refine G.goto 42 d4_38 (by decide) rfl ?_
                  exact G.ireturn rfl d4_42 (Nat.le_of_ble_eq_true rfl) (Nat.le_of_ble_eq_true rfl) ⟨congrArg (fun z => some (Value.int z)) he.symm, rfl⟩
theorem own_four (x : Int32) : (x &&& 3) = 0 ∨ (x &&& 3) = 1 ∨ (x &&& 3) = 2 ∨ (x &&& 3) = 3 := by
  have m : (x &&& 3).toInt = x.toInt % 2 ^ 2 := Jvm.Kit.i32_mask x 3 (k := 2) (by decide) (by decide)
  have e0 : (0 : Int32).toInt = 0 := by decide
  have e1 : (1 : Int32).toInt = 1 := by decide
  have e2 : (2 : Int32).toInt = 2 := by decide
  have e3 : (3 : Int32).toInt = 3 := by decide
  rw [← Int32.toInt_inj, ← Int32.toInt_inj, ← Int32.toInt_inj, ← Int32.toInt_inj]
  omega
theorem own_q (x y z : Int32) : (¬ (x &&& 3) < 0 ∧ (x &&& 3) < 65536) ∧ (¬ ((x &&& 3) + 1 + (y &&& 3)) < (x &&& 3) + 1 ∧ ((x &&& 3) + 1 + (y &&& 3)) < 65536) ∧ (¬ ((x &&& 3) + 1 + (y &&& 3) + 1 + (z &&& 3)) < (x &&& 3) + 1 + (y &&& 3) + 1 ∧ ((x &&& 3) + 1 + (y &&& 3) + 1 + (z &&& 3)) < 65536) ∧ (0 ≤ (x &&& 3).toInt ∧ (x &&& 3).toInt < ((x &&& 3) + 1 + (y &&& 3)).toInt ∧ ((x &&& 3) + 1 + (y &&& 3)).toInt < ((x &&& 3) + 1 + (y &&& 3) + 1 + (z &&& 3)).toInt) := by
  have m0 : (x &&& 3).toInt = x.toInt % 2 ^ 2 := Jvm.Kit.i32_mask x 3 (k := 2) (by decide) (by decide)
  have m1 : (y &&& 3).toInt = y.toInt % 2 ^ 2 := Jvm.Kit.i32_mask y 3 (k := 2) (by decide) (by decide)
  have m2 : (z &&& 3).toInt = z.toInt % 2 ^ 2 := Jvm.Kit.i32_mask z 3 (k := 2) (by decide) (by decide)
  generalize x &&& 3 = a at m0 ⊢
  generalize y &&& 3 = b at m1 ⊢
  generalize z &&& 3 = c at m2 ⊢
  have e0 : (0 : Int32).toInt = 0 := by decide
  have e1 : (1 : Int32).toInt = 1 := by decide
  have e2 : (65536 : Int32).toInt = 65536 := by decide
  have d1 : (a + 1).toInt = a.toInt + (1 : Int32).toInt := Jvm.Kit.i32_add (by omega) (by omega)
  have d2 : (a + 1 + b).toInt = (a + 1).toInt + b.toInt := Jvm.Kit.i32_add (by omega) (by omega)
  have d3 : (a + 1 + b + 1).toInt = (a + 1 + b).toInt + (1 : Int32).toInt := Jvm.Kit.i32_add (by omega) (by omega)
  have d4 : (a + 1 + b + 1 + c).toInt = (a + 1 + b + 1).toInt + c.toInt := Jvm.Kit.i32_add (by omega) (by omega)
  simp only [Int32.lt_iff_toInt_lt]
  omega
def own_law_4 (l0 : Int32) (l1 : Int32) (l2 : Int32) (l3 : Int32) : Int32 := (if l3 = (0 : Int32) then (if (l2 &&& (1 : Int32)) = (0 : Int32) then (if (own_in (0 : Int32) ((l0 >>> ((2 : Int32) &&& 31)) &&& (3 : Int32)) ((((l0 >>> ((2 : Int32) &&& 31)) &&& (3 : Int32)) + (1 : Int32)) + ((l0 >>> ((4 : Int32) &&& 31)) &&& (3 : Int32))) ((((((l0 >>> ((2 : Int32) &&& 31)) &&& (3 : Int32)) + (1 : Int32)) + ((l0 >>> ((4 : Int32) &&& 31)) &&& (3 : Int32))) + (1 : Int32)) + ((l0 >>> ((6 : Int32) &&& 31)) &&& (3 : Int32))) (0 : Int32)) = (0 : Int32) then (if (0 : Int32) < (l1 % (6 : Int32)) then (if (own_un0 (l1 % (6 : Int32))) = (0 : Int32) then (1 : Int32) else (0 : Int32)) else (if (own_un0 (l1 % (6 : Int32))) = (-1 : Int32) then (1 : Int32) else (0 : Int32))) else (if (own_in (0 : Int32) ((l0 >>> ((2 : Int32) &&& 31)) &&& (3 : Int32)) ((((l0 >>> ((2 : Int32) &&& 31)) &&& (3 : Int32)) + (1 : Int32)) + ((l0 >>> ((4 : Int32) &&& 31)) &&& (3 : Int32))) ((((((l0 >>> ((2 : Int32) &&& 31)) &&& (3 : Int32)) + (1 : Int32)) + ((l0 >>> ((4 : Int32) &&& 31)) &&& (3 : Int32))) + (1 : Int32)) + ((l0 >>> ((6 : Int32) &&& 31)) &&& (3 : Int32))) (1 : Int32)) = (0 : Int32) then (if (1 : Int32) < (l1 % (6 : Int32)) then (if (own_un0 (l1 % (6 : Int32))) = (1 : Int32) then (1 : Int32) else (0 : Int32)) else (if (own_un0 (l1 % (6 : Int32))) = (-1 : Int32) then (1 : Int32) else (0 : Int32))) else (if (own_in (0 : Int32) ((l0 >>> ((2 : Int32) &&& 31)) &&& (3 : Int32)) ((((l0 >>> ((2 : Int32) &&& 31)) &&& (3 : Int32)) + (1 : Int32)) + ((l0 >>> ((4 : Int32) &&& 31)) &&& (3 : Int32))) ((((((l0 >>> ((2 : Int32) &&& 31)) &&& (3 : Int32)) + (1 : Int32)) + ((l0 >>> ((4 : Int32) &&& 31)) &&& (3 : Int32))) + (1 : Int32)) + ((l0 >>> ((6 : Int32) &&& 31)) &&& (3 : Int32))) (2 : Int32)) = (0 : Int32) then (if (2 : Int32) < (l1 % (6 : Int32)) then (if (own_un0 (l1 % (6 : Int32))) = (2 : Int32) then (1 : Int32) else (0 : Int32)) else (if (own_un0 (l1 % (6 : Int32))) = (-1 : Int32) then (1 : Int32) else (0 : Int32))) else (if (3 : Int32) < (l1 % (6 : Int32)) then (if (own_un0 (l1 % (6 : Int32))) = (3 : Int32) then (1 : Int32) else (0 : Int32)) else (if (own_un0 (l1 % (6 : Int32))) = (-1 : Int32) then (1 : Int32) else (0 : Int32)))))) else (if (own_in (0 : Int32) ((l0 >>> ((2 : Int32) &&& 31)) &&& (3 : Int32)) ((((l0 >>> ((2 : Int32) &&& 31)) &&& (3 : Int32)) + (1 : Int32)) + ((l0 >>> ((4 : Int32) &&& 31)) &&& (3 : Int32))) ((((((l0 >>> ((2 : Int32) &&& 31)) &&& (3 : Int32)) + (1 : Int32)) + ((l0 >>> ((4 : Int32) &&& 31)) &&& (3 : Int32))) + (1 : Int32)) + ((l0 >>> ((6 : Int32) &&& 31)) &&& (3 : Int32))) (0 : Int32)) = (0 : Int32) then (if (0 : Int32) < l1 then (if (own_un0 l1) = (0 : Int32) then (1 : Int32) else (0 : Int32)) else (if (own_un0 l1) = (-1 : Int32) then (1 : Int32) else (0 : Int32))) else (if (own_in (0 : Int32) ((l0 >>> ((2 : Int32) &&& 31)) &&& (3 : Int32)) ((((l0 >>> ((2 : Int32) &&& 31)) &&& (3 : Int32)) + (1 : Int32)) + ((l0 >>> ((4 : Int32) &&& 31)) &&& (3 : Int32))) ((((((l0 >>> ((2 : Int32) &&& 31)) &&& (3 : Int32)) + (1 : Int32)) + ((l0 >>> ((4 : Int32) &&& 31)) &&& (3 : Int32))) + (1 : Int32)) + ((l0 >>> ((6 : Int32) &&& 31)) &&& (3 : Int32))) (1 : Int32)) = (0 : Int32) then (if (1 : Int32) < l1 then (if (own_un0 l1) = (1 : Int32) then (1 : Int32) else (0 : Int32)) else (if (own_un0 l1) = (-1 : Int32) then (1 : Int32) else (0 : Int32))) else (if (own_in (0 : Int32) ((l0 >>> ((2 : Int32) &&& 31)) &&& (3 : Int32)) ((((l0 >>> ((2 : Int32) &&& 31)) &&& (3 : Int32)) + (1 : Int32)) + ((l0 >>> ((4 : Int32) &&& 31)) &&& (3 : Int32))) ((((((l0 >>> ((2 : Int32) &&& 31)) &&& (3 : Int32)) + (1 : Int32)) + ((l0 >>> ((4 : Int32) &&& 31)) &&& (3 : Int32))) + (1 : Int32)) + ((l0 >>> ((6 : Int32) &&& 31)) &&& (3 : Int32))) (2 : Int32)) = (0 : Int32) then (if (2 : Int32) < l1 then (if (own_un0 l1) = (2 : Int32) then (1 : Int32) else (0 : Int32)) else (if (own_un0 l1) = (-1 : Int32) then (1 : Int32) else (0 : Int32))) else (if (3 : Int32) < l1 then (if (own_un0 l1) = (3 : Int32) then (1 : Int32) else (0 : Int32)) else (if (own_un0 l1) = (-1 : Int32) then (1 : Int32) else (0 : Int32))))))) else (if l3 = (1 : Int32) then (if (l2 &&& (1 : Int32)) = (0 : Int32) then (if (own_in (1 : Int32) ((l0 >>> ((2 : Int32) &&& 31)) &&& (3 : Int32)) ((((l0 >>> ((2 : Int32) &&& 31)) &&& (3 : Int32)) + (1 : Int32)) + ((l0 >>> ((4 : Int32) &&& 31)) &&& (3 : Int32))) ((((((l0 >>> ((2 : Int32) &&& 31)) &&& (3 : Int32)) + (1 : Int32)) + ((l0 >>> ((4 : Int32) &&& 31)) &&& (3 : Int32))) + (1 : Int32)) + ((l0 >>> ((6 : Int32) &&& 31)) &&& (3 : Int32))) (0 : Int32)) = (0 : Int32) then (if (0 : Int32) < (l1 % (6 : Int32)) then (if (own_un1 (l1 % (6 : Int32)) ((l0 >>> ((2 : Int32) &&& 31)) &&& (3 : Int32))) = (0 : Int32) then (1 : Int32) else (0 : Int32)) else (if (own_un1 (l1 % (6 : Int32)) ((l0 >>> ((2 : Int32) &&& 31)) &&& (3 : Int32))) = (-1 : Int32) then (1 : Int32) else (0 : Int32))) else (if (own_in (1 : Int32) ((l0 >>> ((2 : Int32) &&& 31)) &&& (3 : Int32)) ((((l0 >>> ((2 : Int32) &&& 31)) &&& (3 : Int32)) + (1 : Int32)) + ((l0 >>> ((4 : Int32) &&& 31)) &&& (3 : Int32))) ((((((l0 >>> ((2 : Int32) &&& 31)) &&& (3 : Int32)) + (1 : Int32)) + ((l0 >>> ((4 : Int32) &&& 31)) &&& (3 : Int32))) + (1 : Int32)) + ((l0 >>> ((6 : Int32) &&& 31)) &&& (3 : Int32))) (1 : Int32)) = (0 : Int32) then (if (1 : Int32) < (l1 % (6 : Int32)) then (if (own_un1 (l1 % (6 : Int32)) ((l0 >>> ((2 : Int32) &&& 31)) &&& (3 : Int32))) = (1 : Int32) then (1 : Int32) else (0 : Int32)) else (if (own_un1 (l1 % (6 : Int32)) ((l0 >>> ((2 : Int32) &&& 31)) &&& (3 : Int32))) = (-1 : Int32) then (1 : Int32) else (0 : Int32))) else (if (own_in (1 : Int32) ((l0 >>> ((2 : Int32) &&& 31)) &&& (3 : Int32)) ((((l0 >>> ((2 : Int32) &&& 31)) &&& (3 : Int32)) + (1 : Int32)) + ((l0 >>> ((4 : Int32) &&& 31)) &&& (3 : Int32))) ((((((l0 >>> ((2 : Int32) &&& 31)) &&& (3 : Int32)) + (1 : Int32)) + ((l0 >>> ((4 : Int32) &&& 31)) &&& (3 : Int32))) + (1 : Int32)) + ((l0 >>> ((6 : Int32) &&& 31)) &&& (3 : Int32))) (2 : Int32)) = (0 : Int32) then (if (2 : Int32) < (l1 % (6 : Int32)) then (if (own_un1 (l1 % (6 : Int32)) ((l0 >>> ((2 : Int32) &&& 31)) &&& (3 : Int32))) = (2 : Int32) then (1 : Int32) else (0 : Int32)) else (if (own_un1 (l1 % (6 : Int32)) ((l0 >>> ((2 : Int32) &&& 31)) &&& (3 : Int32))) = (-1 : Int32) then (1 : Int32) else (0 : Int32))) else (if (3 : Int32) < (l1 % (6 : Int32)) then (if (own_un1 (l1 % (6 : Int32)) ((l0 >>> ((2 : Int32) &&& 31)) &&& (3 : Int32))) = (3 : Int32) then (1 : Int32) else (0 : Int32)) else (if (own_un1 (l1 % (6 : Int32)) ((l0 >>> ((2 : Int32) &&& 31)) &&& (3 : Int32))) = (-1 : Int32) then (1 : Int32) else (0 : Int32)))))) else (if (own_in (1 : Int32) ((l0 >>> ((2 : Int32) &&& 31)) &&& (3 : Int32)) ((((l0 >>> ((2 : Int32) &&& 31)) &&& (3 : Int32)) + (1 : Int32)) + ((l0 >>> ((4 : Int32) &&& 31)) &&& (3 : Int32))) ((((((l0 >>> ((2 : Int32) &&& 31)) &&& (3 : Int32)) + (1 : Int32)) + ((l0 >>> ((4 : Int32) &&& 31)) &&& (3 : Int32))) + (1 : Int32)) + ((l0 >>> ((6 : Int32) &&& 31)) &&& (3 : Int32))) (0 : Int32)) = (0 : Int32) then (if (0 : Int32) < l1 then (if (own_un1 l1 ((l0 >>> ((2 : Int32) &&& 31)) &&& (3 : Int32))) = (0 : Int32) then (1 : Int32) else (0 : Int32)) else (if (own_un1 l1 ((l0 >>> ((2 : Int32) &&& 31)) &&& (3 : Int32))) = (-1 : Int32) then (1 : Int32) else (0 : Int32))) else (if (own_in (1 : Int32) ((l0 >>> ((2 : Int32) &&& 31)) &&& (3 : Int32)) ((((l0 >>> ((2 : Int32) &&& 31)) &&& (3 : Int32)) + (1 : Int32)) + ((l0 >>> ((4 : Int32) &&& 31)) &&& (3 : Int32))) ((((((l0 >>> ((2 : Int32) &&& 31)) &&& (3 : Int32)) + (1 : Int32)) + ((l0 >>> ((4 : Int32) &&& 31)) &&& (3 : Int32))) + (1 : Int32)) + ((l0 >>> ((6 : Int32) &&& 31)) &&& (3 : Int32))) (1 : Int32)) = (0 : Int32) then (if (1 : Int32) < l1 then (if (own_un1 l1 ((l0 >>> ((2 : Int32) &&& 31)) &&& (3 : Int32))) = (1 : Int32) then (1 : Int32) else (0 : Int32)) else (if (own_un1 l1 ((l0 >>> ((2 : Int32) &&& 31)) &&& (3 : Int32))) = (-1 : Int32) then (1 : Int32) else (0 : Int32))) else (if (own_in (1 : Int32) ((l0 >>> ((2 : Int32) &&& 31)) &&& (3 : Int32)) ((((l0 >>> ((2 : Int32) &&& 31)) &&& (3 : Int32)) + (1 : Int32)) + ((l0 >>> ((4 : Int32) &&& 31)) &&& (3 : Int32))) ((((((l0 >>> ((2 : Int32) &&& 31)) &&& (3 : Int32)) + (1 : Int32)) + ((l0 >>> ((4 : Int32) &&& 31)) &&& (3 : Int32))) + (1 : Int32)) + ((l0 >>> ((6 : Int32) &&& 31)) &&& (3 : Int32))) (2 : Int32)) = (0 : Int32) then (if (2 : Int32) < l1 then (if (own_un1 l1 ((l0 >>> ((2 : Int32) &&& 31)) &&& (3 : Int32))) = (2 : Int32) then (1 : Int32) else (0 : Int32)) else (if (own_un1 l1 ((l0 >>> ((2 : Int32) &&& 31)) &&& (3 : Int32))) = (-1 : Int32) then (1 : Int32) else (0 : Int32))) else (if (3 : Int32) < l1 then (if (own_un1 l1 ((l0 >>> ((2 : Int32) &&& 31)) &&& (3 : Int32))) = (3 : Int32) then (1 : Int32) else (0 : Int32)) else (if (own_un1 l1 ((l0 >>> ((2 : Int32) &&& 31)) &&& (3 : Int32))) = (-1 : Int32) then (1 : Int32) else (0 : Int32))))))) else (if l3 = (2 : Int32) then (if (l2 &&& (1 : Int32)) = (0 : Int32) then (if (own_in (2 : Int32) ((l0 >>> ((2 : Int32) &&& 31)) &&& (3 : Int32)) ((((l0 >>> ((2 : Int32) &&& 31)) &&& (3 : Int32)) + (1 : Int32)) + ((l0 >>> ((4 : Int32) &&& 31)) &&& (3 : Int32))) ((((((l0 >>> ((2 : Int32) &&& 31)) &&& (3 : Int32)) + (1 : Int32)) + ((l0 >>> ((4 : Int32) &&& 31)) &&& (3 : Int32))) + (1 : Int32)) + ((l0 >>> ((6 : Int32) &&& 31)) &&& (3 : Int32))) (0 : Int32)) = (0 : Int32) then (if (0 : Int32) < (l1 % (6 : Int32)) then (if (own_un2 (l1 % (6 : Int32)) ((l0 >>> ((2 : Int32) &&& 31)) &&& (3 : Int32)) ((((l0 >>> ((2 : Int32) &&& 31)) &&& (3 : Int32)) + (1 : Int32)) + ((l0 >>> ((4 : Int32) &&& 31)) &&& (3 : Int32)))) = (0 : Int32) then (1 : Int32) else (0 : Int32)) else (if (own_un2 (l1 % (6 : Int32)) ((l0 >>> ((2 : Int32) &&& 31)) &&& (3 : Int32)) ((((l0 >>> ((2 : Int32) &&& 31)) &&& (3 : Int32)) + (1 : Int32)) + ((l0 >>> ((4 : Int32) &&& 31)) &&& (3 : Int32)))) = (-1 : Int32) then (1 : Int32) else (0 : Int32))) else (if (own_in (2 : Int32) ((l0 >>> ((2 : Int32) &&& 31)) &&& (3 : Int32)) ((((l0 >>> ((2 : Int32) &&& 31)) &&& (3 : Int32)) + (1 : Int32)) + ((l0 >>> ((4 : Int32) &&& 31)) &&& (3 : Int32))) ((((((l0 >>> ((2 : Int32) &&& 31)) &&& (3 : Int32)) + (1 : Int32)) + ((l0 >>> ((4 : Int32) &&& 31)) &&& (3 : Int32))) + (1 : Int32)) + ((l0 >>> ((6 : Int32) &&& 31)) &&& (3 : Int32))) (1 : Int32)) = (0 : Int32) then (if (1 : Int32) < (l1 % (6 : Int32)) then (if (own_un2 (l1 % (6 : Int32)) ((l0 >>> ((2 : Int32) &&& 31)) &&& (3 : Int32)) ((((l0 >>> ((2 : Int32) &&& 31)) &&& (3 : Int32)) + (1 : Int32)) + ((l0 >>> ((4 : Int32) &&& 31)) &&& (3 : Int32)))) = (1 : Int32) then (1 : Int32) else (0 : Int32)) else (if (own_un2 (l1 % (6 : Int32)) ((l0 >>> ((2 : Int32) &&& 31)) &&& (3 : Int32)) ((((l0 >>> ((2 : Int32) &&& 31)) &&& (3 : Int32)) + (1 : Int32)) + ((l0 >>> ((4 : Int32) &&& 31)) &&& (3 : Int32)))) = (-1 : Int32) then (1 : Int32) else (0 : Int32))) else (if (own_in (2 : Int32) ((l0 >>> ((2 : Int32) &&& 31)) &&& (3 : Int32)) ((((l0 >>> ((2 : Int32) &&& 31)) &&& (3 : Int32)) + (1 : Int32)) + ((l0 >>> ((4 : Int32) &&& 31)) &&& (3 : Int32))) ((((((l0 >>> ((2 : Int32) &&& 31)) &&& (3 : Int32)) + (1 : Int32)) + ((l0 >>> ((4 : Int32) &&& 31)) &&& (3 : Int32))) + (1 : Int32)) + ((l0 >>> ((6 : Int32) &&& 31)) &&& (3 : Int32))) (2 : Int32)) = (0 : Int32) then (if (2 : Int32) < (l1 % (6 : Int32)) then (if (own_un2 (l1 % (6 : Int32)) ((l0 >>> ((2 : Int32) &&& 31)) &&& (3 : Int32)) ((((l0 >>> ((2 : Int32) &&& 31)) &&& (3 : Int32)) + (1 : Int32)) + ((l0 >>> ((4 : Int32) &&& 31)) &&& (3 : Int32)))) = (2 : Int32) then (1 : Int32) else (0 : Int32)) else (if (own_un2 (l1 % (6 : Int32)) ((l0 >>> ((2 : Int32) &&& 31)) &&& (3 : Int32)) ((((l0 >>> ((2 : Int32) &&& 31)) &&& (3 : Int32)) + (1 : Int32)) + ((l0 >>> ((4 : Int32) &&& 31)) &&& (3 : Int32)))) = (-1 : Int32) then (1 : Int32) else (0 : Int32))) else (if (3 : Int32) < (l1 % (6 : Int32)) then (if (own_un2 (l1 % (6 : Int32)) ((l0 >>> ((2 : Int32) &&& 31)) &&& (3 : Int32)) ((((l0 >>> ((2 : Int32) &&& 31)) &&& (3 : Int32)) + (1 : Int32)) + ((l0 >>> ((4 : Int32) &&& 31)) &&& (3 : Int32)))) = (3 : Int32) then (1 : Int32) else (0 : Int32)) else (if (own_un2 (l1 % (6 : Int32)) ((l0 >>> ((2 : Int32) &&& 31)) &&& (3 : Int32)) ((((l0 >>> ((2 : Int32) &&& 31)) &&& (3 : Int32)) + (1 : Int32)) + ((l0 >>> ((4 : Int32) &&& 31)) &&& (3 : Int32)))) = (-1 : Int32) then (1 : Int32) else (0 : Int32)))))) else (if (own_in (2 : Int32) ((l0 >>> ((2 : Int32) &&& 31)) &&& (3 : Int32)) ((((l0 >>> ((2 : Int32) &&& 31)) &&& (3 : Int32)) + (1 : Int32)) + ((l0 >>> ((4 : Int32) &&& 31)) &&& (3 : Int32))) ((((((l0 >>> ((2 : Int32) &&& 31)) &&& (3 : Int32)) + (1 : Int32)) + ((l0 >>> ((4 : Int32) &&& 31)) &&& (3 : Int32))) + (1 : Int32)) + ((l0 >>> ((6 : Int32) &&& 31)) &&& (3 : Int32))) (0 : Int32)) = (0 : Int32) then (if (0 : Int32) < l1 then (if (own_un2 l1 ((l0 >>> ((2 : Int32) &&& 31)) &&& (3 : Int32)) ((((l0 >>> ((2 : Int32) &&& 31)) &&& (3 : Int32)) + (1 : Int32)) + ((l0 >>> ((4 : Int32) &&& 31)) &&& (3 : Int32)))) = (0 : Int32) then (1 : Int32) else (0 : Int32)) else (if (own_un2 l1 ((l0 >>> ((2 : Int32) &&& 31)) &&& (3 : Int32)) ((((l0 >>> ((2 : Int32) &&& 31)) &&& (3 : Int32)) + (1 : Int32)) + ((l0 >>> ((4 : Int32) &&& 31)) &&& (3 : Int32)))) = (-1 : Int32) then (1 : Int32) else (0 : Int32))) else (if (own_in (2 : Int32) ((l0 >>> ((2 : Int32) &&& 31)) &&& (3 : Int32)) ((((l0 >>> ((2 : Int32) &&& 31)) &&& (3 : Int32)) + (1 : Int32)) + ((l0 >>> ((4 : Int32) &&& 31)) &&& (3 : Int32))) ((((((l0 >>> ((2 : Int32) &&& 31)) &&& (3 : Int32)) + (1 : Int32)) + ((l0 >>> ((4 : Int32) &&& 31)) &&& (3 : Int32))) + (1 : Int32)) + ((l0 >>> ((6 : Int32) &&& 31)) &&& (3 : Int32))) (1 : Int32)) = (0 : Int32) then (if (1 : Int32) < l1 then (if (own_un2 l1 ((l0 >>> ((2 : Int32) &&& 31)) &&& (3 : Int32)) ((((l0 >>> ((2 : Int32) &&& 31)) &&& (3 : Int32)) + (1 : Int32)) + ((l0 >>> ((4 : Int32) &&& 31)) &&& (3 : Int32)))) = (1 : Int32) then (1 : Int32) else (0 : Int32)) else (if (own_un2 l1 ((l0 >>> ((2 : Int32) &&& 31)) &&& (3 : Int32)) ((((l0 >>> ((2 : Int32) &&& 31)) &&& (3 : Int32)) + (1 : Int32)) + ((l0 >>> ((4 : Int32) &&& 31)) &&& (3 : Int32)))) = (-1 : Int32) then (1 : Int32) else (0 : Int32))) else (if (own_in (2 : Int32) ((l0 >>> ((2 : Int32) &&& 31)) &&& (3 : Int32)) ((((l0 >>> ((2 : Int32) &&& 31)) &&& (3 : Int32)) + (1 : Int32)) + ((l0 >>> ((4 : Int32) &&& 31)) &&& (3 : Int32))) ((((((l0 >>> ((2 : Int32) &&& 31)) &&& (3 : Int32)) + (1 : Int32)) + ((l0 >>> ((4 : Int32) &&& 31)) &&& (3 : Int32))) + (1 : Int32)) + ((l0 >>> ((6 : Int32) &&& 31)) &&& (3 : Int32))) (2 : Int32)) = (0 : Int32) then (if (2 : Int32) < l1 then (if (own_un2 l1 ((l0 >>> ((2 : Int32) &&& 31)) &&& (3 : Int32)) ((((l0 >>> ((2 : Int32) &&& 31)) &&& (3 : Int32)) + (1 : Int32)) + ((l0 >>> ((4 : Int32) &&& 31)) &&& (3 : Int32)))) = (2 : Int32) then (1 : Int32) else (0 : Int32)) else (if (own_un2 l1 ((l0 >>> ((2 : Int32) &&& 31)) &&& (3 : Int32)) ((((l0 >>> ((2 : Int32) &&& 31)) &&& (3 : Int32)) + (1 : Int32)) + ((l0 >>> ((4 : Int32) &&& 31)) &&& (3 : Int32)))) = (-1 : Int32) then (1 : Int32) else (0 : Int32))) else (if (3 : Int32) < l1 then (if (own_un2 l1 ((l0 >>> ((2 : Int32) &&& 31)) &&& (3 : Int32)) ((((l0 >>> ((2 : Int32) &&& 31)) &&& (3 : Int32)) + (1 : Int32)) + ((l0 >>> ((4 : Int32) &&& 31)) &&& (3 : Int32)))) = (3 : Int32) then (1 : Int32) else (0 : Int32)) else (if (own_un2 l1 ((l0 >>> ((2 : Int32) &&& 31)) &&& (3 : Int32)) ((((l0 >>> ((2 : Int32) &&& 31)) &&& (3 : Int32)) + (1 : Int32)) + ((l0 >>> ((4 : Int32) &&& 31)) &&& (3 : Int32)))) = (-1 : Int32) then (1 : Int32) else (0 : Int32))))))) else (if (l0 &&& (256 : Int32)) = (0 : Int32) then (if (l2 &&& (1 : Int32)) = (0 : Int32) then (if (own_in (3 : Int32) ((l0 >>> ((2 : Int32) &&& 31)) &&& (3 : Int32)) ((((l0 >>> ((2 : Int32) &&& 31)) &&& (3 : Int32)) + (1 : Int32)) + ((l0 >>> ((4 : Int32) &&& 31)) &&& (3 : Int32))) ((((((l0 >>> ((2 : Int32) &&& 31)) &&& (3 : Int32)) + (1 : Int32)) + ((l0 >>> ((4 : Int32) &&& 31)) &&& (3 : Int32))) + (1 : Int32)) + ((l0 >>> ((6 : Int32) &&& 31)) &&& (3 : Int32))) (0 : Int32)) = (0 : Int32) then (if (0 : Int32) < (l1 % (6 : Int32)) then (if (own_un3 (l1 % (6 : Int32)) ((l0 >>> ((2 : Int32) &&& 31)) &&& (3 : Int32)) ((((l0 >>> ((2 : Int32) &&& 31)) &&& (3 : Int32)) + (1 : Int32)) + ((l0 >>> ((4 : Int32) &&& 31)) &&& (3 : Int32))) ((((((l0 >>> ((2 : Int32) &&& 31)) &&& (3 : Int32)) + (1 : Int32)) + ((l0 >>> ((4 : Int32) &&& 31)) &&& (3 : Int32))) + (1 : Int32)) + ((l0 >>> ((6 : Int32) &&& 31)) &&& (3 : Int32)))) = (0 : Int32) then (1 : Int32) else (0 : Int32)) else (if (own_un3 (l1 % (6 : Int32)) ((l0 >>> ((2 : Int32) &&& 31)) &&& (3 : Int32)) ((((l0 >>> ((2 : Int32) &&& 31)) &&& (3 : Int32)) + (1 : Int32)) + ((l0 >>> ((4 : Int32) &&& 31)) &&& (3 : Int32))) ((((((l0 >>> ((2 : Int32) &&& 31)) &&& (3 : Int32)) + (1 : Int32)) + ((l0 >>> ((4 : Int32) &&& 31)) &&& (3 : Int32))) + (1 : Int32)) + ((l0 >>> ((6 : Int32) &&& 31)) &&& (3 : Int32)))) = (-1 : Int32) then (1 : Int32) else (0 : Int32))) else (if (own_in (3 : Int32) ((l0 >>> ((2 : Int32) &&& 31)) &&& (3 : Int32)) ((((l0 >>> ((2 : Int32) &&& 31)) &&& (3 : Int32)) + (1 : Int32)) + ((l0 >>> ((4 : Int32) &&& 31)) &&& (3 : Int32))) ((((((l0 >>> ((2 : Int32) &&& 31)) &&& (3 : Int32)) + (1 : Int32)) + ((l0 >>> ((4 : Int32) &&& 31)) &&& (3 : Int32))) + (1 : Int32)) + ((l0 >>> ((6 : Int32) &&& 31)) &&& (3 : Int32))) (1 : Int32)) = (0 : Int32) then (if (1 : Int32) < (l1 % (6 : Int32)) then (if (own_un3 (l1 % (6 : Int32)) ((l0 >>> ((2 : Int32) &&& 31)) &&& (3 : Int32)) ((((l0 >>> ((2 : Int32) &&& 31)) &&& (3 : Int32)) + (1 : Int32)) + ((l0 >>> ((4 : Int32) &&& 31)) &&& (3 : Int32))) ((((((l0 >>> ((2 : Int32) &&& 31)) &&& (3 : Int32)) + (1 : Int32)) + ((l0 >>> ((4 : Int32) &&& 31)) &&& (3 : Int32))) + (1 : Int32)) + ((l0 >>> ((6 : Int32) &&& 31)) &&& (3 : Int32)))) = (1 : Int32) then (1 : Int32) else (0 : Int32)) else (if (own_un3 (l1 % (6 : Int32)) ((l0 >>> ((2 : Int32) &&& 31)) &&& (3 : Int32)) ((((l0 >>> ((2 : Int32) &&& 31)) &&& (3 : Int32)) + (1 : Int32)) + ((l0 >>> ((4 : Int32) &&& 31)) &&& (3 : Int32))) ((((((l0 >>> ((2 : Int32) &&& 31)) &&& (3 : Int32)) + (1 : Int32)) + ((l0 >>> ((4 : Int32) &&& 31)) &&& (3 : Int32))) + (1 : Int32)) + ((l0 >>> ((6 : Int32) &&& 31)) &&& (3 : Int32)))) = (-1 : Int32) then (1 : Int32) else (0 : Int32))) else (if (own_in (3 : Int32) ((l0 >>> ((2 : Int32) &&& 31)) &&& (3 : Int32)) ((((l0 >>> ((2 : Int32) &&& 31)) &&& (3 : Int32)) + (1 : Int32)) + ((l0 >>> ((4 : Int32) &&& 31)) &&& (3 : Int32))) ((((((l0 >>> ((2 : Int32) &&& 31)) &&& (3 : Int32)) + (1 : Int32)) + ((l0 >>> ((4 : Int32) &&& 31)) &&& (3 : Int32))) + (1 : Int32)) + ((l0 >>> ((6 : Int32) &&& 31)) &&& (3 : Int32))) (2 : Int32)) = (0 : Int32) then (if (2 : Int32) < (l1 % (6 : Int32)) then (if (own_un3 (l1 % (6 : Int32)) ((l0 >>> ((2 : Int32) &&& 31)) &&& (3 : Int32)) ((((l0 >>> ((2 : Int32) &&& 31)) &&& (3 : Int32)) + (1 : Int32)) + ((l0 >>> ((4 : Int32) &&& 31)) &&& (3 : Int32))) ((((((l0 >>> ((2 : Int32) &&& 31)) &&& (3 : Int32)) + (1 : Int32)) + ((l0 >>> ((4 : Int32) &&& 31)) &&& (3 : Int32))) + (1 : Int32)) + ((l0 >>> ((6 : Int32) &&& 31)) &&& (3 : Int32)))) = (2 : Int32) then (1 : Int32) else (0 : Int32)) else (if (own_un3 (l1 % (6 : Int32)) ((l0 >>> ((2 : Int32) &&& 31)) &&& (3 : Int32)) ((((l0 >>> ((2 : Int32) &&& 31)) &&& (3 : Int32)) + (1 : Int32)) + ((l0 >>> ((4 : Int32) &&& 31)) &&& (3 : Int32))) ((((((l0 >>> ((2 : Int32) &&& 31)) &&& (3 : Int32)) + (1 : Int32)) + ((l0 >>> ((4 : Int32) &&& 31)) &&& (3 : Int32))) + (1 : Int32)) + ((l0 >>> ((6 : Int32) &&& 31)) &&& (3 : Int32)))) = (-1 : Int32) then (1 : Int32) else (0 : Int32))) else (if (3 : Int32) < (l1 % (6 : Int32)) then (if (own_un3 (l1 % (6 : Int32)) ((l0 >>> ((2 : Int32) &&& 31)) &&& (3 : Int32)) ((((l0 >>> ((2 : Int32) &&& 31)) &&& (3 : Int32)) + (1 : Int32)) + ((l0 >>> ((4 : Int32) &&& 31)) &&& (3 : Int32))) ((((((l0 >>> ((2 : Int32) &&& 31)) &&& (3 : Int32)) + (1 : Int32)) + ((l0 >>> ((4 : Int32) &&& 31)) &&& (3 : Int32))) + (1 : Int32)) + ((l0 >>> ((6 : Int32) &&& 31)) &&& (3 : Int32)))) = (3 : Int32) then (1 : Int32) else (0 : Int32)) else (if (own_un3 (l1 % (6 : Int32)) ((l0 >>> ((2 : Int32) &&& 31)) &&& (3 : Int32)) ((((l0 >>> ((2 : Int32) &&& 31)) &&& (3 : Int32)) + (1 : Int32)) + ((l0 >>> ((4 : Int32) &&& 31)) &&& (3 : Int32))) ((((((l0 >>> ((2 : Int32) &&& 31)) &&& (3 : Int32)) + (1 : Int32)) + ((l0 >>> ((4 : Int32) &&& 31)) &&& (3 : Int32))) + (1 : Int32)) + ((l0 >>> ((6 : Int32) &&& 31)) &&& (3 : Int32)))) = (-1 : Int32) then (1 : Int32) else (0 : Int32)))))) else (if (own_in (3 : Int32) ((l0 >>> ((2 : Int32) &&& 31)) &&& (3 : Int32)) ((((l0 >>> ((2 : Int32) &&& 31)) &&& (3 : Int32)) + (1 : Int32)) + ((l0 >>> ((4 : Int32) &&& 31)) &&& (3 : Int32))) ((((((l0 >>> ((2 : Int32) &&& 31)) &&& (3 : Int32)) + (1 : Int32)) + ((l0 >>> ((4 : Int32) &&& 31)) &&& (3 : Int32))) + (1 : Int32)) + ((l0 >>> ((6 : Int32) &&& 31)) &&& (3 : Int32))) (0 : Int32)) = (0 : Int32) then (if (0 : Int32) < l1 then (if (own_un3 l1 ((l0 >>> ((2 : Int32) &&& 31)) &&& (3 : Int32)) ((((l0 >>> ((2 : Int32) &&& 31)) &&& (3 : Int32)) + (1 : Int32)) + ((l0 >>> ((4 : Int32) &&& 31)) &&& (3 : Int32))) ((((((l0 >>> ((2 : Int32) &&& 31)) &&& (3 : Int32)) + (1 : Int32)) + ((l0 >>> ((4 : Int32) &&& 31)) &&& (3 : Int32))) + (1 : Int32)) + ((l0 >>> ((6 : Int32) &&& 31)) &&& (3 : Int32)))) = (0 : Int32) then (1 : Int32) else (0 : Int32)) else (if (own_un3 l1 ((l0 >>> ((2 : Int32) &&& 31)) &&& (3 : Int32)) ((((l0 >>> ((2 : Int32) &&& 31)) &&& (3 : Int32)) + (1 : Int32)) + ((l0 >>> ((4 : Int32) &&& 31)) &&& (3 : Int32))) ((((((l0 >>> ((2 : Int32) &&& 31)) &&& (3 : Int32)) + (1 : Int32)) + ((l0 >>> ((4 : Int32) &&& 31)) &&& (3 : Int32))) + (1 : Int32)) + ((l0 >>> ((6 : Int32) &&& 31)) &&& (3 : Int32)))) = (-1 : Int32) then (1 : Int32) else (0 : Int32))) else (if (own_in (3 : Int32) ((l0 >>> ((2 : Int32) &&& 31)) &&& (3 : Int32)) ((((l0 >>> ((2 : Int32) &&& 31)) &&& (3 : Int32)) + (1 : Int32)) + ((l0 >>> ((4 : Int32) &&& 31)) &&& (3 : Int32))) ((((((l0 >>> ((2 : Int32) &&& 31)) &&& (3 : Int32)) + (1 : Int32)) + ((l0 >>> ((4 : Int32) &&& 31)) &&& (3 : Int32))) + (1 : Int32)) + ((l0 >>> ((6 : Int32) &&& 31)) &&& (3 : Int32))) (1 : Int32)) = (0 : Int32) then (if (1 : Int32) < l1 then (if (own_un3 l1 ((l0 >>> ((2 : Int32) &&& 31)) &&& (3 : Int32)) ((((l0 >>> ((2 : Int32) &&& 31)) &&& (3 : Int32)) + (1 : Int32)) + ((l0 >>> ((4 : Int32) &&& 31)) &&& (3 : Int32))) ((((((l0 >>> ((2 : Int32) &&& 31)) &&& (3 : Int32)) + (1 : Int32)) + ((l0 >>> ((4 : Int32) &&& 31)) &&& (3 : Int32))) + (1 : Int32)) + ((l0 >>> ((6 : Int32) &&& 31)) &&& (3 : Int32)))) = (1 : Int32) then (1 : Int32) else (0 : Int32)) else (if (own_un3 l1 ((l0 >>> ((2 : Int32) &&& 31)) &&& (3 : Int32)) ((((l0 >>> ((2 : Int32) &&& 31)) &&& (3 : Int32)) + (1 : Int32)) + ((l0 >>> ((4 : Int32) &&& 31)) &&& (3 : Int32))) ((((((l0 >>> ((2 : Int32) &&& 31)) &&& (3 : Int32)) + (1 : Int32)) + ((l0 >>> ((4 : Int32) &&& 31)) &&& (3 : Int32))) + (1 : Int32)) + ((l0 >>> ((6 : Int32) &&& 31)) &&& (3 : Int32)))) = (-1 : Int32) then (1 : Int32) else (0 : Int32))) else (if (own_in (3 : Int32) ((l0 >>> ((2 : Int32) &&& 31)) &&& (3 : Int32)) ((((l0 >>> ((2 : Int32) &&& 31)) &&& (3 : Int32)) + (1 : Int32)) + ((l0 >>> ((4 : Int32) &&& 31)) &&& (3 : Int32))) ((((((l0 >>> ((2 : Int32) &&& 31)) &&& (3 : Int32)) + (1 : Int32)) + ((l0 >>> ((4 : Int32) &&& 31)) &&& (3 : Int32))) + (1 : Int32)) + ((l0 >>> ((6 : Int32) &&& 31)) &&& (3 : Int32))) (2 : Int32)) = (0 : Int32) then (if (2 : Int32) < l1 then (if (own_un3 l1 ((l0 >>> ((2 : Int32) &&& 31)) &&& (3 : Int32)) ((((l0 >>> ((2 : Int32) &&& 31)) &&& (3 : Int32)) + (1 : Int32)) + ((l0 >>> ((4 : Int32) &&& 31)) &&& (3 : Int32))) ((((((l0 >>> ((2 : Int32) &&& 31)) &&& (3 : Int32)) + (1 : Int32)) + ((l0 >>> ((4 : Int32) &&& 31)) &&& (3 : Int32))) + (1 : Int32)) + ((l0 >>> ((6 : Int32) &&& 31)) &&& (3 : Int32)))) = (2 : Int32) then (1 : Int32) else (0 : Int32)) else (if (own_un3 l1 ((l0 >>> ((2 : Int32) &&& 31)) &&& (3 : Int32)) ((((l0 >>> ((2 : Int32) &&& 31)) &&& (3 : Int32)) + (1 : Int32)) + ((l0 >>> ((4 : Int32) &&& 31)) &&& (3 : Int32))) ((((((l0 >>> ((2 : Int32) &&& 31)) &&& (3 : Int32)) + (1 : Int32)) + ((l0 >>> ((4 : Int32) &&& 31)) &&& (3 : Int32))) + (1 : Int32)) + ((l0 >>> ((6 : Int32) &&& 31)) &&& (3 : Int32)))) = (-1 : Int32) then (1 : Int32) else (0 : Int32))) else (if (3 : Int32) < l1 then (if (own_un3 l1 ((l0 >>> ((2 : Int32) &&& 31)) &&& (3 : Int32)) ((((l0 >>> ((2 : Int32) &&& 31)) &&& (3 : Int32)) + (1 : Int32)) + ((l0 >>> ((4 : Int32) &&& 31)) &&& (3 : Int32))) ((((((l0 >>> ((2 : Int32) &&& 31)) &&& (3 : Int32)) + (1 : Int32)) + ((l0 >>> ((4 : Int32) &&& 31)) &&& (3 : Int32))) + (1 : Int32)) + ((l0 >>> ((6 : Int32) &&& 31)) &&& (3 : Int32)))) = (3 : Int32) then (1 : Int32) else (0 : Int32)) else (if (own_un3 l1 ((l0 >>> ((2 : Int32) &&& 31)) &&& (3 : Int32)) ((((l0 >>> ((2 : Int32) &&& 31)) &&& (3 : Int32)) + (1 : Int32)) + ((l0 >>> ((4 : Int32) &&& 31)) &&& (3 : Int32))) ((((((l0 >>> ((2 : Int32) &&& 31)) &&& (3 : Int32)) + (1 : Int32)) + ((l0 >>> ((4 : Int32) &&& 31)) &&& (3 : Int32))) + (1 : Int32)) + ((l0 >>> ((6 : Int32) &&& 31)) &&& (3 : Int32)))) = (-1 : Int32) then (1 : Int32) else (0 : Int32))))))) else (if (l2 &&& (1 : Int32)) = (0 : Int32) then (if (own_in (3 : Int32) ((l0 >>> ((2 : Int32) &&& 31)) &&& (3 : Int32)) ((((l0 >>> ((2 : Int32) &&& 31)) &&& (3 : Int32)) + (1 : Int32)) + ((l0 >>> ((4 : Int32) &&& 31)) &&& (3 : Int32))) ((((((l0 >>> ((2 : Int32) &&& 31)) &&& (3 : Int32)) + (1 : Int32)) + ((l0 >>> ((4 : Int32) &&& 31)) &&& (3 : Int32))) + (1 : Int32)) + ((l0 >>> ((6 : Int32) &&& 31)) &&& (3 : Int32))) (0 : Int32)) = (0 : Int32) then (if (0 : Int32) < (l1 % (6 : Int32)) then (if (own_un3 (l1 % (6 : Int32)) ((l0 >>> ((2 : Int32) &&& 31)) &&& (3 : Int32)) ((((l0 >>> ((2 : Int32) &&& 31)) &&& (3 : Int32)) + (1 : Int32)) + ((l0 >>> ((4 : Int32) &&& 31)) &&& (3 : Int32))) ((((((l0 >>> ((2 : Int32) &&& 31)) &&& (3 : Int32)) + (1 : Int32)) + ((l0 >>> ((4 : Int32) &&& 31)) &&& (3 : Int32))) + (1 : Int32)) + ((l0 >>> ((6 : Int32) &&& 31)) &&& (3 : Int32)))) = (0 : Int32) then (1 : Int32) else (0 : Int32)) else (if (own_un3 (l1 % (6 : Int32)) ((l0 >>> ((2 : Int32) &&& 31)) &&& (3 : Int32)) ((((l0 >>> ((2 : Int32) &&& 31)) &&& (3 : Int32)) + (1 : Int32)) + ((l0 >>> ((4 : Int32) &&& 31)) &&& (3 : Int32))) ((((((l0 >>> ((2 : Int32) &&& 31)) &&& (3 : Int32)) + (1 : Int32)) + ((l0 >>> ((4 : Int32) &&& 31)) &&& (3 : Int32))) + (1 : Int32)) + ((l0 >>> ((6 : Int32) &&& 31)) &&& (3 : Int32)))) = (-1 : Int32) then (1 : Int32) else (0 : Int32))) else (if (own_in (3 : Int32) ((l0 >>> ((2 : Int32) &&& 31)) &&& (3 : Int32)) ((((l0 >>> ((2 : Int32) &&& 31)) &&& (3 : Int32)) + (1 : Int32)) + ((l0 >>> ((4 : Int32) &&& 31)) &&& (3 : Int32))) ((((((l0 >>> ((2 : Int32) &&& 31)) &&& (3 : Int32)) + (1 : Int32)) + ((l0 >>> ((4 : Int32) &&& 31)) &&& (3 : Int32))) + (1 : Int32)) + ((l0 >>> ((6 : Int32) &&& 31)) &&& (3 : Int32))) (1 : Int32)) = (0 : Int32) then (if (1 : Int32) < (l1 % (6 : Int32)) then (if (own_un3 (l1 % (6 : Int32)) ((l0 >>> ((2 : Int32) &&& 31)) &&& (3 : Int32)) ((((l0 >>> ((2 : Int32) &&& 31)) &&& (3 : Int32)) + (1 : Int32)) + ((l0 >>> ((4 : Int32) &&& 31)) &&& (3 : Int32))) ((((((l0 >>> ((2 : Int32) &&& 31)) &&& (3 : Int32)) + (1 : Int32)) + ((l0 >>> ((4 : Int32) &&& 31)) &&& (3 : Int32))) + (1 : Int32)) + ((l0 >>> ((6 : Int32) &&& 31)) &&& (3 : Int32)))) = (1 : Int32) then (1 : Int32) else (0 : Int32)) else (if (own_un3 (l1 % (6 : Int32)) ((l0 >>> ((2 : Int32) &&& 31)) &&& (3 : Int32)) ((((l0 >>> ((2 : Int32) &&& 31)) &&& (3 : Int32)) + (1 : Int32)) + ((l0 >>> ((4 : Int32) &&& 31)) &&& (3 : Int32))) ((((((l0 >>> ((2 : Int32) &&& 31)) &&& (3 : Int32)) + (1 : Int32)) + ((l0 >>> ((4 : Int32) &&& 31)) &&& (3 : Int32))) + (1 : Int32)) + ((l0 >>> ((6 : Int32) &&& 31)) &&& (3 : Int32)))) = (-1 : Int32) then (1 : Int32) else (0 : Int32))) else (if (own_in (3 : Int32) ((l0 >>> ((2 : Int32) &&& 31)) &&& (3 : Int32)) ((((l0 >>> ((2 : Int32) &&& 31)) &&& (3 : Int32)) + (1 : Int32)) + ((l0 >>> ((4 : Int32) &&& 31)) &&& (3 : Int32))) ((((((l0 >>> ((2 : Int32) &&& 31)) &&& (3 : Int32)) + (1 : Int32)) + ((l0 >>> ((4 : Int32) &&& 31)) &&& (3 : Int32))) + (1 : Int32)) + ((l0 >>> ((6 : Int32) &&& 31)) &&& (3 : Int32))) (2 : Int32)) = (0 : Int32) then (if (2 : Int32) < (l1 % (6 : Int32)) then (if (own_un3 (l1 % (6 : Int32)) ((l0 >>> ((2 : Int32) &&& 31)) &&& (3 : Int32)) ((((l0 >>> ((2 : Int32) &&& 31)) &&& (3 : Int32)) + (1 : Int32)) + ((l0 >>> ((4 : Int32) &&& 31)) &&& (3 : Int32))) ((((((l0 >>> ((2 : Int32) &&& 31)) &&& (3 : Int32)) + (1 : Int32)) + ((l0 >>> ((4 : Int32) &&& 31)) &&& (3 : Int32))) + (1 : Int32)) + ((l0 >>> ((6 : Int32) &&& 31)) &&& (3 : Int32)))) = (2 : Int32) then (1 : Int32) else (0 : Int32)) else (if (own_un3 (l1 % (6 : Int32)) ((l0 >>> ((2 : Int32) &&& 31)) &&& (3 : Int32)) ((((l0 >>> ((2 : Int32) &&& 31)) &&& (3 : Int32)) + (1 : Int32)) + ((l0 >>> ((4 : Int32) &&& 31)) &&& (3 : Int32))) ((((((l0 >>> ((2 : Int32) &&& 31)) &&& (3 : Int32)) + (1 : Int32)) + ((l0 >>> ((4 : Int32) &&& 31)) &&& (3 : Int32))) + (1 : Int32)) + ((l0 >>> ((6 : Int32) &&& 31)) &&& (3 : Int32)))) = (-1 : Int32) then (1 : Int32) else (0 : Int32))) else (if (3 : Int32) < (l1 % (6 : Int32)) then (if (own_un3 (l1 % (6 : Int32)) ((l0 >>> ((2 : Int32) &&& 31)) &&& (3 : Int32)) ((((l0 >>> ((2 : Int32) &&& 31)) &&& (3 : Int32)) + (1 : Int32)) + ((l0 >>> ((4 : Int32) &&& 31)) &&& (3 : Int32))) ((((((l0 >>> ((2 : Int32) &&& 31)) &&& (3 : Int32)) + (1 : Int32)) + ((l0 >>> ((4 : Int32) &&& 31)) &&& (3 : Int32))) + (1 : Int32)) + ((l0 >>> ((6 : Int32) &&& 31)) &&& (3 : Int32)))) = (3 : Int32) then (1 : Int32) else (0 : Int32)) else (if (own_un3 (l1 % (6 : Int32)) ((l0 >>> ((2 : Int32) &&& 31)) &&& (3 : Int32)) ((((l0 >>> ((2 : Int32) &&& 31)) &&& (3 : Int32)) + (1 : Int32)) + ((l0 >>> ((4 : Int32) &&& 31)) &&& (3 : Int32))) ((((((l0 >>> ((2 : Int32) &&& 31)) &&& (3 : Int32)) + (1 : Int32)) + ((l0 >>> ((4 : Int32) &&& 31)) &&& (3 : Int32))) + (1 : Int32)) + ((l0 >>> ((6 : Int32) &&& 31)) &&& (3 : Int32)))) = (-1 : Int32) then (1 : Int32) else (0 : Int32)))))) else (if (own_in (3 : Int32) ((l0 >>> ((2 : Int32) &&& 31)) &&& (3 : Int32)) ((((l0 >>> ((2 : Int32) &&& 31)) &&& (3 : Int32)) + (1 : Int32)) + ((l0 >>> ((4 : Int32) &&& 31)) &&& (3 : Int32))) ((((((l0 >>> ((2 : Int32) &&& 31)) &&& (3 : Int32)) + (1 : Int32)) + ((l0 >>> ((4 : Int32) &&& 31)) &&& (3 : Int32))) + (1 : Int32)) + ((l0 >>> ((6 : Int32) &&& 31)) &&& (3 : Int32))) (0 : Int32)) = (0 : Int32) then (if (0 : Int32) < l1 then (if (own_un3 l1 ((l0 >>> ((2 : Int32) &&& 31)) &&& (3 : Int32)) ((((l0 >>> ((2 : Int32) &&& 31)) &&& (3 : Int32)) + (1 : Int32)) + ((l0 >>> ((4 : Int32) &&& 31)) &&& (3 : Int32))) ((((((l0 >>> ((2 : Int32) &&& 31)) &&& (3 : Int32)) + (1 : Int32)) + ((l0 >>> ((4 : Int32) &&& 31)) &&& (3 : Int32))) + (1 : Int32)) + ((l0 >>> ((6 : Int32) &&& 31)) &&& (3 : Int32)))) = (0 : Int32) then (1 : Int32) else (0 : Int32)) else (if (own_un3 l1 ((l0 >>> ((2 : Int32) &&& 31)) &&& (3 : Int32)) ((((l0 >>> ((2 : Int32) &&& 31)) &&& (3 : Int32)) + (1 : Int32)) + ((l0 >>> ((4 : Int32) &&& 31)) &&& (3 : Int32))) ((((((l0 >>> ((2 : Int32) &&& 31)) &&& (3 : Int32)) + (1 : Int32)) + ((l0 >>> ((4 : Int32) &&& 31)) &&& (3 : Int32))) + (1 : Int32)) + ((l0 >>> ((6 : Int32) &&& 31)) &&& (3 : Int32)))) = (-1 : Int32) then (1 : Int32) else (0 : Int32))) else (if (own_in (3 : Int32) ((l0 >>> ((2 : Int32) &&& 31)) &&& (3 : Int32)) ((((l0 >>> ((2 : Int32) &&& 31)) &&& (3 : Int32)) + (1 : Int32)) + ((l0 >>> ((4 : Int32) &&& 31)) &&& (3 : Int32))) ((((((l0 >>> ((2 : Int32) &&& 31)) &&& (3 : Int32)) + (1 : Int32)) + ((l0 >>> ((4 : Int32) &&& 31)) &&& (3 : Int32))) + (1 : Int32)) + ((l0 >>> ((6 : Int32) &&& 31)) &&& (3 : Int32))) (1 : Int32)) = (0 : Int32) then (if (1 : Int32) < l1 then (if (own_un3 l1 ((l0 >>> ((2 : Int32) &&& 31)) &&& (3 : Int32)) ((((l0 >>> ((2 : Int32) &&& 31)) &&& (3 : Int32)) + (1 : Int32)) + ((l0 >>> ((4 : Int32) &&& 31)) &&& (3 : Int32))) ((((((l0 >>> ((2 : Int32) &&& 31)) &&& (3 : Int32)) + (1 : Int32)) + ((l0 >>> ((4 : Int32) &&& 31)) &&& (3 : Int32))) + (1 : Int32)) + ((l0 >>> ((6 : Int32) &&& 31)) &&& (3 : Int32)))) = (1 : Int32) then (1 : Int32) else (0 : Int32)) else (if (own_un3 l1 ((l0 >>> ((2 : Int32) &&& 31)) &&& (3 : Int32)) ((((l0 >>> ((2 : Int32) &&& 31)) &&& (3 : Int32)) + (1 : Int32)) + ((l0 >>> ((4 : Int32) &&& 31)) &&& (3 : Int32))) ((((((l0 >>> ((2 : Int32) &&& 31)) &&& (3 : Int32)) + (1 : Int32)) + ((l0 >>> ((4 : Int32) &&& 31)) &&& (3 : Int32))) + (1 : Int32)) + ((l0 >>> ((6 : Int32) &&& 31)) &&& (3 : Int32)))) = (-1 : Int32) then (1 : Int32) else (0 : Int32))) else (if (own_in (3 : Int32) ((l0 >>> ((2 : Int32) &&& 31)) &&& (3 : Int32)) ((((l0 >>> ((2 : Int32) &&& 31)) &&& (3 : Int32)) + (1 : Int32)) + ((l0 >>> ((4 : Int32) &&& 31)) &&& (3 : Int32))) ((((((l0 >>> ((2 : Int32) &&& 31)) &&& (3 : Int32)) + (1 : Int32)) + ((l0 >>> ((4 : Int32) &&& 31)) &&& (3 : Int32))) + (1 : Int32)) + ((l0 >>> ((6 : Int32) &&& 31)) &&& (3 : Int32))) (2 : Int32)) = (0 : Int32) then (if (2 : Int32) < l1 then (if (own_un3 l1 ((l0 >>> ((2 : Int32) &&& 31)) &&& (3 : Int32)) ((((l0 >>> ((2 : Int32) &&& 31)) &&& (3 : Int32)) + (1 : Int32)) + ((l0 >>> ((4 : Int32) &&& 31)) &&& (3 : Int32))) ((((((l0 >>> ((2 : Int32) &&& 31)) &&& (3 : Int32)) + (1 : Int32)) + ((l0 >>> ((4 : Int32) &&& 31)) &&& (3 : Int32))) + (1 : Int32)) + ((l0 >>> ((6 : Int32) &&& 31)) &&& (3 : Int32)))) = (2 : Int32) then (1 : Int32) else (0 : Int32)) else (if (own_un3 l1 ((l0 >>> ((2 : Int32) &&& 31)) &&& (3 : Int32)) ((((l0 >>> ((2 : Int32) &&& 31)) &&& (3 : Int32)) + (1 : Int32)) + ((l0 >>> ((4 : Int32) &&& 31)) &&& (3 : Int32))) ((((((l0 >>> ((2 : Int32) &&& 31)) &&& (3 : Int32)) + (1 : Int32)) + ((l0 >>> ((4 : Int32) &&& 31)) &&& (3 : Int32))) + (1 : Int32)) + ((l0 >>> ((6 : Int32) &&& 31)) &&& (3 : Int32)))) = (-1 : Int32) then (1 : Int32) else (0 : Int32))) else (if (3 : Int32) < l1 then (if (own_un3 l1 ((l0 >>> ((2 : Int32) &&& 31)) &&& (3 : Int32)) ((((l0 >>> ((2 : Int32) &&& 31)) &&& (3 : Int32)) + (1 : Int32)) + ((l0 >>> ((4 : Int32) &&& 31)) &&& (3 : Int32))) ((((((l0 >>> ((2 : Int32) &&& 31)) &&& (3 : Int32)) + (1 : Int32)) + ((l0 >>> ((4 : Int32) &&& 31)) &&& (3 : Int32))) + (1 : Int32)) + ((l0 >>> ((6 : Int32) &&& 31)) &&& (3 : Int32)))) = (3 : Int32) then (1 : Int32) else (0 : Int32)) else (if (own_un3 l1 ((l0 >>> ((2 : Int32) &&& 31)) &&& (3 : Int32)) ((((l0 >>> ((2 : Int32) &&& 31)) &&& (3 : Int32)) + (1 : Int32)) + ((l0 >>> ((4 : Int32) &&& 31)) &&& (3 : Int32))) ((((((l0 >>> ((2 : Int32) &&& 31)) &&& (3 : Int32)) + (1 : Int32)) + ((l0 >>> ((4 : Int32) &&& 31)) &&& (3 : Int32))) + (1 : Int32)) + ((l0 >>> ((6 : Int32) &&& 31)) &&& (3 : Int32)))) = (-1 : Int32) then (1 : Int32) else (0 : Int32)))))))))))
def own_law (x0 : Int32) (x1 : Int32) (x2 : Int32) : Int32 := own_law_4 x0 x1 x2 (x0 &&& (3 : Int32))
set_option maxRecDepth 65536 in
set_option maxHeartbeats 40000000 in
theorem m_0 (l : Launch) (Z : State) (a0 : Array Value) (hw : ∀ d ∈ tables_1, d.before a0 Z = true) (n0 : Nat) (ws : List Jvm.Cond) (x0 : Int32) (x1 : Int32) (x2 : Int32)  :
    Meth l Z a0 ws x code maxLocals ret room_1 24 128 n0 #[.int x0, .int x1, .int x2] ([] : AHeap) (fun r A' => r = some (.int (own_law x0 x1 x2)) ∧ True) := by
  refine Meth.of (plainFor_of_name own_pn5) (Ls := [.val (.int x0), .val (.int x1), .val (.int x2), .unset, .unset, .unset, .unset, .unset, .unset, .unset, .unset, .unset, .unset, .unset]) (fun m => by first | (simp [entryFrame, mkF, argsToLocals, Value.category, maxLocals]; done) | rfl) ?_
  intro K G
  have J4 : ∀ (l0 : Int32) (l1 : Int32) (l2 : Int32) (l3 : Int32), (l3 = 0 ∨ l3 = 1 ∨ l3 = 2 ∨ l3 = 3) → own_law x0 x1 x2 = own_law_4 l0 l1 l2 l3 → K 4 [.val (.int l0), .val (.int l1), .val (.int l2), .val (.int l3), .unset, .unset, .unset, .unset, .unset, .unset, .unset, .unset, .unset, .unset] [] ([] : AHeap) 0 0 := by
    intro l0 l1 l2 l3 hv he
    have hs3 := hv
    rcases hs3 with rfl | rfl | rfl | rfl
    · replace he := he.trans (if_pos rfl)
      refine G.iloadN at_4 rfl ?_
      refine G.iconst (3) at_5 rfl ?_
      refine G.icmp_ne 19 at_6 (by decide) rfl (fun _ => ?_) (fun h6 => absurd h6 (by decide))
      refine G.iloadN at_19 rfl ?_
      refine G.iconst (3) at_20 rfl ?_
      refine G.icmp_le 26 at_21 (by decide) rfl (fun _ => ?_) (fun h21 => absurd h21 (by decide))
      refine G.iloadN at_26 rfl ?_
      refine G.iconst (2) at_27 rfl ?_
      refine G.ishr at_28 ?_
      refine G.iconst (3) at_29 rfl ?_
      refine G.iand at_30 ?_
      refine G.istore4 at_31 rfl ?_
      refine G.iload at_33 rfl ?_
      refine G.iconst (1) at_35 rfl ?_
      refine G.iadd at_36 ?_
      refine G.iloadN at_37 rfl ?_
      refine G.iconst (4) at_38 rfl ?_
      refine G.ishr at_39 ?_
      refine G.iconst (3) at_40 rfl ?_
      refine G.iand at_41 ?_
      refine G.iadd at_42 ?_
      refine G.istore5 at_43 rfl ?_
      refine G.iload at_45 rfl ?_
      refine G.iconst (1) at_47 rfl ?_
      refine G.iadd at_48 ?_
      refine G.iloadN at_49 rfl ?_
      refine G.bipush (6) at_50 rfl ?_
      refine G.ishr at_52 ?_
      refine G.iconst (3) at_53 rfl ?_
      refine G.iand at_54 ?_
      refine G.iadd at_55 ?_
      refine G.istore6 at_56 rfl ?_
      refine G.iloadN at_58 rfl ?_
      refine G.if_ne 80 at_59 (by decide) rfl (fun h59 => absurd h59 (by decide)) (fun _ => ?_)
      refine G.iconst (0) at_62 rfl ?_
      refine G.newarr 0 0 at_63 (hw _ (List.mem_of_getElem? (i := 0) rfl)) (by decide) (Nat.le_of_ble_eq_true rfl) (by decide) (Nat.le_of_ble_eq_true rfl) (Nat.le_of_ble_eq_true rfl) rfl ?_
      try simp only [List.set_cons_zero, List.set_cons_succ, List.length_cons, List.length_nil, List.nil_append, List.cons_append, Nat.zero_add, Nat.reduceAdd]
      refine G.astore7 at_65 rfl rfl ?_
      refine G.iconst (0) at_67 rfl ?_
      refine G.newarr 0 0 at_68 (hw _ (List.mem_of_getElem? (i := 1) rfl)) (by decide) (Nat.le_of_ble_eq_true rfl) (by decide) (Nat.le_of_ble_eq_true rfl) (Nat.le_of_ble_eq_true rfl) rfl ?_
      try simp only [List.set_cons_zero, List.set_cons_succ, List.length_cons, List.length_nil, List.nil_append, List.cons_append, Nat.zero_add, Nat.reduceAdd]
      refine G.astore8 at_70 rfl rfl ?_
      refine G.iconst (0) at_72 rfl ?_
      refine G.newarr 0 0 at_73 (hw _ (List.mem_of_getElem? (i := 1) rfl)) (by decide) (Nat.le_of_ble_eq_true rfl) (by decide) (Nat.le_of_ble_eq_true rfl) (Nat.le_of_ble_eq_true rfl) rfl ?_
      try simp only [List.set_cons_zero, List.set_cons_succ, List.length_cons, List.length_nil, List.nil_append, List.cons_append, Nat.zero_add, Nat.reduceAdd]
      refine G.astore9 at_75 rfl rfl ?_
      refine G.goto 219 at_77 (by decide) rfl ?_
      refine G.newo at_219 (hw _ (List.mem_of_getElem? (i := 2) rfl)) (hw _ (List.mem_of_getElem? (i := 3) rfl)) (hw _ (List.mem_of_getElem? (i := 4) rfl)) (own_fo Z a0 hw) (Nat.le_of_ble_eq_true rfl) (Nat.le_of_ble_eq_true rfl) ?_
      try simp only [List.set_cons_zero, List.set_cons_succ, List.length_cons, List.length_nil, List.nil_append, List.cons_append, Nat.zero_add, Nat.reduceAdd]
      refine G.dup at_222 rfl ?_
      refine G.aload at_223 rfl rfl ?_
      refine G.aload at_225 rfl rfl ?_
      refine G.aload at_227 rfl rfl ?_
      refine G.lconst (0) at_229 rfl ?_
      refine G.ncall [_, _, _, _] rfl at_230 rfl (hw _ (List.mem_of_getElem? (i := 5) rfl)) (hw _ (List.mem_of_getElem? (i := 6) rfl)) (hw _ (List.mem_of_getElem? (i := 4) rfl)) (hw _ (List.mem_of_getElem? (i := 7) rfl)) (by decide) (m_1_0 l Z a0 hw n0 [] _ (by decide)) own_pd1 rfl rfl (Nat.le_of_ble_eq_true rfl) (Nat.le_of_ble_eq_true rfl) (Nat.le_of_ble_eq_true rfl) (Nat.le_of_ble_eq_true rfl) (by rintro _ _ ⟨rfl, rfl⟩; rfl) ?_
      rintro _ _ ⟨rfl, rfl⟩
      refine G.astore10 at_233 rfl rfl ?_
      refine G.iloadN at_235 rfl ?_
      refine G.iconst (1) at_236 rfl ?_
      refine G.iand at_237 ?_
      refine G.if_eq 245 at_238 (by decide) rfl (fun h238 => ?_) (fun h238 => ?_)
      · replace he := he.trans (if_pos h238)
        refine G.iloadN at_245 rfl ?_
        refine G.bipush (6) at_246 rfl ?_
        refine G.irem at_248 (by decide) ?_
        refine G.istore11 at_249 rfl ?_
        refine G.iloadN at_251 rfl ?_
        refine G.iload at_252 rfl ?_
        refine G.iload at_254 rfl ?_
        refine G.iload at_256 rfl ?_
        refine G.iconst (0) at_258 rfl ?_
        refine G.scall [_, _, _, _, _] rfl at_259 (hw _ (List.mem_of_getElem? (i := 34) rfl)) (hw _ (List.mem_of_getElem? (i := 35) rfl)) (hw _ (List.mem_of_getElem? (i := 36) rfl)) (hw _ (List.mem_of_getElem? (i := 37) rfl)) (by decide) (m_3 l Z a0 hw n0 [] _ _ _ _ _ _) own_pd2 rfl rfl (Nat.le_of_ble_eq_true rfl) (Nat.le_of_ble_eq_true rfl) (Nat.le_of_ble_eq_true rfl) (Nat.le_of_ble_eq_true rfl) (by rintro _ _ ⟨rfl, rfl⟩; rfl) ?_
        rintro _ _ ⟨rfl, rfl⟩
        refine G.if_ne 271 at_262 (by decide) rfl (fun h262 => ?_) (fun h262 => ?_)
        · replace he := he.trans (if_neg h262)
          refine G.iloadN at_271 rfl ?_
          refine G.iload at_272 rfl ?_
          refine G.iload at_274 rfl ?_
          refine G.iload at_276 rfl ?_
          refine G.iconst (1) at_278 rfl ?_
          refine G.scall [_, _, _, _, _] rfl at_279 (hw _ (List.mem_of_getElem? (i := 34) rfl)) (hw _ (List.mem_of_getElem? (i := 35) rfl)) (hw _ (List.mem_of_getElem? (i := 36) rfl)) (hw _ (List.mem_of_getElem? (i := 37) rfl)) (by decide) (m_3 l Z a0 hw n0 [] _ _ _ _ _ _) own_pd2 rfl rfl (Nat.le_of_ble_eq_true rfl) (Nat.le_of_ble_eq_true rfl) (Nat.le_of_ble_eq_true rfl) (Nat.le_of_ble_eq_true rfl) (by rintro _ _ ⟨rfl, rfl⟩; rfl) ?_
          rintro _ _ ⟨rfl, rfl⟩
          refine G.if_ne 291 at_282 (by decide) rfl (fun h282 => ?_) (fun h282 => ?_)
          · replace he := he.trans (if_neg h282)
            refine G.iloadN at_291 rfl ?_
            refine G.iload at_292 rfl ?_
            refine G.iload at_294 rfl ?_
            refine G.iload at_296 rfl ?_
            refine G.iconst (2) at_298 rfl ?_
            refine G.scall [_, _, _, _, _] rfl at_299 (hw _ (List.mem_of_getElem? (i := 34) rfl)) (hw _ (List.mem_of_getElem? (i := 35) rfl)) (hw _ (List.mem_of_getElem? (i := 36) rfl)) (hw _ (List.mem_of_getElem? (i := 37) rfl)) (by decide) (m_3 l Z a0 hw n0 [] _ _ _ _ _ _) own_pd2 rfl rfl (Nat.le_of_ble_eq_true rfl) (Nat.le_of_ble_eq_true rfl) (Nat.le_of_ble_eq_true rfl) (Nat.le_of_ble_eq_true rfl) (by rintro _ _ ⟨rfl, rfl⟩; rfl) ?_
            rintro _ _ ⟨rfl, rfl⟩
            refine G.if_ne 311 at_302 (by decide) rfl (fun h302 => ?_) (fun h302 => ?_)
            · replace he := he.trans (if_neg h302)
              refine G.iconst (3) at_311 rfl ?_
              refine G.istore12 at_312 rfl ?_
              refine G.iload at_314 rfl ?_
              refine G.iload at_316 rfl ?_
              refine G.icmp_ge 326 at_318 (by decide) rfl (fun h318 => ?_) (fun h318 => ?_)
              · replace he := he.trans (if_neg h318)
                refine G.iconst (-1) at_326 rfl ?_
                refine G.istore13 at_327 rfl ?_
                refine G.aload at_329 rfl rfl ?_
                refine G.iload at_331 rfl ?_
                refine G.vcall [_] rfl at_333 (hw _ (List.mem_of_getElem? (i := 38) rfl)) (hw _ (List.mem_of_getElem? (i := 39) rfl)) (hw _ (List.mem_of_getElem? (i := 41) rfl)) (hw _ (List.mem_of_getElem? (i := 40) rfl)) (hw _ (List.mem_of_getElem? (i := 4) rfl)) (hw _ (List.mem_of_getElem? (i := 42) rfl)) (by decide) rfl (m_4_0 l Z a0 hw n0 [] _ _ _ _ _ _ _) own_pd3 rfl rfl (Nat.le_of_ble_eq_true rfl) (Nat.le_of_ble_eq_true rfl) (Nat.le_of_ble_eq_true rfl) (Nat.le_of_ble_eq_true rfl) (by rintro _ _ ⟨rfl, rfl⟩; rfl) ?_
                rintro _ _ ⟨rfl, rfl⟩
                refine G.iload at_336 rfl ?_
                refine G.icmp_ne 345 at_338 (by decide) rfl (fun h338 => ?_) (fun h338 => ?_)
                · replace he := he.trans (if_neg h338)
                  refine G.iconst (0) at_345 rfl ?_
                  exact G.zreturn rfl at_346 rfl (Nat.le_of_ble_eq_true rfl) (Nat.le_of_ble_eq_true rfl) ⟨congrArg (fun z => some (Value.int z)) he.symm, trivial⟩
                · replace he := he.trans (if_pos h338)
                  refine G.iconst (1) at_341 rfl ?_
                  refine G.goto 346 at_342 (by decide) rfl ?_
                  exact G.zreturn rfl at_346 rfl (Nat.le_of_ble_eq_true rfl) (Nat.le_of_ble_eq_true rfl) ⟨congrArg (fun z => some (Value.int z)) he.symm, trivial⟩
              · replace he := he.trans (if_pos h318)
                refine G.iload at_321 rfl ?_
                refine G.goto 327 at_323 (by decide) rfl ?_
                refine G.istore13 at_327 rfl ?_
                refine G.aload at_329 rfl rfl ?_
                refine G.iload at_331 rfl ?_
                refine G.vcall [_] rfl at_333 (hw _ (List.mem_of_getElem? (i := 38) rfl)) (hw _ (List.mem_of_getElem? (i := 39) rfl)) (hw _ (List.mem_of_getElem? (i := 41) rfl)) (hw _ (List.mem_of_getElem? (i := 40) rfl)) (hw _ (List.mem_of_getElem? (i := 4) rfl)) (hw _ (List.mem_of_getElem? (i := 42) rfl)) (by decide) rfl (m_4_0 l Z a0 hw n0 [] _ _ _ _ _ _ _) own_pd3 rfl rfl (Nat.le_of_ble_eq_true rfl) (Nat.le_of_ble_eq_true rfl) (Nat.le_of_ble_eq_true rfl) (Nat.le_of_ble_eq_true rfl) (by rintro _ _ ⟨rfl, rfl⟩; rfl) ?_
                rintro _ _ ⟨rfl, rfl⟩
                refine G.iload at_336 rfl ?_
                refine G.icmp_ne 345 at_338 (by decide) rfl (fun h338 => ?_) (fun h338 => ?_)
                · replace he := he.trans (if_neg h338)
                  refine G.iconst (0) at_345 rfl ?_
                  exact G.zreturn rfl at_346 rfl (Nat.le_of_ble_eq_true rfl) (Nat.le_of_ble_eq_true rfl) ⟨congrArg (fun z => some (Value.int z)) he.symm, trivial⟩
                · replace he := he.trans (if_pos h338)
                  refine G.iconst (1) at_341 rfl ?_
                  refine G.goto 346 at_342 (by decide) rfl ?_
                  exact G.zreturn rfl at_346 rfl (Nat.le_of_ble_eq_true rfl) (Nat.le_of_ble_eq_true rfl) ⟨congrArg (fun z => some (Value.int z)) he.symm, trivial⟩
            · replace he := he.trans (if_pos h302)
              refine G.iconst (2) at_305 rfl ?_
              refine G.istore12 at_306 rfl ?_
              refine G.goto 314 at_308 (by decide) rfl ?_
              refine G.iload at_314 rfl ?_
              refine G.iload at_316 rfl ?_
              refine G.icmp_ge 326 at_318 (by decide) rfl (fun h318 => ?_) (fun h318 => ?_)
              · replace he := he.trans (if_neg h318)
                refine G.iconst (-1) at_326 rfl ?_
                refine G.istore13 at_327 rfl ?_
                refine G.aload at_329 rfl rfl ?_
                refine G.iload at_331 rfl ?_
                refine G.vcall [_] rfl at_333 (hw _ (List.mem_of_getElem? (i := 38) rfl)) (hw _ (List.mem_of_getElem? (i := 39) rfl)) (hw _ (List.mem_of_getElem? (i := 41) rfl)) (hw _ (List.mem_of_getElem? (i := 40) rfl)) (hw _ (List.mem_of_getElem? (i := 4) rfl)) (hw _ (List.mem_of_getElem? (i := 42) rfl)) (by decide) rfl (m_4_0 l Z a0 hw n0 [] _ _ _ _ _ _ _) own_pd3 rfl rfl (Nat.le_of_ble_eq_true rfl) (Nat.le_of_ble_eq_true rfl) (Nat.le_of_ble_eq_true rfl) (Nat.le_of_ble_eq_true rfl) (by rintro _ _ ⟨rfl, rfl⟩; rfl) ?_
                rintro _ _ ⟨rfl, rfl⟩
                refine G.iload at_336 rfl ?_
                refine G.icmp_ne 345 at_338 (by decide) rfl (fun h338 => ?_) (fun h338 => ?_)
                · replace he := he.trans (if_neg h338)
                  refine G.iconst (0) at_345 rfl ?_
                  exact G.zreturn rfl at_346 rfl (Nat.le_of_ble_eq_true rfl) (Nat.le_of_ble_eq_true rfl) ⟨congrArg (fun z => some (Value.int z)) he.symm, trivial⟩
                · replace he := he.trans (if_pos h338)
                  refine G.iconst (1) at_341 rfl ?_
                  refine G.goto 346 at_342 (by decide) rfl ?_
                  exact G.zreturn rfl at_346 rfl (Nat.le_of_ble_eq_true rfl) (Nat.le_of_ble_eq_true rfl) ⟨congrArg (fun z => some (Value.int z)) he.symm, trivial⟩
              · replace he := he.trans (if_pos h318)
                refine G.iload at_321 rfl ?_
                refine G.goto 327 at_323 (by decide) rfl ?_
                refine G.istore13 at_327 rfl ?_
                refine G.aload at_329 rfl rfl ?_
                refine G.iload at_331 rfl ?_
                refine G.vcall [_] rfl at_333 (hw _ (List.mem_of_getElem? (i := 38) rfl)) (hw _ (List.mem_of_getElem? (i := 39) rfl)) (hw _ (List.mem_of_getElem? (i := 41) rfl)) (hw _ (List.mem_of_getElem? (i := 40) rfl)) (hw _ (List.mem_of_getElem? (i := 4) rfl)) (hw _ (List.mem_of_getElem? (i := 42) rfl)) (by decide) rfl (m_4_0 l Z a0 hw n0 [] _ _ _ _ _ _ _) own_pd3 rfl rfl (Nat.le_of_ble_eq_true rfl) (Nat.le_of_ble_eq_true rfl) (Nat.le_of_ble_eq_true rfl) (Nat.le_of_ble_eq_true rfl) (by rintro _ _ ⟨rfl, rfl⟩; rfl) ?_
                rintro _ _ ⟨rfl, rfl⟩
                refine G.iload at_336 rfl ?_
                refine G.icmp_ne 345 at_338 (by decide) rfl (fun h338 => ?_) (fun h338 => ?_)
                · replace he := he.trans (if_neg h338)
                  refine G.iconst (0) at_345 rfl ?_
                  exact G.zreturn rfl at_346 rfl (Nat.le_of_ble_eq_true rfl) (Nat.le_of_ble_eq_true rfl) ⟨congrArg (fun z => some (Value.int z)) he.symm, trivial⟩
                · replace he := he.trans (if_pos h338)
                  refine G.iconst (1) at_341 rfl ?_
                  refine G.goto 346 at_342 (by decide) rfl ?_
                  exact G.zreturn rfl at_346 rfl (Nat.le_of_ble_eq_true rfl) (Nat.le_of_ble_eq_true rfl) ⟨congrArg (fun z => some (Value.int z)) he.symm, trivial⟩
          · replace he := he.trans (if_pos h282)
            refine G.iconst (1) at_285 rfl ?_
            refine G.istore12 at_286 rfl ?_
            refine G.goto 314 at_288 (by decide) rfl ?_
            refine G.iload at_314 rfl ?_
            refine G.iload at_316 rfl ?_
            refine G.icmp_ge 326 at_318 (by decide) rfl (fun h318 => ?_) (fun h318 => ?_)
            · replace he := he.trans (if_neg h318)
              refine G.iconst (-1) at_326 rfl ?_
              refine G.istore13 at_327 rfl ?_
              refine G.aload at_329 rfl rfl ?_
              refine G.iload at_331 rfl ?_
              refine G.vcall [_] rfl at_333 (hw _ (List.mem_of_getElem? (i := 38) rfl)) (hw _ (List.mem_of_getElem? (i := 39) rfl)) (hw _ (List.mem_of_getElem? (i := 41) rfl)) (hw _ (List.mem_of_getElem? (i := 40) rfl)) (hw _ (List.mem_of_getElem? (i := 4) rfl)) (hw _ (List.mem_of_getElem? (i := 42) rfl)) (by decide) rfl (m_4_0 l Z a0 hw n0 [] _ _ _ _ _ _ _) own_pd3 rfl rfl (Nat.le_of_ble_eq_true rfl) (Nat.le_of_ble_eq_true rfl) (Nat.le_of_ble_eq_true rfl) (Nat.le_of_ble_eq_true rfl) (by rintro _ _ ⟨rfl, rfl⟩; rfl) ?_
              rintro _ _ ⟨rfl, rfl⟩
              refine G.iload at_336 rfl ?_
              refine G.icmp_ne 345 at_338 (by decide) rfl (fun h338 => ?_) (fun h338 => ?_)
              · replace he := he.trans (if_neg h338)
                refine G.iconst (0) at_345 rfl ?_
                exact G.zreturn rfl at_346 rfl (Nat.le_of_ble_eq_true rfl) (Nat.le_of_ble_eq_true rfl) ⟨congrArg (fun z => some (Value.int z)) he.symm, trivial⟩
              · replace he := he.trans (if_pos h338)
                refine G.iconst (1) at_341 rfl ?_
                refine G.goto 346 at_342 (by decide) rfl ?_
                exact G.zreturn rfl at_346 rfl (Nat.le_of_ble_eq_true rfl) (Nat.le_of_ble_eq_true rfl) ⟨congrArg (fun z => some (Value.int z)) he.symm, trivial⟩
            · replace he := he.trans (if_pos h318)
              refine G.iload at_321 rfl ?_
              refine G.goto 327 at_323 (by decide) rfl ?_
              refine G.istore13 at_327 rfl ?_
              refine G.aload at_329 rfl rfl ?_
              refine G.iload at_331 rfl ?_
              refine G.vcall [_] rfl at_333 (hw _ (List.mem_of_getElem? (i := 38) rfl)) (hw _ (List.mem_of_getElem? (i := 39) rfl)) (hw _ (List.mem_of_getElem? (i := 41) rfl)) (hw _ (List.mem_of_getElem? (i := 40) rfl)) (hw _ (List.mem_of_getElem? (i := 4) rfl)) (hw _ (List.mem_of_getElem? (i := 42) rfl)) (by decide) rfl (m_4_0 l Z a0 hw n0 [] _ _ _ _ _ _ _) own_pd3 rfl rfl (Nat.le_of_ble_eq_true rfl) (Nat.le_of_ble_eq_true rfl) (Nat.le_of_ble_eq_true rfl) (Nat.le_of_ble_eq_true rfl) (by rintro _ _ ⟨rfl, rfl⟩; rfl) ?_
              rintro _ _ ⟨rfl, rfl⟩
              refine G.iload at_336 rfl ?_
              refine G.icmp_ne 345 at_338 (by decide) rfl (fun h338 => ?_) (fun h338 => ?_)
              · replace he := he.trans (if_neg h338)
                refine G.iconst (0) at_345 rfl ?_
                exact G.zreturn rfl at_346 rfl (Nat.le_of_ble_eq_true rfl) (Nat.le_of_ble_eq_true rfl) ⟨congrArg (fun z => some (Value.int z)) he.symm, trivial⟩
              · replace he := he.trans (if_pos h338)
                refine G.iconst (1) at_341 rfl ?_
                refine G.goto 346 at_342 (by decide) rfl ?_
                exact G.zreturn rfl at_346 rfl (Nat.le_of_ble_eq_true rfl) (Nat.le_of_ble_eq_true rfl) ⟨congrArg (fun z => some (Value.int z)) he.symm, trivial⟩
        · replace he := he.trans (if_pos h262)
          refine G.iconst (0) at_265 rfl ?_
          refine G.istore12 at_266 rfl ?_
          refine G.goto 314 at_268 (by decide) rfl ?_
          refine G.iload at_314 rfl ?_
          refine G.iload at_316 rfl ?_
          refine G.icmp_ge 326 at_318 (by decide) rfl (fun h318 => ?_) (fun h318 => ?_)
          · replace he := he.trans (if_neg h318)
            refine G.iconst (-1) at_326 rfl ?_
            refine G.istore13 at_327 rfl ?_
            refine G.aload at_329 rfl rfl ?_
            refine G.iload at_331 rfl ?_
            refine G.vcall [_] rfl at_333 (hw _ (List.mem_of_getElem? (i := 38) rfl)) (hw _ (List.mem_of_getElem? (i := 39) rfl)) (hw _ (List.mem_of_getElem? (i := 41) rfl)) (hw _ (List.mem_of_getElem? (i := 40) rfl)) (hw _ (List.mem_of_getElem? (i := 4) rfl)) (hw _ (List.mem_of_getElem? (i := 42) rfl)) (by decide) rfl (m_4_0 l Z a0 hw n0 [] _ _ _ _ _ _ _) own_pd3 rfl rfl (Nat.le_of_ble_eq_true rfl) (Nat.le_of_ble_eq_true rfl) (Nat.le_of_ble_eq_true rfl) (Nat.le_of_ble_eq_true rfl) (by rintro _ _ ⟨rfl, rfl⟩; rfl) ?_
            rintro _ _ ⟨rfl, rfl⟩
            refine G.iload at_336 rfl ?_
            refine G.icmp_ne 345 at_338 (by decide) rfl (fun h338 => ?_) (fun h338 => ?_)
            · replace he := he.trans (if_neg h338)
              refine G.iconst (0) at_345 rfl ?_
              exact G.zreturn rfl at_346 rfl (Nat.le_of_ble_eq_true rfl) (Nat.le_of_ble_eq_true rfl) ⟨congrArg (fun z => some (Value.int z)) he.symm, trivial⟩
            · replace he := he.trans (if_pos h338)
              refine G.iconst (1) at_341 rfl ?_
              refine G.goto 346 at_342 (by decide) rfl ?_
              exact G.zreturn rfl at_346 rfl (Nat.le_of_ble_eq_true rfl) (Nat.le_of_ble_eq_true rfl) ⟨congrArg (fun z => some (Value.int z)) he.symm, trivial⟩
          · replace he := he.trans (if_pos h318)
            refine G.iload at_321 rfl ?_
            refine G.goto 327 at_323 (by decide) rfl ?_
            refine G.istore13 at_327 rfl ?_
            refine G.aload at_329 rfl rfl ?_
            refine G.iload at_331 rfl ?_
            refine G.vcall [_] rfl at_333 (hw _ (List.mem_of_getElem? (i := 38) rfl)) (hw _ (List.mem_of_getElem? (i := 39) rfl)) (hw _ (List.mem_of_getElem? (i := 41) rfl)) (hw _ (List.mem_of_getElem? (i := 40) rfl)) (hw _ (List.mem_of_getElem? (i := 4) rfl)) (hw _ (List.mem_of_getElem? (i := 42) rfl)) (by decide) rfl (m_4_0 l Z a0 hw n0 [] _ _ _ _ _ _ _) own_pd3 rfl rfl (Nat.le_of_ble_eq_true rfl) (Nat.le_of_ble_eq_true rfl) (Nat.le_of_ble_eq_true rfl) (Nat.le_of_ble_eq_true rfl) (by rintro _ _ ⟨rfl, rfl⟩; rfl) ?_
            rintro _ _ ⟨rfl, rfl⟩
            refine G.iload at_336 rfl ?_
            refine G.icmp_ne 345 at_338 (by decide) rfl (fun h338 => ?_) (fun h338 => ?_)
            · replace he := he.trans (if_neg h338)
              refine G.iconst (0) at_345 rfl ?_
              exact G.zreturn rfl at_346 rfl (Nat.le_of_ble_eq_true rfl) (Nat.le_of_ble_eq_true rfl) ⟨congrArg (fun z => some (Value.int z)) he.symm, trivial⟩
            · replace he := he.trans (if_pos h338)
              refine G.iconst (1) at_341 rfl ?_
              refine G.goto 346 at_342 (by decide) rfl ?_
              exact G.zreturn rfl at_346 rfl (Nat.le_of_ble_eq_true rfl) (Nat.le_of_ble_eq_true rfl) ⟨congrArg (fun z => some (Value.int z)) he.symm, trivial⟩
      · replace he := he.trans (if_neg h238)
        refine G.iloadN at_241 rfl ?_
        refine G.goto 249 at_242 (by decide) rfl ?_
        refine G.istore11 at_249 rfl ?_
        refine G.iloadN at_251 rfl ?_
        refine G.iload at_252 rfl ?_
        refine G.iload at_254 rfl ?_
        refine G.iload at_256 rfl ?_
        refine G.iconst (0) at_258 rfl ?_
        refine G.scall [_, _, _, _, _] rfl at_259 (hw _ (List.mem_of_getElem? (i := 34) rfl)) (hw _ (List.mem_of_getElem? (i := 35) rfl)) (hw _ (List.mem_of_getElem? (i := 36) rfl)) (hw _ (List.mem_of_getElem? (i := 37) rfl)) (by decide) (m_3 l Z a0 hw n0 [] _ _ _ _ _ _) own_pd2 rfl rfl (Nat.le_of_ble_eq_true rfl) (Nat.le_of_ble_eq_true rfl) (Nat.le_of_ble_eq_true rfl) (Nat.le_of_ble_eq_true rfl) (by rintro _ _ ⟨rfl, rfl⟩; rfl) ?_
        rintro _ _ ⟨rfl, rfl⟩
        refine G.if_ne 271 at_262 (by decide) rfl (fun h262 => ?_) (fun h262 => ?_)
        · replace he := he.trans (if_neg h262)
          refine G.iloadN at_271 rfl ?_
          refine G.iload at_272 rfl ?_
          refine G.iload at_274 rfl ?_
          refine G.iload at_276 rfl ?_
          refine G.iconst (1) at_278 rfl ?_
          refine G.scall [_, _, _, _, _] rfl at_279 (hw _ (List.mem_of_getElem? (i := 34) rfl)) (hw _ (List.mem_of_getElem? (i := 35) rfl)) (hw _ (List.mem_of_getElem? (i := 36) rfl)) (hw _ (List.mem_of_getElem? (i := 37) rfl)) (by decide) (m_3 l Z a0 hw n0 [] _ _ _ _ _ _) own_pd2 rfl rfl (Nat.le_of_ble_eq_true rfl) (Nat.le_of_ble_eq_true rfl) (Nat.le_of_ble_eq_true rfl) (Nat.le_of_ble_eq_true rfl) (by rintro _ _ ⟨rfl, rfl⟩; rfl) ?_
          rintro _ _ ⟨rfl, rfl⟩
          refine G.if_ne 291 at_282 (by decide) rfl (fun h282 => ?_) (fun h282 => ?_)
          · replace he := he.trans (if_neg h282)
            refine G.iloadN at_291 rfl ?_
            refine G.iload at_292 rfl ?_
            refine G.iload at_294 rfl ?_
            refine G.iload at_296 rfl ?_
            refine G.iconst (2) at_298 rfl ?_
            refine G.scall [_, _, _, _, _] rfl at_299 (hw _ (List.mem_of_getElem? (i := 34) rfl)) (hw _ (List.mem_of_getElem? (i := 35) rfl)) (hw _ (List.mem_of_getElem? (i := 36) rfl)) (hw _ (List.mem_of_getElem? (i := 37) rfl)) (by decide) (m_3 l Z a0 hw n0 [] _ _ _ _ _ _) own_pd2 rfl rfl (Nat.le_of_ble_eq_true rfl) (Nat.le_of_ble_eq_true rfl) (Nat.le_of_ble_eq_true rfl) (Nat.le_of_ble_eq_true rfl) (by rintro _ _ ⟨rfl, rfl⟩; rfl) ?_
            rintro _ _ ⟨rfl, rfl⟩
            refine G.if_ne 311 at_302 (by decide) rfl (fun h302 => ?_) (fun h302 => ?_)
            · replace he := he.trans (if_neg h302)
              refine G.iconst (3) at_311 rfl ?_
              refine G.istore12 at_312 rfl ?_
              refine G.iload at_314 rfl ?_
              refine G.iload at_316 rfl ?_
              refine G.icmp_ge 326 at_318 (by decide) rfl (fun h318 => ?_) (fun h318 => ?_)
              · replace he := he.trans (if_neg h318)
                refine G.iconst (-1) at_326 rfl ?_
                refine G.istore13 at_327 rfl ?_
                refine G.aload at_329 rfl rfl ?_
                refine G.iload at_331 rfl ?_
                refine G.vcall [_] rfl at_333 (hw _ (List.mem_of_getElem? (i := 38) rfl)) (hw _ (List.mem_of_getElem? (i := 39) rfl)) (hw _ (List.mem_of_getElem? (i := 41) rfl)) (hw _ (List.mem_of_getElem? (i := 40) rfl)) (hw _ (List.mem_of_getElem? (i := 4) rfl)) (hw _ (List.mem_of_getElem? (i := 42) rfl)) (by decide) rfl (m_4_0 l Z a0 hw n0 [] _ _ _ _ _ _ _) own_pd3 rfl rfl (Nat.le_of_ble_eq_true rfl) (Nat.le_of_ble_eq_true rfl) (Nat.le_of_ble_eq_true rfl) (Nat.le_of_ble_eq_true rfl) (by rintro _ _ ⟨rfl, rfl⟩; rfl) ?_
                rintro _ _ ⟨rfl, rfl⟩
                refine G.iload at_336 rfl ?_
                refine G.icmp_ne 345 at_338 (by decide) rfl (fun h338 => ?_) (fun h338 => ?_)
                · replace he := he.trans (if_neg h338)
                  refine G.iconst (0) at_345 rfl ?_
                  exact G.zreturn rfl at_346 rfl (Nat.le_of_ble_eq_true rfl) (Nat.le_of_ble_eq_true rfl) ⟨congrArg (fun z => some (Value.int z)) he.symm, trivial⟩
                · replace he := he.trans (if_pos h338)
                  refine G.iconst (1) at_341 rfl ?_
                  refine G.goto 346 at_342 (by decide) rfl ?_
                  exact G.zreturn rfl at_346 rfl (Nat.le_of_ble_eq_true rfl) (Nat.le_of_ble_eq_true rfl) ⟨congrArg (fun z => some (Value.int z)) he.symm, trivial⟩
              · replace he := he.trans (if_pos h318)
                refine G.iload at_321 rfl ?_
                refine G.goto 327 at_323 (by decide) rfl ?_
                refine G.istore13 at_327 rfl ?_
                refine G.aload at_329 rfl rfl ?_
                refine G.iload at_331 rfl ?_
                refine G.vcall [_] rfl at_333 (hw _ (List.mem_of_getElem? (i := 38) rfl)) (hw _ (List.mem_of_getElem? (i := 39) rfl)) (hw _ (List.mem_of_getElem? (i := 41) rfl)) (hw _ (List.mem_of_getElem? (i := 40) rfl)) (hw _ (List.mem_of_getElem? (i := 4) rfl)) (hw _ (List.mem_of_getElem? (i := 42) rfl)) (by decide) rfl (m_4_0 l Z a0 hw n0 [] _ _ _ _ _ _ _) own_pd3 rfl rfl (Nat.le_of_ble_eq_true rfl) (Nat.le_of_ble_eq_true rfl) (Nat.le_of_ble_eq_true rfl) (Nat.le_of_ble_eq_true rfl) (by rintro _ _ ⟨rfl, rfl⟩; rfl) ?_
                rintro _ _ ⟨rfl, rfl⟩
                refine G.iload at_336 rfl ?_
                refine G.icmp_ne 345 at_338 (by decide) rfl (fun h338 => ?_) (fun h338 => ?_)
                · replace he := he.trans (if_neg h338)
                  refine G.iconst (0) at_345 rfl ?_
                  exact G.zreturn rfl at_346 rfl (Nat.le_of_ble_eq_true rfl) (Nat.le_of_ble_eq_true rfl) ⟨congrArg (fun z => some (Value.int z)) he.symm, trivial⟩
                · replace he := he.trans (if_pos h338)
                  refine G.iconst (1) at_341 rfl ?_
                  refine G.goto 346 at_342 (by decide) rfl ?_
                  exact G.zreturn rfl at_346 rfl (Nat.le_of_ble_eq_true rfl) (Nat.le_of_ble_eq_true rfl) ⟨congrArg (fun z => some (Value.int z)) he.symm, trivial⟩
            · replace he := he.trans (if_pos h302)
              refine G.iconst (2) at_305 rfl ?_
              refine G.istore12 at_306 rfl ?_
              refine G.goto 314 at_308 (by decide) rfl ?_
              refine G.iload at_314 rfl ?_
              refine G.iload at_316 rfl ?_
              refine G.icmp_ge 326 at_318 (by decide) rfl (fun h318 => ?_) (fun h318 => ?_)
              · replace he := he.trans (if_neg h318)
                refine G.iconst (-1) at_326 rfl ?_
                refine G.istore13 at_327 rfl ?_
                refine G.aload at_329 rfl rfl ?_
                refine G.iload at_331 rfl ?_
                refine G.vcall [_] rfl at_333 (hw _ (List.mem_of_getElem? (i := 38) rfl)) (hw _ (List.mem_of_getElem? (i := 39) rfl)) (hw _ (List.mem_of_getElem? (i := 41) rfl)) (hw _ (List.mem_of_getElem? (i := 40) rfl)) (hw _ (List.mem_of_getElem? (i := 4) rfl)) (hw _ (List.mem_of_getElem? (i := 42) rfl)) (by decide) rfl (m_4_0 l Z a0 hw n0 [] _ _ _ _ _ _ _) own_pd3 rfl rfl (Nat.le_of_ble_eq_true rfl) (Nat.le_of_ble_eq_true rfl) (Nat.le_of_ble_eq_true rfl) (Nat.le_of_ble_eq_true rfl) (by rintro _ _ ⟨rfl, rfl⟩; rfl) ?_
                rintro _ _ ⟨rfl, rfl⟩
                refine G.iload at_336 rfl ?_
                refine G.icmp_ne 345 at_338 (by decide) rfl (fun h338 => ?_) (fun h338 => ?_)
                · replace he := he.trans (if_neg h338)
                  refine G.iconst (0) at_345 rfl ?_
                  exact G.zreturn rfl at_346 rfl (Nat.le_of_ble_eq_true rfl) (Nat.le_of_ble_eq_true rfl) ⟨congrArg (fun z => some (Value.int z)) he.symm, trivial⟩
                · replace he := he.trans (if_pos h338)
                  refine G.iconst (1) at_341 rfl ?_
                  refine G.goto 346 at_342 (by decide) rfl ?_
                  exact G.zreturn rfl at_346 rfl (Nat.le_of_ble_eq_true rfl) (Nat.le_of_ble_eq_true rfl) ⟨congrArg (fun z => some (Value.int z)) he.symm, trivial⟩
              · replace he := he.trans (if_pos h318)
                refine G.iload at_321 rfl ?_
                refine G.goto 327 at_323 (by decide) rfl ?_
                refine G.istore13 at_327 rfl ?_
                refine G.aload at_329 rfl rfl ?_
                refine G.iload at_331 rfl ?_
                refine G.vcall [_] rfl at_333 (hw _ (List.mem_of_getElem? (i := 38) rfl)) (hw _ (List.mem_of_getElem? (i := 39) rfl)) (hw _ (List.mem_of_getElem? (i := 41) rfl)) (hw _ (List.mem_of_getElem? (i := 40) rfl)) (hw _ (List.mem_of_getElem? (i := 4) rfl)) (hw _ (List.mem_of_getElem? (i := 42) rfl)) (by decide) rfl (m_4_0 l Z a0 hw n0 [] _ _ _ _ _ _ _) own_pd3 rfl rfl (Nat.le_of_ble_eq_true rfl) (Nat.le_of_ble_eq_true rfl) (Nat.le_of_ble_eq_true rfl) (Nat.le_of_ble_eq_true rfl) (by rintro _ _ ⟨rfl, rfl⟩; rfl) ?_
                rintro _ _ ⟨rfl, rfl⟩
                refine G.iload at_336 rfl ?_
                refine G.icmp_ne 345 at_338 (by decide) rfl (fun h338 => ?_) (fun h338 => ?_)
                · replace he := he.trans (if_neg h338)
                  refine G.iconst (0) at_345 rfl ?_
                  exact G.zreturn rfl at_346 rfl (Nat.le_of_ble_eq_true rfl) (Nat.le_of_ble_eq_true rfl) ⟨congrArg (fun z => some (Value.int z)) he.symm, trivial⟩
                · replace he := he.trans (if_pos h338)
                  refine G.iconst (1) at_341 rfl ?_
                  refine G.goto 346 at_342 (by decide) rfl ?_
                  exact G.zreturn rfl at_346 rfl (Nat.le_of_ble_eq_true rfl) (Nat.le_of_ble_eq_true rfl) ⟨congrArg (fun z => some (Value.int z)) he.symm, trivial⟩
          · replace he := he.trans (if_pos h282)
            refine G.iconst (1) at_285 rfl ?_
            refine G.istore12 at_286 rfl ?_
            refine G.goto 314 at_288 (by decide) rfl ?_
            refine G.iload at_314 rfl ?_
            refine G.iload at_316 rfl ?_
            refine G.icmp_ge 326 at_318 (by decide) rfl (fun h318 => ?_) (fun h318 => ?_)
            · replace he := he.trans (if_neg h318)
              refine G.iconst (-1) at_326 rfl ?_
              refine G.istore13 at_327 rfl ?_
              refine G.aload at_329 rfl rfl ?_
              refine G.iload at_331 rfl ?_
              refine G.vcall [_] rfl at_333 (hw _ (List.mem_of_getElem? (i := 38) rfl)) (hw _ (List.mem_of_getElem? (i := 39) rfl)) (hw _ (List.mem_of_getElem? (i := 41) rfl)) (hw _ (List.mem_of_getElem? (i := 40) rfl)) (hw _ (List.mem_of_getElem? (i := 4) rfl)) (hw _ (List.mem_of_getElem? (i := 42) rfl)) (by decide) rfl (m_4_0 l Z a0 hw n0 [] _ _ _ _ _ _ _) own_pd3 rfl rfl (Nat.le_of_ble_eq_true rfl) (Nat.le_of_ble_eq_true rfl) (Nat.le_of_ble_eq_true rfl) (Nat.le_of_ble_eq_true rfl) (by rintro _ _ ⟨rfl, rfl⟩; rfl) ?_
              rintro _ _ ⟨rfl, rfl⟩
              refine G.iload at_336 rfl ?_
              refine G.icmp_ne 345 at_338 (by decide) rfl (fun h338 => ?_) (fun h338 => ?_)
              · replace he := he.trans (if_neg h338)
                refine G.iconst (0) at_345 rfl ?_
                exact G.zreturn rfl at_346 rfl (Nat.le_of_ble_eq_true rfl) (Nat.le_of_ble_eq_true rfl) ⟨congrArg (fun z => some (Value.int z)) he.symm, trivial⟩
              · replace he := he.trans (if_pos h338)
                refine G.iconst (1) at_341 rfl ?_
                refine G.goto 346 at_342 (by decide) rfl ?_
                exact G.zreturn rfl at_346 rfl (Nat.le_of_ble_eq_true rfl) (Nat.le_of_ble_eq_true rfl) ⟨congrArg (fun z => some (Value.int z)) he.symm, trivial⟩
            · replace he := he.trans (if_pos h318)
              refine G.iload at_321 rfl ?_
              refine G.goto 327 at_323 (by decide) rfl ?_
              refine G.istore13 at_327 rfl ?_
              refine G.aload at_329 rfl rfl ?_
              refine G.iload at_331 rfl ?_
              refine G.vcall [_] rfl at_333 (hw _ (List.mem_of_getElem? (i := 38) rfl)) (hw _ (List.mem_of_getElem? (i := 39) rfl)) (hw _ (List.mem_of_getElem? (i := 41) rfl)) (hw _ (List.mem_of_getElem? (i := 40) rfl)) (hw _ (List.mem_of_getElem? (i := 4) rfl)) (hw _ (List.mem_of_getElem? (i := 42) rfl)) (by decide) rfl (m_4_0 l Z a0 hw n0 [] _ _ _ _ _ _ _) own_pd3 rfl rfl (Nat.le_of_ble_eq_true rfl) (Nat.le_of_ble_eq_true rfl) (Nat.le_of_ble_eq_true rfl) (Nat.le_of_ble_eq_true rfl) (by rintro _ _ ⟨rfl, rfl⟩; rfl) ?_
              rintro _ _ ⟨rfl, rfl⟩
              refine G.iload at_336 rfl ?_
              refine G.icmp_ne 345 at_338 (by decide) rfl (fun h338 => ?_) (fun h338 => ?_)
              · replace he := he.trans (if_neg h338)
                refine G.iconst (0) at_345 rfl ?_
                exact G.zreturn rfl at_346 rfl (Nat.le_of_ble_eq_true rfl) (Nat.le_of_ble_eq_true rfl) ⟨congrArg (fun z => some (Value.int z)) he.symm, trivial⟩
              · replace he := he.trans (if_pos h338)
                refine G.iconst (1) at_341 rfl ?_
                refine G.goto 346 at_342 (by decide) rfl ?_
                exact G.zreturn rfl at_346 rfl (Nat.le_of_ble_eq_true rfl) (Nat.le_of_ble_eq_true rfl) ⟨congrArg (fun z => some (Value.int z)) he.symm, trivial⟩
        · replace he := he.trans (if_pos h262)
          refine G.iconst (0) at_265 rfl ?_
          refine G.istore12 at_266 rfl ?_
          refine G.goto 314 at_268 (by decide) rfl ?_
          refine G.iload at_314 rfl ?_
          refine G.iload at_316 rfl ?_
          refine G.icmp_ge 326 at_318 (by decide) rfl (fun h318 => ?_) (fun h318 => ?_)
          · replace he := he.trans (if_neg h318)
            refine G.iconst (-1) at_326 rfl ?_
            refine G.istore13 at_327 rfl ?_
            refine G.aload at_329 rfl rfl ?_
            refine G.iload at_331 rfl ?_
            refine G.vcall [_] rfl at_333 (hw _ (List.mem_of_getElem? (i := 38) rfl)) (hw _ (List.mem_of_getElem? (i := 39) rfl)) (hw _ (List.mem_of_getElem? (i := 41) rfl)) (hw _ (List.mem_of_getElem? (i := 40) rfl)) (hw _ (List.mem_of_getElem? (i := 4) rfl)) (hw _ (List.mem_of_getElem? (i := 42) rfl)) (by decide) rfl (m_4_0 l Z a0 hw n0 [] _ _ _ _ _ _ _) own_pd3 rfl rfl (Nat.le_of_ble_eq_true rfl) (Nat.le_of_ble_eq_true rfl) (Nat.le_of_ble_eq_true rfl) (Nat.le_of_ble_eq_true rfl) (by rintro _ _ ⟨rfl, rfl⟩; rfl) ?_
            rintro _ _ ⟨rfl, rfl⟩
            refine G.iload at_336 rfl ?_
            refine G.icmp_ne 345 at_338 (by decide) rfl (fun h338 => ?_) (fun h338 => ?_)
            · replace he := he.trans (if_neg h338)
              refine G.iconst (0) at_345 rfl ?_
              exact G.zreturn rfl at_346 rfl (Nat.le_of_ble_eq_true rfl) (Nat.le_of_ble_eq_true rfl) ⟨congrArg (fun z => some (Value.int z)) he.symm, trivial⟩
            · replace he := he.trans (if_pos h338)
              refine G.iconst (1) at_341 rfl ?_
              refine G.goto 346 at_342 (by decide) rfl ?_
              exact G.zreturn rfl at_346 rfl (Nat.le_of_ble_eq_true rfl) (Nat.le_of_ble_eq_true rfl) ⟨congrArg (fun z => some (Value.int z)) he.symm, trivial⟩
          · replace he := he.trans (if_pos h318)
            refine G.iload at_321 rfl ?_
            refine G.goto 327 at_323 (by decide) rfl ?_
            refine G.istore13 at_327 rfl ?_
            refine G.aload at_329 rfl rfl ?_
            refine G.iload at_331 rfl ?_
            refine G.vcall [_] rfl at_333 (hw _ (List.mem_of_getElem? (i := 38) rfl)) (hw _ (List.mem_of_getElem? (i := 39) rfl)) (hw _ (List.mem_of_getElem? (i := 41) rfl)) (hw _ (List.mem_of_getElem? (i := 40) rfl)) (hw _ (List.mem_of_getElem? (i := 4) rfl)) (hw _ (List.mem_of_getElem? (i := 42) rfl)) (by decide) rfl (m_4_0 l Z a0 hw n0 [] _ _ _ _ _ _ _) own_pd3 rfl rfl (Nat.le_of_ble_eq_true rfl) (Nat.le_of_ble_eq_true rfl) (Nat.le_of_ble_eq_true rfl) (Nat.le_of_ble_eq_true rfl) (by rintro _ _ ⟨rfl, rfl⟩; rfl) ?_
            rintro _ _ ⟨rfl, rfl⟩
            refine G.iload at_336 rfl ?_
            refine G.icmp_ne 345 at_338 (by decide) rfl (fun h338 => ?_) (fun h338 => ?_)
            · replace he := he.trans (if_neg h338)
              refine G.iconst (0) at_345 rfl ?_
              exact G.zreturn rfl at_346 rfl (Nat.le_of_ble_eq_true rfl) (Nat.le_of_ble_eq_true rfl) ⟨congrArg (fun z => some (Value.int z)) he.symm, trivial⟩
            · replace he := he.trans (if_pos h338)
              refine G.iconst (1) at_341 rfl ?_
              refine G.goto 346 at_342 (by decide) rfl ?_
              exact G.zreturn rfl at_346 rfl (Nat.le_of_ble_eq_true rfl) (Nat.le_of_ble_eq_true rfl) ⟨congrArg (fun z => some (Value.int z)) he.symm, trivial⟩
    · replace he := he.trans ((if_neg (by decide)).trans (if_pos rfl))
      refine G.iloadN at_4 rfl ?_
      refine G.iconst (3) at_5 rfl ?_
      refine G.icmp_ne 19 at_6 (by decide) rfl (fun _ => ?_) (fun h6 => absurd h6 (by decide))
      refine G.iloadN at_19 rfl ?_
      refine G.iconst (3) at_20 rfl ?_
      refine G.icmp_le 26 at_21 (by decide) rfl (fun _ => ?_) (fun h21 => absurd h21 (by decide))
      refine G.iloadN at_26 rfl ?_
      refine G.iconst (2) at_27 rfl ?_
      refine G.ishr at_28 ?_
      refine G.iconst (3) at_29 rfl ?_
      refine G.iand at_30 ?_
      refine G.istore4 at_31 rfl ?_
      refine G.iload at_33 rfl ?_
      refine G.iconst (1) at_35 rfl ?_
      refine G.iadd at_36 ?_
      refine G.iloadN at_37 rfl ?_
      refine G.iconst (4) at_38 rfl ?_
      refine G.ishr at_39 ?_
      refine G.iconst (3) at_40 rfl ?_
      refine G.iand at_41 ?_
      refine G.iadd at_42 ?_
      refine G.istore5 at_43 rfl ?_
      refine G.iload at_45 rfl ?_
      refine G.iconst (1) at_47 rfl ?_
      refine G.iadd at_48 ?_
      refine G.iloadN at_49 rfl ?_
      refine G.bipush (6) at_50 rfl ?_
      refine G.ishr at_52 ?_
      refine G.iconst (3) at_53 rfl ?_
      refine G.iand at_54 ?_
      refine G.iadd at_55 ?_
      refine G.istore6 at_56 rfl ?_
      refine G.iloadN at_58 rfl ?_
      refine G.if_ne 80 at_59 (by decide) rfl (fun _ => ?_) (fun h59 => absurd h59 (by decide))
      refine G.iloadN at_80 rfl ?_
      refine G.iconst (1) at_81 rfl ?_
      refine G.icmp_ne 116 at_82 (by decide) rfl (fun h82 => absurd h82 (by decide)) (fun _ => ?_)
      refine G.iconst (1) at_85 rfl ?_
      refine G.newarr 1 1 at_86 (hw _ (List.mem_of_getElem? (i := 0) rfl)) (by decide) (Nat.le_of_ble_eq_true rfl) (by decide) (Nat.le_of_ble_eq_true rfl) (Nat.le_of_ble_eq_true rfl) rfl ?_
      try simp only [List.set_cons_zero, List.set_cons_succ, List.length_cons, List.length_nil, List.nil_append, List.cons_append, Nat.zero_add, Nat.reduceAdd]
      refine G.dup at_88 rfl ?_
      refine G.iconst (0) at_89 rfl ?_
      refine G.iload at_90 rfl ?_
      refine G.iast (0) at_92 rfl (by decide) (Nat.le_of_ble_eq_true rfl) ?_
      try simp only [List.set_cons_zero, List.set_cons_succ, List.length_cons, List.length_nil, List.nil_append, List.cons_append, Nat.zero_add, Nat.reduceAdd]
      refine G.astore7 at_93 rfl rfl ?_
      refine G.iconst (1) at_95 rfl ?_
      refine G.newarr 1 1 at_96 (hw _ (List.mem_of_getElem? (i := 1) rfl)) (by decide) (Nat.le_of_ble_eq_true rfl) (by decide) (Nat.le_of_ble_eq_true rfl) (Nat.le_of_ble_eq_true rfl) rfl ?_
      try simp only [List.set_cons_zero, List.set_cons_succ, List.length_cons, List.length_nil, List.nil_append, List.cons_append, Nat.zero_add, Nat.reduceAdd]
      refine G.dup at_98 rfl ?_
      refine G.iconst (0) at_99 rfl ?_
      refine G.lconst (1) at_100 rfl ?_
      refine G.last (0) at_101 rfl (by decide) (Nat.le_of_ble_eq_true rfl) ?_
      try simp only [List.set_cons_zero, List.set_cons_succ, List.length_cons, List.length_nil, List.nil_append, List.cons_append, Nat.zero_add, Nat.reduceAdd]
      refine G.astore8 at_102 rfl rfl ?_
      refine G.iconst (1) at_104 rfl ?_
      refine G.newarr 1 1 at_105 (hw _ (List.mem_of_getElem? (i := 1) rfl)) (by decide) (Nat.le_of_ble_eq_true rfl) (by decide) (Nat.le_of_ble_eq_true rfl) (Nat.le_of_ble_eq_true rfl) rfl ?_
      try simp only [List.set_cons_zero, List.set_cons_succ, List.length_cons, List.length_nil, List.nil_append, List.cons_append, Nat.zero_add, Nat.reduceAdd]
      refine G.dup at_107 rfl ?_
      refine G.iconst (0) at_108 rfl ?_
      refine G.lconst (0) at_109 rfl ?_
      refine G.last (0) at_110 rfl (by decide) (Nat.le_of_ble_eq_true rfl) ?_
      try simp only [List.set_cons_zero, List.set_cons_succ, List.length_cons, List.length_nil, List.nil_append, List.cons_append, Nat.zero_add, Nat.reduceAdd]
      refine G.astore9 at_111 rfl rfl ?_
      refine G.goto 219 at_113 (by decide) rfl ?_
      refine G.newo at_219 (hw _ (List.mem_of_getElem? (i := 2) rfl)) (hw _ (List.mem_of_getElem? (i := 3) rfl)) (hw _ (List.mem_of_getElem? (i := 4) rfl)) (own_fo Z a0 hw) (Nat.le_of_ble_eq_true rfl) (Nat.le_of_ble_eq_true rfl) ?_
      try simp only [List.set_cons_zero, List.set_cons_succ, List.length_cons, List.length_nil, List.nil_append, List.cons_append, Nat.zero_add, Nat.reduceAdd]
      refine G.dup at_222 rfl ?_
      refine G.aload at_223 rfl rfl ?_
      refine G.aload at_225 rfl rfl ?_
      refine G.aload at_227 rfl rfl ?_
      refine G.lconst (0) at_229 rfl ?_
      refine G.ncall [_, _, _, _] rfl at_230 rfl (hw _ (List.mem_of_getElem? (i := 5) rfl)) (hw _ (List.mem_of_getElem? (i := 6) rfl)) (hw _ (List.mem_of_getElem? (i := 4) rfl)) (hw _ (List.mem_of_getElem? (i := 7) rfl)) (by decide) (m_1_1 l Z a0 hw n0 [] _ _ _ _ (own_q _ 0 0).1.1 (own_q _ 0 0).1.2 (by decide) (by decide) (by decide)) own_pd1 rfl rfl (Nat.le_of_ble_eq_true rfl) (Nat.le_of_ble_eq_true rfl) (Nat.le_of_ble_eq_true rfl) (Nat.le_of_ble_eq_true rfl) (by rintro _ _ ⟨rfl, rfl⟩; rfl) ?_
      rintro _ _ ⟨rfl, rfl⟩
      refine G.astore10 at_233 rfl rfl ?_
      refine G.iloadN at_235 rfl ?_
      refine G.iconst (1) at_236 rfl ?_
      refine G.iand at_237 ?_
      refine G.if_eq 245 at_238 (by decide) rfl (fun h238 => ?_) (fun h238 => ?_)
      · replace he := he.trans (if_pos h238)
        refine G.iloadN at_245 rfl ?_
        refine G.bipush (6) at_246 rfl ?_
        refine G.irem at_248 (by decide) ?_
        refine G.istore11 at_249 rfl ?_
        refine G.iloadN at_251 rfl ?_
        refine G.iload at_252 rfl ?_
        refine G.iload at_254 rfl ?_
        refine G.iload at_256 rfl ?_
        refine G.iconst (0) at_258 rfl ?_
        refine G.scall [_, _, _, _, _] rfl at_259 (hw _ (List.mem_of_getElem? (i := 34) rfl)) (hw _ (List.mem_of_getElem? (i := 35) rfl)) (hw _ (List.mem_of_getElem? (i := 36) rfl)) (hw _ (List.mem_of_getElem? (i := 37) rfl)) (by decide) (m_3 l Z a0 hw n0 [] _ _ _ _ _ _) own_pd2 rfl rfl (Nat.le_of_ble_eq_true rfl) (Nat.le_of_ble_eq_true rfl) (Nat.le_of_ble_eq_true rfl) (Nat.le_of_ble_eq_true rfl) (by rintro _ _ ⟨rfl, rfl⟩; rfl) ?_
        rintro _ _ ⟨rfl, rfl⟩
        refine G.if_ne 271 at_262 (by decide) rfl (fun h262 => ?_) (fun h262 => ?_)
        · replace he := he.trans (if_neg h262)
          refine G.iloadN at_271 rfl ?_
          refine G.iload at_272 rfl ?_
          refine G.iload at_274 rfl ?_
          refine G.iload at_276 rfl ?_
          refine G.iconst (1) at_278 rfl ?_
          refine G.scall [_, _, _, _, _] rfl at_279 (hw _ (List.mem_of_getElem? (i := 34) rfl)) (hw _ (List.mem_of_getElem? (i := 35) rfl)) (hw _ (List.mem_of_getElem? (i := 36) rfl)) (hw _ (List.mem_of_getElem? (i := 37) rfl)) (by decide) (m_3 l Z a0 hw n0 [] _ _ _ _ _ _) own_pd2 rfl rfl (Nat.le_of_ble_eq_true rfl) (Nat.le_of_ble_eq_true rfl) (Nat.le_of_ble_eq_true rfl) (Nat.le_of_ble_eq_true rfl) (by rintro _ _ ⟨rfl, rfl⟩; rfl) ?_
          rintro _ _ ⟨rfl, rfl⟩
          refine G.if_ne 291 at_282 (by decide) rfl (fun h282 => ?_) (fun h282 => ?_)
          · replace he := he.trans (if_neg h282)
            refine G.iloadN at_291 rfl ?_
            refine G.iload at_292 rfl ?_
            refine G.iload at_294 rfl ?_
            refine G.iload at_296 rfl ?_
            refine G.iconst (2) at_298 rfl ?_
            refine G.scall [_, _, _, _, _] rfl at_299 (hw _ (List.mem_of_getElem? (i := 34) rfl)) (hw _ (List.mem_of_getElem? (i := 35) rfl)) (hw _ (List.mem_of_getElem? (i := 36) rfl)) (hw _ (List.mem_of_getElem? (i := 37) rfl)) (by decide) (m_3 l Z a0 hw n0 [] _ _ _ _ _ _) own_pd2 rfl rfl (Nat.le_of_ble_eq_true rfl) (Nat.le_of_ble_eq_true rfl) (Nat.le_of_ble_eq_true rfl) (Nat.le_of_ble_eq_true rfl) (by rintro _ _ ⟨rfl, rfl⟩; rfl) ?_
            rintro _ _ ⟨rfl, rfl⟩
            refine G.if_ne 311 at_302 (by decide) rfl (fun h302 => ?_) (fun h302 => ?_)
            · replace he := he.trans (if_neg h302)
              refine G.iconst (3) at_311 rfl ?_
              refine G.istore12 at_312 rfl ?_
              refine G.iload at_314 rfl ?_
              refine G.iload at_316 rfl ?_
              refine G.icmp_ge 326 at_318 (by decide) rfl (fun h318 => ?_) (fun h318 => ?_)
              · replace he := he.trans (if_neg h318)
                refine G.iconst (-1) at_326 rfl ?_
                refine G.istore13 at_327 rfl ?_
                refine G.aload at_329 rfl rfl ?_
                refine G.iload at_331 rfl ?_
                refine G.vcall [_] rfl at_333 (hw _ (List.mem_of_getElem? (i := 38) rfl)) (hw _ (List.mem_of_getElem? (i := 39) rfl)) (hw _ (List.mem_of_getElem? (i := 41) rfl)) (hw _ (List.mem_of_getElem? (i := 40) rfl)) (hw _ (List.mem_of_getElem? (i := 4) rfl)) (hw _ (List.mem_of_getElem? (i := 42) rfl)) (by decide) rfl (m_4_1 l Z a0 hw n0 [] _ _ _ _ _ _ _ _) own_pd3 rfl rfl (Nat.le_of_ble_eq_true rfl) (Nat.le_of_ble_eq_true rfl) (Nat.le_of_ble_eq_true rfl) (Nat.le_of_ble_eq_true rfl) (by rintro _ _ ⟨rfl, rfl⟩; rfl) ?_
                rintro _ _ ⟨rfl, rfl⟩
                refine G.iload at_336 rfl ?_
                refine G.icmp_ne 345 at_338 (by decide) rfl (fun h338 => ?_) (fun h338 => ?_)
                · replace he := he.trans (if_neg h338)
                  refine G.iconst (0) at_345 rfl ?_
                  exact G.zreturn rfl at_346 rfl (Nat.le_of_ble_eq_true rfl) (Nat.le_of_ble_eq_true rfl) ⟨congrArg (fun z => some (Value.int z)) he.symm, trivial⟩
                · replace he := he.trans (if_pos h338)
                  refine G.iconst (1) at_341 rfl ?_
                  refine G.goto 346 at_342 (by decide) rfl ?_
                  exact G.zreturn rfl at_346 rfl (Nat.le_of_ble_eq_true rfl) (Nat.le_of_ble_eq_true rfl) ⟨congrArg (fun z => some (Value.int z)) he.symm, trivial⟩
              · replace he := he.trans (if_pos h318)
                refine G.iload at_321 rfl ?_
                refine G.goto 327 at_323 (by decide) rfl ?_
                refine G.istore13 at_327 rfl ?_
                refine G.aload at_329 rfl rfl ?_
                refine G.iload at_331 rfl ?_
                refine G.vcall [_] rfl at_333 (hw _ (List.mem_of_getElem? (i := 38) rfl)) (hw _ (List.mem_of_getElem? (i := 39) rfl)) (hw _ (List.mem_of_getElem? (i := 41) rfl)) (hw _ (List.mem_of_getElem? (i := 40) rfl)) (hw _ (List.mem_of_getElem? (i := 4) rfl)) (hw _ (List.mem_of_getElem? (i := 42) rfl)) (by decide) rfl (m_4_1 l Z a0 hw n0 [] _ _ _ _ _ _ _ _) own_pd3 rfl rfl (Nat.le_of_ble_eq_true rfl) (Nat.le_of_ble_eq_true rfl) (Nat.le_of_ble_eq_true rfl) (Nat.le_of_ble_eq_true rfl) (by rintro _ _ ⟨rfl, rfl⟩; rfl) ?_
                rintro _ _ ⟨rfl, rfl⟩
                refine G.iload at_336 rfl ?_
                refine G.icmp_ne 345 at_338 (by decide) rfl (fun h338 => ?_) (fun h338 => ?_)
                · replace he := he.trans (if_neg h338)
                  refine G.iconst (0) at_345 rfl ?_
                  exact G.zreturn rfl at_346 rfl (Nat.le_of_ble_eq_true rfl) (Nat.le_of_ble_eq_true rfl) ⟨congrArg (fun z => some (Value.int z)) he.symm, trivial⟩
                · replace he := he.trans (if_pos h338)
                  refine G.iconst (1) at_341 rfl ?_
                  refine G.goto 346 at_342 (by decide) rfl ?_
                  exact G.zreturn rfl at_346 rfl (Nat.le_of_ble_eq_true rfl) (Nat.le_of_ble_eq_true rfl) ⟨congrArg (fun z => some (Value.int z)) he.symm, trivial⟩
            · replace he := he.trans (if_pos h302)
              refine G.iconst (2) at_305 rfl ?_
              refine G.istore12 at_306 rfl ?_
              refine G.goto 314 at_308 (by decide) rfl ?_
              refine G.iload at_314 rfl ?_
              refine G.iload at_316 rfl ?_
              refine G.icmp_ge 326 at_318 (by decide) rfl (fun h318 => ?_) (fun h318 => ?_)
              · replace he := he.trans (if_neg h318)
                refine G.iconst (-1) at_326 rfl ?_
                refine G.istore13 at_327 rfl ?_
                refine G.aload at_329 rfl rfl ?_
                refine G.iload at_331 rfl ?_
                refine G.vcall [_] rfl at_333 (hw _ (List.mem_of_getElem? (i := 38) rfl)) (hw _ (List.mem_of_getElem? (i := 39) rfl)) (hw _ (List.mem_of_getElem? (i := 41) rfl)) (hw _ (List.mem_of_getElem? (i := 40) rfl)) (hw _ (List.mem_of_getElem? (i := 4) rfl)) (hw _ (List.mem_of_getElem? (i := 42) rfl)) (by decide) rfl (m_4_1 l Z a0 hw n0 [] _ _ _ _ _ _ _ _) own_pd3 rfl rfl (Nat.le_of_ble_eq_true rfl) (Nat.le_of_ble_eq_true rfl) (Nat.le_of_ble_eq_true rfl) (Nat.le_of_ble_eq_true rfl) (by rintro _ _ ⟨rfl, rfl⟩; rfl) ?_
                rintro _ _ ⟨rfl, rfl⟩
                refine G.iload at_336 rfl ?_
                refine G.icmp_ne 345 at_338 (by decide) rfl (fun h338 => ?_) (fun h338 => ?_)
                · replace he := he.trans (if_neg h338)
                  refine G.iconst (0) at_345 rfl ?_
                  exact G.zreturn rfl at_346 rfl (Nat.le_of_ble_eq_true rfl) (Nat.le_of_ble_eq_true rfl) ⟨congrArg (fun z => some (Value.int z)) he.symm, trivial⟩
                · replace he := he.trans (if_pos h338)
                  refine G.iconst (1) at_341 rfl ?_
                  refine G.goto 346 at_342 (by decide) rfl ?_
                  exact G.zreturn rfl at_346 rfl (Nat.le_of_ble_eq_true rfl) (Nat.le_of_ble_eq_true rfl) ⟨congrArg (fun z => some (Value.int z)) he.symm, trivial⟩
              · replace he := he.trans (if_pos h318)
                refine G.iload at_321 rfl ?_
                refine G.goto 327 at_323 (by decide) rfl ?_
                refine G.istore13 at_327 rfl ?_
                refine G.aload at_329 rfl rfl ?_
                refine G.iload at_331 rfl ?_
                refine G.vcall [_] rfl at_333 (hw _ (List.mem_of_getElem? (i := 38) rfl)) (hw _ (List.mem_of_getElem? (i := 39) rfl)) (hw _ (List.mem_of_getElem? (i := 41) rfl)) (hw _ (List.mem_of_getElem? (i := 40) rfl)) (hw _ (List.mem_of_getElem? (i := 4) rfl)) (hw _ (List.mem_of_getElem? (i := 42) rfl)) (by decide) rfl (m_4_1 l Z a0 hw n0 [] _ _ _ _ _ _ _ _) own_pd3 rfl rfl (Nat.le_of_ble_eq_true rfl) (Nat.le_of_ble_eq_true rfl) (Nat.le_of_ble_eq_true rfl) (Nat.le_of_ble_eq_true rfl) (by rintro _ _ ⟨rfl, rfl⟩; rfl) ?_
                rintro _ _ ⟨rfl, rfl⟩
                refine G.iload at_336 rfl ?_
                refine G.icmp_ne 345 at_338 (by decide) rfl (fun h338 => ?_) (fun h338 => ?_)
                · replace he := he.trans (if_neg h338)
                  refine G.iconst (0) at_345 rfl ?_
                  exact G.zreturn rfl at_346 rfl (Nat.le_of_ble_eq_true rfl) (Nat.le_of_ble_eq_true rfl) ⟨congrArg (fun z => some (Value.int z)) he.symm, trivial⟩
                · replace he := he.trans (if_pos h338)
                  refine G.iconst (1) at_341 rfl ?_
                  refine G.goto 346 at_342 (by decide) rfl ?_
                  exact G.zreturn rfl at_346 rfl (Nat.le_of_ble_eq_true rfl) (Nat.le_of_ble_eq_true rfl) ⟨congrArg (fun z => some (Value.int z)) he.symm, trivial⟩
          · replace he := he.trans (if_pos h282)
            refine G.iconst (1) at_285 rfl ?_
            refine G.istore12 at_286 rfl ?_
            refine G.goto 314 at_288 (by decide) rfl ?_
            refine G.iload at_314 rfl ?_
            refine G.iload at_316 rfl ?_
            refine G.icmp_ge 326 at_318 (by decide) rfl (fun h318 => ?_) (fun h318 => ?_)
            · replace he := he.trans (if_neg h318)
              refine G.iconst (-1) at_326 rfl ?_
              refine G.istore13 at_327 rfl ?_
              refine G.aload at_329 rfl rfl ?_
              refine G.iload at_331 rfl ?_
              refine G.vcall [_] rfl at_333 (hw _ (List.mem_of_getElem? (i := 38) rfl)) (hw _ (List.mem_of_getElem? (i := 39) rfl)) (hw _ (List.mem_of_getElem? (i := 41) rfl)) (hw _ (List.mem_of_getElem? (i := 40) rfl)) (hw _ (List.mem_of_getElem? (i := 4) rfl)) (hw _ (List.mem_of_getElem? (i := 42) rfl)) (by decide) rfl (m_4_1 l Z a0 hw n0 [] _ _ _ _ _ _ _ _) own_pd3 rfl rfl (Nat.le_of_ble_eq_true rfl) (Nat.le_of_ble_eq_true rfl) (Nat.le_of_ble_eq_true rfl) (Nat.le_of_ble_eq_true rfl) (by rintro _ _ ⟨rfl, rfl⟩; rfl) ?_
              rintro _ _ ⟨rfl, rfl⟩
              refine G.iload at_336 rfl ?_
              refine G.icmp_ne 345 at_338 (by decide) rfl (fun h338 => ?_) (fun h338 => ?_)
              · replace he := he.trans (if_neg h338)
                refine G.iconst (0) at_345 rfl ?_
                exact G.zreturn rfl at_346 rfl (Nat.le_of_ble_eq_true rfl) (Nat.le_of_ble_eq_true rfl) ⟨congrArg (fun z => some (Value.int z)) he.symm, trivial⟩
              · replace he := he.trans (if_pos h338)
                refine G.iconst (1) at_341 rfl ?_
                refine G.goto 346 at_342 (by decide) rfl ?_
                exact G.zreturn rfl at_346 rfl (Nat.le_of_ble_eq_true rfl) (Nat.le_of_ble_eq_true rfl) ⟨congrArg (fun z => some (Value.int z)) he.symm, trivial⟩
            · replace he := he.trans (if_pos h318)
              refine G.iload at_321 rfl ?_
              refine G.goto 327 at_323 (by decide) rfl ?_
              refine G.istore13 at_327 rfl ?_
              refine G.aload at_329 rfl rfl ?_
              refine G.iload at_331 rfl ?_
              refine G.vcall [_] rfl at_333 (hw _ (List.mem_of_getElem? (i := 38) rfl)) (hw _ (List.mem_of_getElem? (i := 39) rfl)) (hw _ (List.mem_of_getElem? (i := 41) rfl)) (hw _ (List.mem_of_getElem? (i := 40) rfl)) (hw _ (List.mem_of_getElem? (i := 4) rfl)) (hw _ (List.mem_of_getElem? (i := 42) rfl)) (by decide) rfl (m_4_1 l Z a0 hw n0 [] _ _ _ _ _ _ _ _) own_pd3 rfl rfl (Nat.le_of_ble_eq_true rfl) (Nat.le_of_ble_eq_true rfl) (Nat.le_of_ble_eq_true rfl) (Nat.le_of_ble_eq_true rfl) (by rintro _ _ ⟨rfl, rfl⟩; rfl) ?_
              rintro _ _ ⟨rfl, rfl⟩
              refine G.iload at_336 rfl ?_
              refine G.icmp_ne 345 at_338 (by decide) rfl (fun h338 => ?_) (fun h338 => ?_)
              · replace he := he.trans (if_neg h338)
                refine G.iconst (0) at_345 rfl ?_
                exact G.zreturn rfl at_346 rfl (Nat.le_of_ble_eq_true rfl) (Nat.le_of_ble_eq_true rfl) ⟨congrArg (fun z => some (Value.int z)) he.symm, trivial⟩
              · replace he := he.trans (if_pos h338)
                refine G.iconst (1) at_341 rfl ?_
                refine G.goto 346 at_342 (by decide) rfl ?_
                exact G.zreturn rfl at_346 rfl (Nat.le_of_ble_eq_true rfl) (Nat.le_of_ble_eq_true rfl) ⟨congrArg (fun z => some (Value.int z)) he.symm, trivial⟩
        · replace he := he.trans (if_pos h262)
          refine G.iconst (0) at_265 rfl ?_
          refine G.istore12 at_266 rfl ?_
          refine G.goto 314 at_268 (by decide) rfl ?_
          refine G.iload at_314 rfl ?_
          refine G.iload at_316 rfl ?_
          refine G.icmp_ge 326 at_318 (by decide) rfl (fun h318 => ?_) (fun h318 => ?_)
          · replace he := he.trans (if_neg h318)
            refine G.iconst (-1) at_326 rfl ?_
            refine G.istore13 at_327 rfl ?_
            refine G.aload at_329 rfl rfl ?_
            refine G.iload at_331 rfl ?_
            refine G.vcall [_] rfl at_333 (hw _ (List.mem_of_getElem? (i := 38) rfl)) (hw _ (List.mem_of_getElem? (i := 39) rfl)) (hw _ (List.mem_of_getElem? (i := 41) rfl)) (hw _ (List.mem_of_getElem? (i := 40) rfl)) (hw _ (List.mem_of_getElem? (i := 4) rfl)) (hw _ (List.mem_of_getElem? (i := 42) rfl)) (by decide) rfl (m_4_1 l Z a0 hw n0 [] _ _ _ _ _ _ _ _) own_pd3 rfl rfl (Nat.le_of_ble_eq_true rfl) (Nat.le_of_ble_eq_true rfl) (Nat.le_of_ble_eq_true rfl) (Nat.le_of_ble_eq_true rfl) (by rintro _ _ ⟨rfl, rfl⟩; rfl) ?_
            rintro _ _ ⟨rfl, rfl⟩
            refine G.iload at_336 rfl ?_
            refine G.icmp_ne 345 at_338 (by decide) rfl (fun h338 => ?_) (fun h338 => ?_)
            · replace he := he.trans (if_neg h338)
              refine G.iconst (0) at_345 rfl ?_
              exact G.zreturn rfl at_346 rfl (Nat.le_of_ble_eq_true rfl) (Nat.le_of_ble_eq_true rfl) ⟨congrArg (fun z => some (Value.int z)) he.symm, trivial⟩
            · replace he := he.trans (if_pos h338)
              refine G.iconst (1) at_341 rfl ?_
              refine G.goto 346 at_342 (by decide) rfl ?_
              exact G.zreturn rfl at_346 rfl (Nat.le_of_ble_eq_true rfl) (Nat.le_of_ble_eq_true rfl) ⟨congrArg (fun z => some (Value.int z)) he.symm, trivial⟩
          · replace he := he.trans (if_pos h318)
            refine G.iload at_321 rfl ?_
            refine G.goto 327 at_323 (by decide) rfl ?_
            refine G.istore13 at_327 rfl ?_
            refine G.aload at_329 rfl rfl ?_
            refine G.iload at_331 rfl ?_
            refine G.vcall [_] rfl at_333 (hw _ (List.mem_of_getElem? (i := 38) rfl)) (hw _ (List.mem_of_getElem? (i := 39) rfl)) (hw _ (List.mem_of_getElem? (i := 41) rfl)) (hw _ (List.mem_of_getElem? (i := 40) rfl)) (hw _ (List.mem_of_getElem? (i := 4) rfl)) (hw _ (List.mem_of_getElem? (i := 42) rfl)) (by decide) rfl (m_4_1 l Z a0 hw n0 [] _ _ _ _ _ _ _ _) own_pd3 rfl rfl (Nat.le_of_ble_eq_true rfl) (Nat.le_of_ble_eq_true rfl) (Nat.le_of_ble_eq_true rfl) (Nat.le_of_ble_eq_true rfl) (by rintro _ _ ⟨rfl, rfl⟩; rfl) ?_
            rintro _ _ ⟨rfl, rfl⟩
            refine G.iload at_336 rfl ?_
            refine G.icmp_ne 345 at_338 (by decide) rfl (fun h338 => ?_) (fun h338 => ?_)
            · replace he := he.trans (if_neg h338)
              refine G.iconst (0) at_345 rfl ?_
              exact G.zreturn rfl at_346 rfl (Nat.le_of_ble_eq_true rfl) (Nat.le_of_ble_eq_true rfl) ⟨congrArg (fun z => some (Value.int z)) he.symm, trivial⟩
            · replace he := he.trans (if_pos h338)
              refine G.iconst (1) at_341 rfl ?_
              refine G.goto 346 at_342 (by decide) rfl ?_
              exact G.zreturn rfl at_346 rfl (Nat.le_of_ble_eq_true rfl) (Nat.le_of_ble_eq_true rfl) ⟨congrArg (fun z => some (Value.int z)) he.symm, trivial⟩
      · replace he := he.trans (if_neg h238)
        refine G.iloadN at_241 rfl ?_
        refine G.goto 249 at_242 (by decide) rfl ?_
        refine G.istore11 at_249 rfl ?_
        refine G.iloadN at_251 rfl ?_
        refine G.iload at_252 rfl ?_
        refine G.iload at_254 rfl ?_
        refine G.iload at_256 rfl ?_
        refine G.iconst (0) at_258 rfl ?_
        refine G.scall [_, _, _, _, _] rfl at_259 (hw _ (List.mem_of_getElem? (i := 34) rfl)) (hw _ (List.mem_of_getElem? (i := 35) rfl)) (hw _ (List.mem_of_getElem? (i := 36) rfl)) (hw _ (List.mem_of_getElem? (i := 37) rfl)) (by decide) (m_3 l Z a0 hw n0 [] _ _ _ _ _ _) own_pd2 rfl rfl (Nat.le_of_ble_eq_true rfl) (Nat.le_of_ble_eq_true rfl) (Nat.le_of_ble_eq_true rfl) (Nat.le_of_ble_eq_true rfl) (by rintro _ _ ⟨rfl, rfl⟩; rfl) ?_
        rintro _ _ ⟨rfl, rfl⟩
        refine G.if_ne 271 at_262 (by decide) rfl (fun h262 => ?_) (fun h262 => ?_)
        · replace he := he.trans (if_neg h262)
          refine G.iloadN at_271 rfl ?_
          refine G.iload at_272 rfl ?_
          refine G.iload at_274 rfl ?_
          refine G.iload at_276 rfl ?_
          refine G.iconst (1) at_278 rfl ?_
          refine G.scall [_, _, _, _, _] rfl at_279 (hw _ (List.mem_of_getElem? (i := 34) rfl)) (hw _ (List.mem_of_getElem? (i := 35) rfl)) (hw _ (List.mem_of_getElem? (i := 36) rfl)) (hw _ (List.mem_of_getElem? (i := 37) rfl)) (by decide) (m_3 l Z a0 hw n0 [] _ _ _ _ _ _) own_pd2 rfl rfl (Nat.le_of_ble_eq_true rfl) (Nat.le_of_ble_eq_true rfl) (Nat.le_of_ble_eq_true rfl) (Nat.le_of_ble_eq_true rfl) (by rintro _ _ ⟨rfl, rfl⟩; rfl) ?_
          rintro _ _ ⟨rfl, rfl⟩
          refine G.if_ne 291 at_282 (by decide) rfl (fun h282 => ?_) (fun h282 => ?_)
          · replace he := he.trans (if_neg h282)
            refine G.iloadN at_291 rfl ?_
            refine G.iload at_292 rfl ?_
            refine G.iload at_294 rfl ?_
            refine G.iload at_296 rfl ?_
            refine G.iconst (2) at_298 rfl ?_
            refine G.scall [_, _, _, _, _] rfl at_299 (hw _ (List.mem_of_getElem? (i := 34) rfl)) (hw _ (List.mem_of_getElem? (i := 35) rfl)) (hw _ (List.mem_of_getElem? (i := 36) rfl)) (hw _ (List.mem_of_getElem? (i := 37) rfl)) (by decide) (m_3 l Z a0 hw n0 [] _ _ _ _ _ _) own_pd2 rfl rfl (Nat.le_of_ble_eq_true rfl) (Nat.le_of_ble_eq_true rfl) (Nat.le_of_ble_eq_true rfl) (Nat.le_of_ble_eq_true rfl) (by rintro _ _ ⟨rfl, rfl⟩; rfl) ?_
            rintro _ _ ⟨rfl, rfl⟩
            refine G.if_ne 311 at_302 (by decide) rfl (fun h302 => ?_) (fun h302 => ?_)
            · replace he := he.trans (if_neg h302)
              refine G.iconst (3) at_311 rfl ?_
              refine G.istore12 at_312 rfl ?_
              refine G.iload at_314 rfl ?_
              refine G.iload at_316 rfl ?_
              refine G.icmp_ge 326 at_318 (by decide) rfl (fun h318 => ?_) (fun h318 => ?_)
              · replace he := he.trans (if_neg h318)
                refine G.iconst (-1) at_326 rfl ?_
                refine G.istore13 at_327 rfl ?_
                refine G.aload at_329 rfl rfl ?_
                refine G.iload at_331 rfl ?_
                refine G.vcall [_] rfl at_333 (hw _ (List.mem_of_getElem? (i := 38) rfl)) (hw _ (List.mem_of_getElem? (i := 39) rfl)) (hw _ (List.mem_of_getElem? (i := 41) rfl)) (hw _ (List.mem_of_getElem? (i := 40) rfl)) (hw _ (List.mem_of_getElem? (i := 4) rfl)) (hw _ (List.mem_of_getElem? (i := 42) rfl)) (by decide) rfl (m_4_1 l Z a0 hw n0 [] _ _ _ _ _ _ _ _) own_pd3 rfl rfl (Nat.le_of_ble_eq_true rfl) (Nat.le_of_ble_eq_true rfl) (Nat.le_of_ble_eq_true rfl) (Nat.le_of_ble_eq_true rfl) (by rintro _ _ ⟨rfl, rfl⟩; rfl) ?_
                rintro _ _ ⟨rfl, rfl⟩
                refine G.iload at_336 rfl ?_
                refine G.icmp_ne 345 at_338 (by decide) rfl (fun h338 => ?_) (fun h338 => ?_)
                · replace he := he.trans (if_neg h338)
                  refine G.iconst (0) at_345 rfl ?_
                  exact G.zreturn rfl at_346 rfl (Nat.le_of_ble_eq_true rfl) (Nat.le_of_ble_eq_true rfl) ⟨congrArg (fun z => some (Value.int z)) he.symm, trivial⟩
                · replace he := he.trans (if_pos h338)
                  refine G.iconst (1) at_341 rfl ?_
                  refine G.goto 346 at_342 (by decide) rfl ?_
                  exact G.zreturn rfl at_346 rfl (Nat.le_of_ble_eq_true rfl) (Nat.le_of_ble_eq_true rfl) ⟨congrArg (fun z => some (Value.int z)) he.symm, trivial⟩
              · replace he := he.trans (if_pos h318)
                refine G.iload at_321 rfl ?_
                refine G.goto 327 at_323 (by decide) rfl ?_
                refine G.istore13 at_327 rfl ?_
                refine G.aload at_329 rfl rfl ?_
                refine G.iload at_331 rfl ?_
                refine G.vcall [_] rfl at_333 (hw _ (List.mem_of_getElem? (i := 38) rfl)) (hw _ (List.mem_of_getElem? (i := 39) rfl)) (hw _ (List.mem_of_getElem? (i := 41) rfl)) (hw _ (List.mem_of_getElem? (i := 40) rfl)) (hw _ (List.mem_of_getElem? (i := 4) rfl)) (hw _ (List.mem_of_getElem? (i := 42) rfl)) (by decide) rfl (m_4_1 l Z a0 hw n0 [] _ _ _ _ _ _ _ _) own_pd3 rfl rfl (Nat.le_of_ble_eq_true rfl) (Nat.le_of_ble_eq_true rfl) (Nat.le_of_ble_eq_true rfl) (Nat.le_of_ble_eq_true rfl) (by rintro _ _ ⟨rfl, rfl⟩; rfl) ?_
                rintro _ _ ⟨rfl, rfl⟩
                refine G.iload at_336 rfl ?_
                refine G.icmp_ne 345 at_338 (by decide) rfl (fun h338 => ?_) (fun h338 => ?_)
                · replace he := he.trans (if_neg h338)
                  refine G.iconst (0) at_345 rfl ?_
                  exact G.zreturn rfl at_346 rfl (Nat.le_of_ble_eq_true rfl) (Nat.le_of_ble_eq_true rfl) ⟨congrArg (fun z => some (Value.int z)) he.symm, trivial⟩
                · replace he := he.trans (if_pos h338)
                  refine G.iconst (1) at_341 rfl ?_
                  refine G.goto 346 at_342 (by decide) rfl ?_
                  exact G.zreturn rfl at_346 rfl (Nat.le_of_ble_eq_true rfl) (Nat.le_of_ble_eq_true rfl) ⟨congrArg (fun z => some (Value.int z)) he.symm, trivial⟩
            · replace he := he.trans (if_pos h302)
              refine G.iconst (2) at_305 rfl ?_
              refine G.istore12 at_306 rfl ?_
              refine G.goto 314 at_308 (by decide) rfl ?_
              refine G.iload at_314 rfl ?_
              refine G.iload at_316 rfl ?_
              refine G.icmp_ge 326 at_318 (by decide) rfl (fun h318 => ?_) (fun h318 => ?_)
              · replace he := he.trans (if_neg h318)
                refine G.iconst (-1) at_326 rfl ?_
                refine G.istore13 at_327 rfl ?_
                refine G.aload at_329 rfl rfl ?_
                refine G.iload at_331 rfl ?_
                refine G.vcall [_] rfl at_333 (hw _ (List.mem_of_getElem? (i := 38) rfl)) (hw _ (List.mem_of_getElem? (i := 39) rfl)) (hw _ (List.mem_of_getElem? (i := 41) rfl)) (hw _ (List.mem_of_getElem? (i := 40) rfl)) (hw _ (List.mem_of_getElem? (i := 4) rfl)) (hw _ (List.mem_of_getElem? (i := 42) rfl)) (by decide) rfl (m_4_1 l Z a0 hw n0 [] _ _ _ _ _ _ _ _) own_pd3 rfl rfl (Nat.le_of_ble_eq_true rfl) (Nat.le_of_ble_eq_true rfl) (Nat.le_of_ble_eq_true rfl) (Nat.le_of_ble_eq_true rfl) (by rintro _ _ ⟨rfl, rfl⟩; rfl) ?_
                rintro _ _ ⟨rfl, rfl⟩
                refine G.iload at_336 rfl ?_
                refine G.icmp_ne 345 at_338 (by decide) rfl (fun h338 => ?_) (fun h338 => ?_)
                · replace he := he.trans (if_neg h338)
                  refine G.iconst (0) at_345 rfl ?_
                  exact G.zreturn rfl at_346 rfl (Nat.le_of_ble_eq_true rfl) (Nat.le_of_ble_eq_true rfl) ⟨congrArg (fun z => some (Value.int z)) he.symm, trivial⟩
                · replace he := he.trans (if_pos h338)
                  refine G.iconst (1) at_341 rfl ?_
                  refine G.goto 346 at_342 (by decide) rfl ?_
                  exact G.zreturn rfl at_346 rfl (Nat.le_of_ble_eq_true rfl) (Nat.le_of_ble_eq_true rfl) ⟨congrArg (fun z => some (Value.int z)) he.symm, trivial⟩
              · replace he := he.trans (if_pos h318)
                refine G.iload at_321 rfl ?_
                refine G.goto 327 at_323 (by decide) rfl ?_
                refine G.istore13 at_327 rfl ?_
                refine G.aload at_329 rfl rfl ?_
                refine G.iload at_331 rfl ?_
                refine G.vcall [_] rfl at_333 (hw _ (List.mem_of_getElem? (i := 38) rfl)) (hw _ (List.mem_of_getElem? (i := 39) rfl)) (hw _ (List.mem_of_getElem? (i := 41) rfl)) (hw _ (List.mem_of_getElem? (i := 40) rfl)) (hw _ (List.mem_of_getElem? (i := 4) rfl)) (hw _ (List.mem_of_getElem? (i := 42) rfl)) (by decide) rfl (m_4_1 l Z a0 hw n0 [] _ _ _ _ _ _ _ _) own_pd3 rfl rfl (Nat.le_of_ble_eq_true rfl) (Nat.le_of_ble_eq_true rfl) (Nat.le_of_ble_eq_true rfl) (Nat.le_of_ble_eq_true rfl) (by rintro _ _ ⟨rfl, rfl⟩; rfl) ?_
                rintro _ _ ⟨rfl, rfl⟩
                refine G.iload at_336 rfl ?_
                refine G.icmp_ne 345 at_338 (by decide) rfl (fun h338 => ?_) (fun h338 => ?_)
                · replace he := he.trans (if_neg h338)
                  refine G.iconst (0) at_345 rfl ?_
                  exact G.zreturn rfl at_346 rfl (Nat.le_of_ble_eq_true rfl) (Nat.le_of_ble_eq_true rfl) ⟨congrArg (fun z => some (Value.int z)) he.symm, trivial⟩
                · replace he := he.trans (if_pos h338)
                  refine G.iconst (1) at_341 rfl ?_
                  refine G.goto 346 at_342 (by decide) rfl ?_
                  exact G.zreturn rfl at_346 rfl (Nat.le_of_ble_eq_true rfl) (Nat.le_of_ble_eq_true rfl) ⟨congrArg (fun z => some (Value.int z)) he.symm, trivial⟩
          · replace he := he.trans (if_pos h282)
            refine G.iconst (1) at_285 rfl ?_
            refine G.istore12 at_286 rfl ?_
            refine G.goto 314 at_288 (by decide) rfl ?_
            refine G.iload at_314 rfl ?_
            refine G.iload at_316 rfl ?_
            refine G.icmp_ge 326 at_318 (by decide) rfl (fun h318 => ?_) (fun h318 => ?_)
            · replace he := he.trans (if_neg h318)
              refine G.iconst (-1) at_326 rfl ?_
              refine G.istore13 at_327 rfl ?_
              refine G.aload at_329 rfl rfl ?_
              refine G.iload at_331 rfl ?_
              refine G.vcall [_] rfl at_333 (hw _ (List.mem_of_getElem? (i := 38) rfl)) (hw _ (List.mem_of_getElem? (i := 39) rfl)) (hw _ (List.mem_of_getElem? (i := 41) rfl)) (hw _ (List.mem_of_getElem? (i := 40) rfl)) (hw _ (List.mem_of_getElem? (i := 4) rfl)) (hw _ (List.mem_of_getElem? (i := 42) rfl)) (by decide) rfl (m_4_1 l Z a0 hw n0 [] _ _ _ _ _ _ _ _) own_pd3 rfl rfl (Nat.le_of_ble_eq_true rfl) (Nat.le_of_ble_eq_true rfl) (Nat.le_of_ble_eq_true rfl) (Nat.le_of_ble_eq_true rfl) (by rintro _ _ ⟨rfl, rfl⟩; rfl) ?_
              rintro _ _ ⟨rfl, rfl⟩
              refine G.iload at_336 rfl ?_
              refine G.icmp_ne 345 at_338 (by decide) rfl (fun h338 => ?_) (fun h338 => ?_)
              · replace he := he.trans (if_neg h338)
                refine G.iconst (0) at_345 rfl ?_
                exact G.zreturn rfl at_346 rfl (Nat.le_of_ble_eq_true rfl) (Nat.le_of_ble_eq_true rfl) ⟨congrArg (fun z => some (Value.int z)) he.symm, trivial⟩
              · replace he := he.trans (if_pos h338)
                refine G.iconst (1) at_341 rfl ?_
                refine G.goto 346 at_342 (by decide) rfl ?_
                exact G.zreturn rfl at_346 rfl (Nat.le_of_ble_eq_true rfl) (Nat.le_of_ble_eq_true rfl) ⟨congrArg (fun z => some (Value.int z)) he.symm, trivial⟩
            · replace he := he.trans (if_pos h318)
              refine G.iload at_321 rfl ?_
              refine G.goto 327 at_323 (by decide) rfl ?_
              refine G.istore13 at_327 rfl ?_
              refine G.aload at_329 rfl rfl ?_
              refine G.iload at_331 rfl ?_
              refine G.vcall [_] rfl at_333 (hw _ (List.mem_of_getElem? (i := 38) rfl)) (hw _ (List.mem_of_getElem? (i := 39) rfl)) (hw _ (List.mem_of_getElem? (i := 41) rfl)) (hw _ (List.mem_of_getElem? (i := 40) rfl)) (hw _ (List.mem_of_getElem? (i := 4) rfl)) (hw _ (List.mem_of_getElem? (i := 42) rfl)) (by decide) rfl (m_4_1 l Z a0 hw n0 [] _ _ _ _ _ _ _ _) own_pd3 rfl rfl (Nat.le_of_ble_eq_true rfl) (Nat.le_of_ble_eq_true rfl) (Nat.le_of_ble_eq_true rfl) (Nat.le_of_ble_eq_true rfl) (by rintro _ _ ⟨rfl, rfl⟩; rfl) ?_
              rintro _ _ ⟨rfl, rfl⟩
              refine G.iload at_336 rfl ?_
              refine G.icmp_ne 345 at_338 (by decide) rfl (fun h338 => ?_) (fun h338 => ?_)
              · replace he := he.trans (if_neg h338)
                refine G.iconst (0) at_345 rfl ?_
                exact G.zreturn rfl at_346 rfl (Nat.le_of_ble_eq_true rfl) (Nat.le_of_ble_eq_true rfl) ⟨congrArg (fun z => some (Value.int z)) he.symm, trivial⟩
              · replace he := he.trans (if_pos h338)
                refine G.iconst (1) at_341 rfl ?_
                refine G.goto 346 at_342 (by decide) rfl ?_
                exact G.zreturn rfl at_346 rfl (Nat.le_of_ble_eq_true rfl) (Nat.le_of_ble_eq_true rfl) ⟨congrArg (fun z => some (Value.int z)) he.symm, trivial⟩
        · replace he := he.trans (if_pos h262)
          refine G.iconst (0) at_265 rfl ?_
          refine G.istore12 at_266 rfl ?_
          refine G.goto 314 at_268 (by decide) rfl ?_
          refine G.iload at_314 rfl ?_
          refine G.iload at_316 rfl ?_
          refine G.icmp_ge 326 at_318 (by decide) rfl (fun h318 => ?_) (fun h318 => ?_)
          · replace he := he.trans (if_neg h318)
            refine G.iconst (-1) at_326 rfl ?_
            refine G.istore13 at_327 rfl ?_
            refine G.aload at_329 rfl rfl ?_
            refine G.iload at_331 rfl ?_
            refine G.vcall [_] rfl at_333 (hw _ (List.mem_of_getElem? (i := 38) rfl)) (hw _ (List.mem_of_getElem? (i := 39) rfl)) (hw _ (List.mem_of_getElem? (i := 41) rfl)) (hw _ (List.mem_of_getElem? (i := 40) rfl)) (hw _ (List.mem_of_getElem? (i := 4) rfl)) (hw _ (List.mem_of_getElem? (i := 42) rfl)) (by decide) rfl (m_4_1 l Z a0 hw n0 [] _ _ _ _ _ _ _ _) own_pd3 rfl rfl (Nat.le_of_ble_eq_true rfl) (Nat.le_of_ble_eq_true rfl) (Nat.le_of_ble_eq_true rfl) (Nat.le_of_ble_eq_true rfl) (by rintro _ _ ⟨rfl, rfl⟩; rfl) ?_
            rintro _ _ ⟨rfl, rfl⟩
            refine G.iload at_336 rfl ?_
            refine G.icmp_ne 345 at_338 (by decide) rfl (fun h338 => ?_) (fun h338 => ?_)
            · replace he := he.trans (if_neg h338)
              refine G.iconst (0) at_345 rfl ?_
              exact G.zreturn rfl at_346 rfl (Nat.le_of_ble_eq_true rfl) (Nat.le_of_ble_eq_true rfl) ⟨congrArg (fun z => some (Value.int z)) he.symm, trivial⟩
            · replace he := he.trans (if_pos h338)
              refine G.iconst (1) at_341 rfl ?_
              refine G.goto 346 at_342 (by decide) rfl ?_
              exact G.zreturn rfl at_346 rfl (Nat.le_of_ble_eq_true rfl) (Nat.le_of_ble_eq_true rfl) ⟨congrArg (fun z => some (Value.int z)) he.symm, trivial⟩
          · replace he := he.trans (if_pos h318)
            refine G.iload at_321 rfl ?_
            refine G.goto 327 at_323 (by decide) rfl ?_
            refine G.istore13 at_327 rfl ?_
            refine G.aload at_329 rfl rfl ?_
            refine G.iload at_331 rfl ?_
            refine G.vcall [_] rfl at_333 (hw _ (List.mem_of_getElem? (i := 38) rfl)) (hw _ (List.mem_of_getElem? (i := 39) rfl)) (hw _ (List.mem_of_getElem? (i := 41) rfl)) (hw _ (List.mem_of_getElem? (i := 40) rfl)) (hw _ (List.mem_of_getElem? (i := 4) rfl)) (hw _ (List.mem_of_getElem? (i := 42) rfl)) (by decide) rfl (m_4_1 l Z a0 hw n0 [] _ _ _ _ _ _ _ _) own_pd3 rfl rfl (Nat.le_of_ble_eq_true rfl) (Nat.le_of_ble_eq_true rfl) (Nat.le_of_ble_eq_true rfl) (Nat.le_of_ble_eq_true rfl) (by rintro _ _ ⟨rfl, rfl⟩; rfl) ?_
            rintro _ _ ⟨rfl, rfl⟩
            refine G.iload at_336 rfl ?_
            refine G.icmp_ne 345 at_338 (by decide) rfl (fun h338 => ?_) (fun h338 => ?_)
            · replace he := he.trans (if_neg h338)
              refine G.iconst (0) at_345 rfl ?_
              exact G.zreturn rfl at_346 rfl (Nat.le_of_ble_eq_true rfl) (Nat.le_of_ble_eq_true rfl) ⟨congrArg (fun z => some (Value.int z)) he.symm, trivial⟩
            · replace he := he.trans (if_pos h338)
              refine G.iconst (1) at_341 rfl ?_
              refine G.goto 346 at_342 (by decide) rfl ?_
              exact G.zreturn rfl at_346 rfl (Nat.le_of_ble_eq_true rfl) (Nat.le_of_ble_eq_true rfl) ⟨congrArg (fun z => some (Value.int z)) he.symm, trivial⟩
    · replace he := he.trans ((if_neg (by decide)).trans ((if_neg (by decide)).trans (if_pos rfl)))
      refine G.iloadN at_4 rfl ?_
      refine G.iconst (3) at_5 rfl ?_
      refine G.icmp_ne 19 at_6 (by decide) rfl (fun _ => ?_) (fun h6 => absurd h6 (by decide))
      refine G.iloadN at_19 rfl ?_
      refine G.iconst (3) at_20 rfl ?_
      refine G.icmp_le 26 at_21 (by decide) rfl (fun _ => ?_) (fun h21 => absurd h21 (by decide))
      refine G.iloadN at_26 rfl ?_
      refine G.iconst (2) at_27 rfl ?_
      refine G.ishr at_28 ?_
      refine G.iconst (3) at_29 rfl ?_
      refine G.iand at_30 ?_
      refine G.istore4 at_31 rfl ?_
      refine G.iload at_33 rfl ?_
      refine G.iconst (1) at_35 rfl ?_
      refine G.iadd at_36 ?_
      refine G.iloadN at_37 rfl ?_
      refine G.iconst (4) at_38 rfl ?_
      refine G.ishr at_39 ?_
      refine G.iconst (3) at_40 rfl ?_
      refine G.iand at_41 ?_
      refine G.iadd at_42 ?_
      refine G.istore5 at_43 rfl ?_
      refine G.iload at_45 rfl ?_
      refine G.iconst (1) at_47 rfl ?_
      refine G.iadd at_48 ?_
      refine G.iloadN at_49 rfl ?_
      refine G.bipush (6) at_50 rfl ?_
      refine G.ishr at_52 ?_
      refine G.iconst (3) at_53 rfl ?_
      refine G.iand at_54 ?_
      refine G.iadd at_55 ?_
      refine G.istore6 at_56 rfl ?_
      refine G.iloadN at_58 rfl ?_
      refine G.if_ne 80 at_59 (by decide) rfl (fun _ => ?_) (fun h59 => absurd h59 (by decide))
      refine G.iloadN at_80 rfl ?_
      refine G.iconst (1) at_81 rfl ?_
      refine G.icmp_ne 116 at_82 (by decide) rfl (fun _ => ?_) (fun h82 => absurd h82 (by decide))
      refine G.iloadN at_116 rfl ?_
      refine G.iconst (2) at_117 rfl ?_
      refine G.icmp_ne 165 at_118 (by decide) rfl (fun h118 => absurd h118 (by decide)) (fun _ => ?_)
      refine G.iconst (2) at_121 rfl ?_
      refine G.newarr 2 2 at_122 (hw _ (List.mem_of_getElem? (i := 0) rfl)) (by decide) (Nat.le_of_ble_eq_true rfl) (by decide) (Nat.le_of_ble_eq_true rfl) (Nat.le_of_ble_eq_true rfl) rfl ?_
      try simp only [List.set_cons_zero, List.set_cons_succ, List.length_cons, List.length_nil, List.nil_append, List.cons_append, Nat.zero_add, Nat.reduceAdd]
      refine G.dup at_124 rfl ?_
      refine G.iconst (0) at_125 rfl ?_
      refine G.iload at_126 rfl ?_
      refine G.iast (0) at_128 rfl (by decide) (Nat.le_of_ble_eq_true rfl) ?_
      try simp only [List.set_cons_zero, List.set_cons_succ, List.length_cons, List.length_nil, List.nil_append, List.cons_append, Nat.zero_add, Nat.reduceAdd]
      refine G.dup at_129 rfl ?_
      refine G.iconst (1) at_130 rfl ?_
      refine G.iload at_131 rfl ?_
      refine G.iast (1) at_133 rfl (by decide) (Nat.le_of_ble_eq_true rfl) ?_
      try simp only [List.set_cons_zero, List.set_cons_succ, List.length_cons, List.length_nil, List.nil_append, List.cons_append, Nat.zero_add, Nat.reduceAdd]
      refine G.astore7 at_134 rfl rfl ?_
      refine G.iconst (2) at_136 rfl ?_
      refine G.newarr 2 2 at_137 (hw _ (List.mem_of_getElem? (i := 1) rfl)) (by decide) (Nat.le_of_ble_eq_true rfl) (by decide) (Nat.le_of_ble_eq_true rfl) (Nat.le_of_ble_eq_true rfl) rfl ?_
      try simp only [List.set_cons_zero, List.set_cons_succ, List.length_cons, List.length_nil, List.nil_append, List.cons_append, Nat.zero_add, Nat.reduceAdd]
      refine G.dup at_139 rfl ?_
      refine G.iconst (0) at_140 rfl ?_
      refine G.lconst (1) at_141 rfl ?_
      refine G.last (0) at_142 rfl (by decide) (Nat.le_of_ble_eq_true rfl) ?_
      try simp only [List.set_cons_zero, List.set_cons_succ, List.length_cons, List.length_nil, List.nil_append, List.cons_append, Nat.zero_add, Nat.reduceAdd]
      refine G.dup at_143 rfl ?_
      refine G.iconst (1) at_144 rfl ?_
      refine G.lconst (1) at_145 rfl ?_
      refine G.last (1) at_146 rfl (by decide) (Nat.le_of_ble_eq_true rfl) ?_
      try simp only [List.set_cons_zero, List.set_cons_succ, List.length_cons, List.length_nil, List.nil_append, List.cons_append, Nat.zero_add, Nat.reduceAdd]
      refine G.astore8 at_147 rfl rfl ?_
      refine G.iconst (2) at_149 rfl ?_
      refine G.newarr 2 2 at_150 (hw _ (List.mem_of_getElem? (i := 1) rfl)) (by decide) (Nat.le_of_ble_eq_true rfl) (by decide) (Nat.le_of_ble_eq_true rfl) (Nat.le_of_ble_eq_true rfl) rfl ?_
      try simp only [List.set_cons_zero, List.set_cons_succ, List.length_cons, List.length_nil, List.nil_append, List.cons_append, Nat.zero_add, Nat.reduceAdd]
      refine G.dup at_152 rfl ?_
      refine G.iconst (0) at_153 rfl ?_
      refine G.lconst (0) at_154 rfl ?_
      refine G.last (0) at_155 rfl (by decide) (Nat.le_of_ble_eq_true rfl) ?_
      try simp only [List.set_cons_zero, List.set_cons_succ, List.length_cons, List.length_nil, List.nil_append, List.cons_append, Nat.zero_add, Nat.reduceAdd]
      refine G.dup at_156 rfl ?_
      refine G.iconst (1) at_157 rfl ?_
      refine G.lconst (0) at_158 rfl ?_
      refine G.last (1) at_159 rfl (by decide) (Nat.le_of_ble_eq_true rfl) ?_
      try simp only [List.set_cons_zero, List.set_cons_succ, List.length_cons, List.length_nil, List.nil_append, List.cons_append, Nat.zero_add, Nat.reduceAdd]
      refine G.astore9 at_160 rfl rfl ?_
      refine G.goto 219 at_162 (by decide) rfl ?_
      refine G.newo at_219 (hw _ (List.mem_of_getElem? (i := 2) rfl)) (hw _ (List.mem_of_getElem? (i := 3) rfl)) (hw _ (List.mem_of_getElem? (i := 4) rfl)) (own_fo Z a0 hw) (Nat.le_of_ble_eq_true rfl) (Nat.le_of_ble_eq_true rfl) ?_
      try simp only [List.set_cons_zero, List.set_cons_succ, List.length_cons, List.length_nil, List.nil_append, List.cons_append, Nat.zero_add, Nat.reduceAdd]
      refine G.dup at_222 rfl ?_
      refine G.aload at_223 rfl rfl ?_
      refine G.aload at_225 rfl rfl ?_
      refine G.aload at_227 rfl rfl ?_
      refine G.lconst (0) at_229 rfl ?_
      refine G.ncall [_, _, _, _] rfl at_230 rfl (hw _ (List.mem_of_getElem? (i := 5) rfl)) (hw _ (List.mem_of_getElem? (i := 6) rfl)) (hw _ (List.mem_of_getElem? (i := 4) rfl)) (hw _ (List.mem_of_getElem? (i := 7) rfl)) (by decide) (m_1_2 l Z a0 hw n0 [] _ _ _ _ _ _ _ (own_q _ 0 0).1.1 (own_q _ 0 0).1.2 (by decide) (by decide) (own_q _ _ 0).2.1.1 (own_q _ _ 0).2.1.2 (by decide) (by decide) (by decide)) own_pd1 rfl rfl (Nat.le_of_ble_eq_true rfl) (Nat.le_of_ble_eq_true rfl) (Nat.le_of_ble_eq_true rfl) (Nat.le_of_ble_eq_true rfl) (by rintro _ _ ⟨rfl, rfl⟩; rfl) ?_
      rintro _ _ ⟨rfl, rfl⟩
      refine G.astore10 at_233 rfl rfl ?_
      refine G.iloadN at_235 rfl ?_
      refine G.iconst (1) at_236 rfl ?_
      refine G.iand at_237 ?_
      refine G.if_eq 245 at_238 (by decide) rfl (fun h238 => ?_) (fun h238 => ?_)
      · replace he := he.trans (if_pos h238)
        refine G.iloadN at_245 rfl ?_
        refine G.bipush (6) at_246 rfl ?_
        refine G.irem at_248 (by decide) ?_
        refine G.istore11 at_249 rfl ?_
        refine G.iloadN at_251 rfl ?_
        refine G.iload at_252 rfl ?_
        refine G.iload at_254 rfl ?_
        refine G.iload at_256 rfl ?_
        refine G.iconst (0) at_258 rfl ?_
        refine G.scall [_, _, _, _, _] rfl at_259 (hw _ (List.mem_of_getElem? (i := 34) rfl)) (hw _ (List.mem_of_getElem? (i := 35) rfl)) (hw _ (List.mem_of_getElem? (i := 36) rfl)) (hw _ (List.mem_of_getElem? (i := 37) rfl)) (by decide) (m_3 l Z a0 hw n0 [] _ _ _ _ _ _) own_pd2 rfl rfl (Nat.le_of_ble_eq_true rfl) (Nat.le_of_ble_eq_true rfl) (Nat.le_of_ble_eq_true rfl) (Nat.le_of_ble_eq_true rfl) (by rintro _ _ ⟨rfl, rfl⟩; rfl) ?_
        rintro _ _ ⟨rfl, rfl⟩
        refine G.if_ne 271 at_262 (by decide) rfl (fun h262 => ?_) (fun h262 => ?_)
        · replace he := he.trans (if_neg h262)
          refine G.iloadN at_271 rfl ?_
          refine G.iload at_272 rfl ?_
          refine G.iload at_274 rfl ?_
          refine G.iload at_276 rfl ?_
          refine G.iconst (1) at_278 rfl ?_
          refine G.scall [_, _, _, _, _] rfl at_279 (hw _ (List.mem_of_getElem? (i := 34) rfl)) (hw _ (List.mem_of_getElem? (i := 35) rfl)) (hw _ (List.mem_of_getElem? (i := 36) rfl)) (hw _ (List.mem_of_getElem? (i := 37) rfl)) (by decide) (m_3 l Z a0 hw n0 [] _ _ _ _ _ _) own_pd2 rfl rfl (Nat.le_of_ble_eq_true rfl) (Nat.le_of_ble_eq_true rfl) (Nat.le_of_ble_eq_true rfl) (Nat.le_of_ble_eq_true rfl) (by rintro _ _ ⟨rfl, rfl⟩; rfl) ?_
          rintro _ _ ⟨rfl, rfl⟩
          refine G.if_ne 291 at_282 (by decide) rfl (fun h282 => ?_) (fun h282 => ?_)
          · replace he := he.trans (if_neg h282)
            refine G.iloadN at_291 rfl ?_
            refine G.iload at_292 rfl ?_
            refine G.iload at_294 rfl ?_
            refine G.iload at_296 rfl ?_
            refine G.iconst (2) at_298 rfl ?_
            refine G.scall [_, _, _, _, _] rfl at_299 (hw _ (List.mem_of_getElem? (i := 34) rfl)) (hw _ (List.mem_of_getElem? (i := 35) rfl)) (hw _ (List.mem_of_getElem? (i := 36) rfl)) (hw _ (List.mem_of_getElem? (i := 37) rfl)) (by decide) (m_3 l Z a0 hw n0 [] _ _ _ _ _ _) own_pd2 rfl rfl (Nat.le_of_ble_eq_true rfl) (Nat.le_of_ble_eq_true rfl) (Nat.le_of_ble_eq_true rfl) (Nat.le_of_ble_eq_true rfl) (by rintro _ _ ⟨rfl, rfl⟩; rfl) ?_
            rintro _ _ ⟨rfl, rfl⟩
            refine G.if_ne 311 at_302 (by decide) rfl (fun h302 => ?_) (fun h302 => ?_)
            · replace he := he.trans (if_neg h302)
              refine G.iconst (3) at_311 rfl ?_
              refine G.istore12 at_312 rfl ?_
              refine G.iload at_314 rfl ?_
              refine G.iload at_316 rfl ?_
              refine G.icmp_ge 326 at_318 (by decide) rfl (fun h318 => ?_) (fun h318 => ?_)
              · replace he := he.trans (if_neg h318)
                refine G.iconst (-1) at_326 rfl ?_
                refine G.istore13 at_327 rfl ?_
                refine G.aload at_329 rfl rfl ?_
                refine G.iload at_331 rfl ?_
                refine G.vcall [_] rfl at_333 (hw _ (List.mem_of_getElem? (i := 38) rfl)) (hw _ (List.mem_of_getElem? (i := 39) rfl)) (hw _ (List.mem_of_getElem? (i := 41) rfl)) (hw _ (List.mem_of_getElem? (i := 40) rfl)) (hw _ (List.mem_of_getElem? (i := 4) rfl)) (hw _ (List.mem_of_getElem? (i := 42) rfl)) (by decide) rfl (m_4_2 l Z a0 hw n0 [] _ _ _ _ _ _ _ _ _) own_pd3 rfl rfl (Nat.le_of_ble_eq_true rfl) (Nat.le_of_ble_eq_true rfl) (Nat.le_of_ble_eq_true rfl) (Nat.le_of_ble_eq_true rfl) (by rintro _ _ ⟨rfl, rfl⟩; rfl) ?_
                rintro _ _ ⟨rfl, rfl⟩
                refine G.iload at_336 rfl ?_
                refine G.icmp_ne 345 at_338 (by decide) rfl (fun h338 => ?_) (fun h338 => ?_)
                · replace he := he.trans (if_neg h338)
                  refine G.iconst (0) at_345 rfl ?_
                  exact G.zreturn rfl at_346 rfl (Nat.le_of_ble_eq_true rfl) (Nat.le_of_ble_eq_true rfl) ⟨congrArg (fun z => some (Value.int z)) he.symm, trivial⟩
                · replace he := he.trans (if_pos h338)
                  refine G.iconst (1) at_341 rfl ?_
                  refine G.goto 346 at_342 (by decide) rfl ?_
                  exact G.zreturn rfl at_346 rfl (Nat.le_of_ble_eq_true rfl) (Nat.le_of_ble_eq_true rfl) ⟨congrArg (fun z => some (Value.int z)) he.symm, trivial⟩
              · replace he := he.trans (if_pos h318)
                refine G.iload at_321 rfl ?_
                refine G.goto 327 at_323 (by decide) rfl ?_
                refine G.istore13 at_327 rfl ?_
                refine G.aload at_329 rfl rfl ?_
                refine G.iload at_331 rfl ?_
                refine G.vcall [_] rfl at_333 (hw _ (List.mem_of_getElem? (i := 38) rfl)) (hw _ (List.mem_of_getElem? (i := 39) rfl)) (hw _ (List.mem_of_getElem? (i := 41) rfl)) (hw _ (List.mem_of_getElem? (i := 40) rfl)) (hw _ (List.mem_of_getElem? (i := 4) rfl)) (hw _ (List.mem_of_getElem? (i := 42) rfl)) (by decide) rfl (m_4_2 l Z a0 hw n0 [] _ _ _ _ _ _ _ _ _) own_pd3 rfl rfl (Nat.le_of_ble_eq_true rfl) (Nat.le_of_ble_eq_true rfl) (Nat.le_of_ble_eq_true rfl) (Nat.le_of_ble_eq_true rfl) (by rintro _ _ ⟨rfl, rfl⟩; rfl) ?_
                rintro _ _ ⟨rfl, rfl⟩
                refine G.iload at_336 rfl ?_
                refine G.icmp_ne 345 at_338 (by decide) rfl (fun h338 => ?_) (fun h338 => ?_)
                · replace he := he.trans (if_neg h338)
                  refine G.iconst (0) at_345 rfl ?_
                  exact G.zreturn rfl at_346 rfl (Nat.le_of_ble_eq_true rfl) (Nat.le_of_ble_eq_true rfl) ⟨congrArg (fun z => some (Value.int z)) he.symm, trivial⟩
                · replace he := he.trans (if_pos h338)
                  refine G.iconst (1) at_341 rfl ?_
                  refine G.goto 346 at_342 (by decide) rfl ?_
                  exact G.zreturn rfl at_346 rfl (Nat.le_of_ble_eq_true rfl) (Nat.le_of_ble_eq_true rfl) ⟨congrArg (fun z => some (Value.int z)) he.symm, trivial⟩
            · replace he := he.trans (if_pos h302)
              refine G.iconst (2) at_305 rfl ?_
              refine G.istore12 at_306 rfl ?_
              refine G.goto 314 at_308 (by decide) rfl ?_
              refine G.iload at_314 rfl ?_
              refine G.iload at_316 rfl ?_
              refine G.icmp_ge 326 at_318 (by decide) rfl (fun h318 => ?_) (fun h318 => ?_)
              · replace he := he.trans (if_neg h318)
                refine G.iconst (-1) at_326 rfl ?_
                refine G.istore13 at_327 rfl ?_
                refine G.aload at_329 rfl rfl ?_
                refine G.iload at_331 rfl ?_
                refine G.vcall [_] rfl at_333 (hw _ (List.mem_of_getElem? (i := 38) rfl)) (hw _ (List.mem_of_getElem? (i := 39) rfl)) (hw _ (List.mem_of_getElem? (i := 41) rfl)) (hw _ (List.mem_of_getElem? (i := 40) rfl)) (hw _ (List.mem_of_getElem? (i := 4) rfl)) (hw _ (List.mem_of_getElem? (i := 42) rfl)) (by decide) rfl (m_4_2 l Z a0 hw n0 [] _ _ _ _ _ _ _ _ _) own_pd3 rfl rfl (Nat.le_of_ble_eq_true rfl) (Nat.le_of_ble_eq_true rfl) (Nat.le_of_ble_eq_true rfl) (Nat.le_of_ble_eq_true rfl) (by rintro _ _ ⟨rfl, rfl⟩; rfl) ?_
                rintro _ _ ⟨rfl, rfl⟩
                refine G.iload at_336 rfl ?_
                refine G.icmp_ne 345 at_338 (by decide) rfl (fun h338 => ?_) (fun h338 => ?_)
                · replace he := he.trans (if_neg h338)
                  refine G.iconst (0) at_345 rfl ?_
                  exact G.zreturn rfl at_346 rfl (Nat.le_of_ble_eq_true rfl) (Nat.le_of_ble_eq_true rfl) ⟨congrArg (fun z => some (Value.int z)) he.symm, trivial⟩
                · replace he := he.trans (if_pos h338)
                  refine G.iconst (1) at_341 rfl ?_
                  refine G.goto 346 at_342 (by decide) rfl ?_
                  exact G.zreturn rfl at_346 rfl (Nat.le_of_ble_eq_true rfl) (Nat.le_of_ble_eq_true rfl) ⟨congrArg (fun z => some (Value.int z)) he.symm, trivial⟩
              · replace he := he.trans (if_pos h318)
                refine G.iload at_321 rfl ?_
                refine G.goto 327 at_323 (by decide) rfl ?_
                refine G.istore13 at_327 rfl ?_
                refine G.aload at_329 rfl rfl ?_
                refine G.iload at_331 rfl ?_
                refine G.vcall [_] rfl at_333 (hw _ (List.mem_of_getElem? (i := 38) rfl)) (hw _ (List.mem_of_getElem? (i := 39) rfl)) (hw _ (List.mem_of_getElem? (i := 41) rfl)) (hw _ (List.mem_of_getElem? (i := 40) rfl)) (hw _ (List.mem_of_getElem? (i := 4) rfl)) (hw _ (List.mem_of_getElem? (i := 42) rfl)) (by decide) rfl (m_4_2 l Z a0 hw n0 [] _ _ _ _ _ _ _ _ _) own_pd3 rfl rfl (Nat.le_of_ble_eq_true rfl) (Nat.le_of_ble_eq_true rfl) (Nat.le_of_ble_eq_true rfl) (Nat.le_of_ble_eq_true rfl) (by rintro _ _ ⟨rfl, rfl⟩; rfl) ?_
                rintro _ _ ⟨rfl, rfl⟩
                refine G.iload at_336 rfl ?_
                refine G.icmp_ne 345 at_338 (by decide) rfl (fun h338 => ?_) (fun h338 => ?_)
                · replace he := he.trans (if_neg h338)
                  refine G.iconst (0) at_345 rfl ?_
                  exact G.zreturn rfl at_346 rfl (Nat.le_of_ble_eq_true rfl) (Nat.le_of_ble_eq_true rfl) ⟨congrArg (fun z => some (Value.int z)) he.symm, trivial⟩
                · replace he := he.trans (if_pos h338)
                  refine G.iconst (1) at_341 rfl ?_
                  refine G.goto 346 at_342 (by decide) rfl ?_
                  exact G.zreturn rfl at_346 rfl (Nat.le_of_ble_eq_true rfl) (Nat.le_of_ble_eq_true rfl) ⟨congrArg (fun z => some (Value.int z)) he.symm, trivial⟩
          · replace he := he.trans (if_pos h282)
            refine G.iconst (1) at_285 rfl ?_
            refine G.istore12 at_286 rfl ?_
            refine G.goto 314 at_288 (by decide) rfl ?_
            refine G.iload at_314 rfl ?_
            refine G.iload at_316 rfl ?_
            refine G.icmp_ge 326 at_318 (by decide) rfl (fun h318 => ?_) (fun h318 => ?_)
            · replace he := he.trans (if_neg h318)
              refine G.iconst (-1) at_326 rfl ?_
              refine G.istore13 at_327 rfl ?_
              refine G.aload at_329 rfl rfl ?_
              refine G.iload at_331 rfl ?_
              refine G.vcall [_] rfl at_333 (hw _ (List.mem_of_getElem? (i := 38) rfl)) (hw _ (List.mem_of_getElem? (i := 39) rfl)) (hw _ (List.mem_of_getElem? (i := 41) rfl)) (hw _ (List.mem_of_getElem? (i := 40) rfl)) (hw _ (List.mem_of_getElem? (i := 4) rfl)) (hw _ (List.mem_of_getElem? (i := 42) rfl)) (by decide) rfl (m_4_2 l Z a0 hw n0 [] _ _ _ _ _ _ _ _ _) own_pd3 rfl rfl (Nat.le_of_ble_eq_true rfl) (Nat.le_of_ble_eq_true rfl) (Nat.le_of_ble_eq_true rfl) (Nat.le_of_ble_eq_true rfl) (by rintro _ _ ⟨rfl, rfl⟩; rfl) ?_
              rintro _ _ ⟨rfl, rfl⟩
              refine G.iload at_336 rfl ?_
              refine G.icmp_ne 345 at_338 (by decide) rfl (fun h338 => ?_) (fun h338 => ?_)
              · replace he := he.trans (if_neg h338)
                refine G.iconst (0) at_345 rfl ?_
                exact G.zreturn rfl at_346 rfl (Nat.le_of_ble_eq_true rfl) (Nat.le_of_ble_eq_true rfl) ⟨congrArg (fun z => some (Value.int z)) he.symm, trivial⟩
              · replace he := he.trans (if_pos h338)
                refine G.iconst (1) at_341 rfl ?_
                refine G.goto 346 at_342 (by decide) rfl ?_
                exact G.zreturn rfl at_346 rfl (Nat.le_of_ble_eq_true rfl) (Nat.le_of_ble_eq_true rfl) ⟨congrArg (fun z => some (Value.int z)) he.symm, trivial⟩
            · replace he := he.trans (if_pos h318)
              refine G.iload at_321 rfl ?_
              refine G.goto 327 at_323 (by decide) rfl ?_
              refine G.istore13 at_327 rfl ?_
              refine G.aload at_329 rfl rfl ?_
              refine G.iload at_331 rfl ?_
              refine G.vcall [_] rfl at_333 (hw _ (List.mem_of_getElem? (i := 38) rfl)) (hw _ (List.mem_of_getElem? (i := 39) rfl)) (hw _ (List.mem_of_getElem? (i := 41) rfl)) (hw _ (List.mem_of_getElem? (i := 40) rfl)) (hw _ (List.mem_of_getElem? (i := 4) rfl)) (hw _ (List.mem_of_getElem? (i := 42) rfl)) (by decide) rfl (m_4_2 l Z a0 hw n0 [] _ _ _ _ _ _ _ _ _) own_pd3 rfl rfl (Nat.le_of_ble_eq_true rfl) (Nat.le_of_ble_eq_true rfl) (Nat.le_of_ble_eq_true rfl) (Nat.le_of_ble_eq_true rfl) (by rintro _ _ ⟨rfl, rfl⟩; rfl) ?_
              rintro _ _ ⟨rfl, rfl⟩
              refine G.iload at_336 rfl ?_
              refine G.icmp_ne 345 at_338 (by decide) rfl (fun h338 => ?_) (fun h338 => ?_)
              · replace he := he.trans (if_neg h338)
                refine G.iconst (0) at_345 rfl ?_
                exact G.zreturn rfl at_346 rfl (Nat.le_of_ble_eq_true rfl) (Nat.le_of_ble_eq_true rfl) ⟨congrArg (fun z => some (Value.int z)) he.symm, trivial⟩
              · replace he := he.trans (if_pos h338)
                refine G.iconst (1) at_341 rfl ?_
                refine G.goto 346 at_342 (by decide) rfl ?_
                exact G.zreturn rfl at_346 rfl (Nat.le_of_ble_eq_true rfl) (Nat.le_of_ble_eq_true rfl) ⟨congrArg (fun z => some (Value.int z)) he.symm, trivial⟩
        · replace he := he.trans (if_pos h262)
          refine G.iconst (0) at_265 rfl ?_
          refine G.istore12 at_266 rfl ?_
          refine G.goto 314 at_268 (by decide) rfl ?_
          refine G.iload at_314 rfl ?_
          refine G.iload at_316 rfl ?_
          refine G.icmp_ge 326 at_318 (by decide) rfl (fun h318 => ?_) (fun h318 => ?_)
          · replace he := he.trans (if_neg h318)
            refine G.iconst (-1) at_326 rfl ?_
            refine G.istore13 at_327 rfl ?_
            refine G.aload at_329 rfl rfl ?_
            refine G.iload at_331 rfl ?_
            refine G.vcall [_] rfl at_333 (hw _ (List.mem_of_getElem? (i := 38) rfl)) (hw _ (List.mem_of_getElem? (i := 39) rfl)) (hw _ (List.mem_of_getElem? (i := 41) rfl)) (hw _ (List.mem_of_getElem? (i := 40) rfl)) (hw _ (List.mem_of_getElem? (i := 4) rfl)) (hw _ (List.mem_of_getElem? (i := 42) rfl)) (by decide) rfl (m_4_2 l Z a0 hw n0 [] _ _ _ _ _ _ _ _ _) own_pd3 rfl rfl (Nat.le_of_ble_eq_true rfl) (Nat.le_of_ble_eq_true rfl) (Nat.le_of_ble_eq_true rfl) (Nat.le_of_ble_eq_true rfl) (by rintro _ _ ⟨rfl, rfl⟩; rfl) ?_
            rintro _ _ ⟨rfl, rfl⟩
            refine G.iload at_336 rfl ?_
            refine G.icmp_ne 345 at_338 (by decide) rfl (fun h338 => ?_) (fun h338 => ?_)
            · replace he := he.trans (if_neg h338)
              refine G.iconst (0) at_345 rfl ?_
              exact G.zreturn rfl at_346 rfl (Nat.le_of_ble_eq_true rfl) (Nat.le_of_ble_eq_true rfl) ⟨congrArg (fun z => some (Value.int z)) he.symm, trivial⟩
            · replace he := he.trans (if_pos h338)
              refine G.iconst (1) at_341 rfl ?_
              refine G.goto 346 at_342 (by decide) rfl ?_
              exact G.zreturn rfl at_346 rfl (Nat.le_of_ble_eq_true rfl) (Nat.le_of_ble_eq_true rfl) ⟨congrArg (fun z => some (Value.int z)) he.symm, trivial⟩
          · replace he := he.trans (if_pos h318)
            refine G.iload at_321 rfl ?_
            refine G.goto 327 at_323 (by decide) rfl ?_
            refine G.istore13 at_327 rfl ?_
            refine G.aload at_329 rfl rfl ?_
            refine G.iload at_331 rfl ?_
            refine G.vcall [_] rfl at_333 (hw _ (List.mem_of_getElem? (i := 38) rfl)) (hw _ (List.mem_of_getElem? (i := 39) rfl)) (hw _ (List.mem_of_getElem? (i := 41) rfl)) (hw _ (List.mem_of_getElem? (i := 40) rfl)) (hw _ (List.mem_of_getElem? (i := 4) rfl)) (hw _ (List.mem_of_getElem? (i := 42) rfl)) (by decide) rfl (m_4_2 l Z a0 hw n0 [] _ _ _ _ _ _ _ _ _) own_pd3 rfl rfl (Nat.le_of_ble_eq_true rfl) (Nat.le_of_ble_eq_true rfl) (Nat.le_of_ble_eq_true rfl) (Nat.le_of_ble_eq_true rfl) (by rintro _ _ ⟨rfl, rfl⟩; rfl) ?_
            rintro _ _ ⟨rfl, rfl⟩
            refine G.iload at_336 rfl ?_
            refine G.icmp_ne 345 at_338 (by decide) rfl (fun h338 => ?_) (fun h338 => ?_)
            · replace he := he.trans (if_neg h338)
              refine G.iconst (0) at_345 rfl ?_
              exact G.zreturn rfl at_346 rfl (Nat.le_of_ble_eq_true rfl) (Nat.le_of_ble_eq_true rfl) ⟨congrArg (fun z => some (Value.int z)) he.symm, trivial⟩
            · replace he := he.trans (if_pos h338)
              refine G.iconst (1) at_341 rfl ?_
              refine G.goto 346 at_342 (by decide) rfl ?_
              exact G.zreturn rfl at_346 rfl (Nat.le_of_ble_eq_true rfl) (Nat.le_of_ble_eq_true rfl) ⟨congrArg (fun z => some (Value.int z)) he.symm, trivial⟩
      · replace he := he.trans (if_neg h238)
        refine G.iloadN at_241 rfl ?_
        refine G.goto 249 at_242 (by decide) rfl ?_
        refine G.istore11 at_249 rfl ?_
        refine G.iloadN at_251 rfl ?_
        refine G.iload at_252 rfl ?_
        refine G.iload at_254 rfl ?_
        refine G.iload at_256 rfl ?_
        refine G.iconst (0) at_258 rfl ?_
        refine G.scall [_, _, _, _, _] rfl at_259 (hw _ (List.mem_of_getElem? (i := 34) rfl)) (hw _ (List.mem_of_getElem? (i := 35) rfl)) (hw _ (List.mem_of_getElem? (i := 36) rfl)) (hw _ (List.mem_of_getElem? (i := 37) rfl)) (by decide) (m_3 l Z a0 hw n0 [] _ _ _ _ _ _) own_pd2 rfl rfl (Nat.le_of_ble_eq_true rfl) (Nat.le_of_ble_eq_true rfl) (Nat.le_of_ble_eq_true rfl) (Nat.le_of_ble_eq_true rfl) (by rintro _ _ ⟨rfl, rfl⟩; rfl) ?_
        rintro _ _ ⟨rfl, rfl⟩
        refine G.if_ne 271 at_262 (by decide) rfl (fun h262 => ?_) (fun h262 => ?_)
        · replace he := he.trans (if_neg h262)
          refine G.iloadN at_271 rfl ?_
          refine G.iload at_272 rfl ?_
          refine G.iload at_274 rfl ?_
          refine G.iload at_276 rfl ?_
          refine G.iconst (1) at_278 rfl ?_
          refine G.scall [_, _, _, _, _] rfl at_279 (hw _ (List.mem_of_getElem? (i := 34) rfl)) (hw _ (List.mem_of_getElem? (i := 35) rfl)) (hw _ (List.mem_of_getElem? (i := 36) rfl)) (hw _ (List.mem_of_getElem? (i := 37) rfl)) (by decide) (m_3 l Z a0 hw n0 [] _ _ _ _ _ _) own_pd2 rfl rfl (Nat.le_of_ble_eq_true rfl) (Nat.le_of_ble_eq_true rfl) (Nat.le_of_ble_eq_true rfl) (Nat.le_of_ble_eq_true rfl) (by rintro _ _ ⟨rfl, rfl⟩; rfl) ?_
          rintro _ _ ⟨rfl, rfl⟩
          refine G.if_ne 291 at_282 (by decide) rfl (fun h282 => ?_) (fun h282 => ?_)
          · replace he := he.trans (if_neg h282)
            refine G.iloadN at_291 rfl ?_
            refine G.iload at_292 rfl ?_
            refine G.iload at_294 rfl ?_
            refine G.iload at_296 rfl ?_
            refine G.iconst (2) at_298 rfl ?_
            refine G.scall [_, _, _, _, _] rfl at_299 (hw _ (List.mem_of_getElem? (i := 34) rfl)) (hw _ (List.mem_of_getElem? (i := 35) rfl)) (hw _ (List.mem_of_getElem? (i := 36) rfl)) (hw _ (List.mem_of_getElem? (i := 37) rfl)) (by decide) (m_3 l Z a0 hw n0 [] _ _ _ _ _ _) own_pd2 rfl rfl (Nat.le_of_ble_eq_true rfl) (Nat.le_of_ble_eq_true rfl) (Nat.le_of_ble_eq_true rfl) (Nat.le_of_ble_eq_true rfl) (by rintro _ _ ⟨rfl, rfl⟩; rfl) ?_
            rintro _ _ ⟨rfl, rfl⟩
            refine G.if_ne 311 at_302 (by decide) rfl (fun h302 => ?_) (fun h302 => ?_)
            · replace he := he.trans (if_neg h302)
              refine G.iconst (3) at_311 rfl ?_
              refine G.istore12 at_312 rfl ?_
              refine G.iload at_314 rfl ?_
              refine G.iload at_316 rfl ?_
              refine G.icmp_ge 326 at_318 (by decide) rfl (fun h318 => ?_) (fun h318 => ?_)
              · replace he := he.trans (if_neg h318)
                refine G.iconst (-1) at_326 rfl ?_
                refine G.istore13 at_327 rfl ?_
                refine G.aload at_329 rfl rfl ?_
                refine G.iload at_331 rfl ?_
                refine G.vcall [_] rfl at_333 (hw _ (List.mem_of_getElem? (i := 38) rfl)) (hw _ (List.mem_of_getElem? (i := 39) rfl)) (hw _ (List.mem_of_getElem? (i := 41) rfl)) (hw _ (List.mem_of_getElem? (i := 40) rfl)) (hw _ (List.mem_of_getElem? (i := 4) rfl)) (hw _ (List.mem_of_getElem? (i := 42) rfl)) (by decide) rfl (m_4_2 l Z a0 hw n0 [] _ _ _ _ _ _ _ _ _) own_pd3 rfl rfl (Nat.le_of_ble_eq_true rfl) (Nat.le_of_ble_eq_true rfl) (Nat.le_of_ble_eq_true rfl) (Nat.le_of_ble_eq_true rfl) (by rintro _ _ ⟨rfl, rfl⟩; rfl) ?_
                rintro _ _ ⟨rfl, rfl⟩
                refine G.iload at_336 rfl ?_
                refine G.icmp_ne 345 at_338 (by decide) rfl (fun h338 => ?_) (fun h338 => ?_)
                · replace he := he.trans (if_neg h338)
                  refine G.iconst (0) at_345 rfl ?_
                  exact G.zreturn rfl at_346 rfl (Nat.le_of_ble_eq_true rfl) (Nat.le_of_ble_eq_true rfl) ⟨congrArg (fun z => some (Value.int z)) he.symm, trivial⟩
                · replace he := he.trans (if_pos h338)
                  refine G.iconst (1) at_341 rfl ?_
                  refine G.goto 346 at_342 (by decide) rfl ?_
                  exact G.zreturn rfl at_346 rfl (Nat.le_of_ble_eq_true rfl) (Nat.le_of_ble_eq_true rfl) ⟨congrArg (fun z => some (Value.int z)) he.symm, trivial⟩
              · replace he := he.trans (if_pos h318)
                refine G.iload at_321 rfl ?_
                refine G.goto 327 at_323 (by decide) rfl ?_
                refine G.istore13 at_327 rfl ?_
                refine G.aload at_329 rfl rfl ?_
                refine G.iload at_331 rfl ?_
                refine G.vcall [_] rfl at_333 (hw _ (List.mem_of_getElem? (i := 38) rfl)) (hw _ (List.mem_of_getElem? (i := 39) rfl)) (hw _ (List.mem_of_getElem? (i := 41) rfl)) (hw _ (List.mem_of_getElem? (i := 40) rfl)) (hw _ (List.mem_of_getElem? (i := 4) rfl)) (hw _ (List.mem_of_getElem? (i := 42) rfl)) (by decide) rfl (m_4_2 l Z a0 hw n0 [] _ _ _ _ _ _ _ _ _) own_pd3 rfl rfl (Nat.le_of_ble_eq_true rfl) (Nat.le_of_ble_eq_true rfl) (Nat.le_of_ble_eq_true rfl) (Nat.le_of_ble_eq_true rfl) (by rintro _ _ ⟨rfl, rfl⟩; rfl) ?_
                rintro _ _ ⟨rfl, rfl⟩
                refine G.iload at_336 rfl ?_
                refine G.icmp_ne 345 at_338 (by decide) rfl (fun h338 => ?_) (fun h338 => ?_)
                · replace he := he.trans (if_neg h338)
                  refine G.iconst (0) at_345 rfl ?_
                  exact G.zreturn rfl at_346 rfl (Nat.le_of_ble_eq_true rfl) (Nat.le_of_ble_eq_true rfl) ⟨congrArg (fun z => some (Value.int z)) he.symm, trivial⟩
                · replace he := he.trans (if_pos h338)
                  refine G.iconst (1) at_341 rfl ?_
                  refine G.goto 346 at_342 (by decide) rfl ?_
                  exact G.zreturn rfl at_346 rfl (Nat.le_of_ble_eq_true rfl) (Nat.le_of_ble_eq_true rfl) ⟨congrArg (fun z => some (Value.int z)) he.symm, trivial⟩
            · replace he := he.trans (if_pos h302)
              refine G.iconst (2) at_305 rfl ?_
              refine G.istore12 at_306 rfl ?_
              refine G.goto 314 at_308 (by decide) rfl ?_
              refine G.iload at_314 rfl ?_
              refine G.iload at_316 rfl ?_
              refine G.icmp_ge 326 at_318 (by decide) rfl (fun h318 => ?_) (fun h318 => ?_)
              · replace he := he.trans (if_neg h318)
                refine G.iconst (-1) at_326 rfl ?_
                refine G.istore13 at_327 rfl ?_
                refine G.aload at_329 rfl rfl ?_
                refine G.iload at_331 rfl ?_
                refine G.vcall [_] rfl at_333 (hw _ (List.mem_of_getElem? (i := 38) rfl)) (hw _ (List.mem_of_getElem? (i := 39) rfl)) (hw _ (List.mem_of_getElem? (i := 41) rfl)) (hw _ (List.mem_of_getElem? (i := 40) rfl)) (hw _ (List.mem_of_getElem? (i := 4) rfl)) (hw _ (List.mem_of_getElem? (i := 42) rfl)) (by decide) rfl (m_4_2 l Z a0 hw n0 [] _ _ _ _ _ _ _ _ _) own_pd3 rfl rfl (Nat.le_of_ble_eq_true rfl) (Nat.le_of_ble_eq_true rfl) (Nat.le_of_ble_eq_true rfl) (Nat.le_of_ble_eq_true rfl) (by rintro _ _ ⟨rfl, rfl⟩; rfl) ?_
                rintro _ _ ⟨rfl, rfl⟩
                refine G.iload at_336 rfl ?_
                refine G.icmp_ne 345 at_338 (by decide) rfl (fun h338 => ?_) (fun h338 => ?_)
                · replace he := he.trans (if_neg h338)
                  refine G.iconst (0) at_345 rfl ?_
                  exact G.zreturn rfl at_346 rfl (Nat.le_of_ble_eq_true rfl) (Nat.le_of_ble_eq_true rfl) ⟨congrArg (fun z => some (Value.int z)) he.symm, trivial⟩
                · replace he := he.trans (if_pos h338)
                  refine G.iconst (1) at_341 rfl ?_
                  refine G.goto 346 at_342 (by decide) rfl ?_
                  exact G.zreturn rfl at_346 rfl (Nat.le_of_ble_eq_true rfl) (Nat.le_of_ble_eq_true rfl) ⟨congrArg (fun z => some (Value.int z)) he.symm, trivial⟩
              · replace he := he.trans (if_pos h318)
                refine G.iload at_321 rfl ?_
                refine G.goto 327 at_323 (by decide) rfl ?_
                refine G.istore13 at_327 rfl ?_
                refine G.aload at_329 rfl rfl ?_
                refine G.iload at_331 rfl ?_
                refine G.vcall [_] rfl at_333 (hw _ (List.mem_of_getElem? (i := 38) rfl)) (hw _ (List.mem_of_getElem? (i := 39) rfl)) (hw _ (List.mem_of_getElem? (i := 41) rfl)) (hw _ (List.mem_of_getElem? (i := 40) rfl)) (hw _ (List.mem_of_getElem? (i := 4) rfl)) (hw _ (List.mem_of_getElem? (i := 42) rfl)) (by decide) rfl (m_4_2 l Z a0 hw n0 [] _ _ _ _ _ _ _ _ _) own_pd3 rfl rfl (Nat.le_of_ble_eq_true rfl) (Nat.le_of_ble_eq_true rfl) (Nat.le_of_ble_eq_true rfl) (Nat.le_of_ble_eq_true rfl) (by rintro _ _ ⟨rfl, rfl⟩; rfl) ?_
                rintro _ _ ⟨rfl, rfl⟩
                refine G.iload at_336 rfl ?_
                refine G.icmp_ne 345 at_338 (by decide) rfl (fun h338 => ?_) (fun h338 => ?_)
                · replace he := he.trans (if_neg h338)
                  refine G.iconst (0) at_345 rfl ?_
                  exact G.zreturn rfl at_346 rfl (Nat.le_of_ble_eq_true rfl) (Nat.le_of_ble_eq_true rfl) ⟨congrArg (fun z => some (Value.int z)) he.symm, trivial⟩
                · replace he := he.trans (if_pos h338)
                  refine G.iconst (1) at_341 rfl ?_
                  refine G.goto 346 at_342 (by decide) rfl ?_
                  exact G.zreturn rfl at_346 rfl (Nat.le_of_ble_eq_true rfl) (Nat.le_of_ble_eq_true rfl) ⟨congrArg (fun z => some (Value.int z)) he.symm, trivial⟩
          · replace he := he.trans (if_pos h282)
            refine G.iconst (1) at_285 rfl ?_
            refine G.istore12 at_286 rfl ?_
            refine G.goto 314 at_288 (by decide) rfl ?_
            refine G.iload at_314 rfl ?_
            refine G.iload at_316 rfl ?_
            refine G.icmp_ge 326 at_318 (by decide) rfl (fun h318 => ?_) (fun h318 => ?_)
            · replace he := he.trans (if_neg h318)
              refine G.iconst (-1) at_326 rfl ?_
              refine G.istore13 at_327 rfl ?_
              refine G.aload at_329 rfl rfl ?_
              refine G.iload at_331 rfl ?_
              refine G.vcall [_] rfl at_333 (hw _ (List.mem_of_getElem? (i := 38) rfl)) (hw _ (List.mem_of_getElem? (i := 39) rfl)) (hw _ (List.mem_of_getElem? (i := 41) rfl)) (hw _ (List.mem_of_getElem? (i := 40) rfl)) (hw _ (List.mem_of_getElem? (i := 4) rfl)) (hw _ (List.mem_of_getElem? (i := 42) rfl)) (by decide) rfl (m_4_2 l Z a0 hw n0 [] _ _ _ _ _ _ _ _ _) own_pd3 rfl rfl (Nat.le_of_ble_eq_true rfl) (Nat.le_of_ble_eq_true rfl) (Nat.le_of_ble_eq_true rfl) (Nat.le_of_ble_eq_true rfl) (by rintro _ _ ⟨rfl, rfl⟩; rfl) ?_
              rintro _ _ ⟨rfl, rfl⟩
              refine G.iload at_336 rfl ?_
              refine G.icmp_ne 345 at_338 (by decide) rfl (fun h338 => ?_) (fun h338 => ?_)
              · replace he := he.trans (if_neg h338)
                refine G.iconst (0) at_345 rfl ?_
                exact G.zreturn rfl at_346 rfl (Nat.le_of_ble_eq_true rfl) (Nat.le_of_ble_eq_true rfl) ⟨congrArg (fun z => some (Value.int z)) he.symm, trivial⟩
              · replace he := he.trans (if_pos h338)
                refine G.iconst (1) at_341 rfl ?_
                refine G.goto 346 at_342 (by decide) rfl ?_
                exact G.zreturn rfl at_346 rfl (Nat.le_of_ble_eq_true rfl) (Nat.le_of_ble_eq_true rfl) ⟨congrArg (fun z => some (Value.int z)) he.symm, trivial⟩
            · replace he := he.trans (if_pos h318)
              refine G.iload at_321 rfl ?_
              refine G.goto 327 at_323 (by decide) rfl ?_
              refine G.istore13 at_327 rfl ?_
              refine G.aload at_329 rfl rfl ?_
              refine G.iload at_331 rfl ?_
              refine G.vcall [_] rfl at_333 (hw _ (List.mem_of_getElem? (i := 38) rfl)) (hw _ (List.mem_of_getElem? (i := 39) rfl)) (hw _ (List.mem_of_getElem? (i := 41) rfl)) (hw _ (List.mem_of_getElem? (i := 40) rfl)) (hw _ (List.mem_of_getElem? (i := 4) rfl)) (hw _ (List.mem_of_getElem? (i := 42) rfl)) (by decide) rfl (m_4_2 l Z a0 hw n0 [] _ _ _ _ _ _ _ _ _) own_pd3 rfl rfl (Nat.le_of_ble_eq_true rfl) (Nat.le_of_ble_eq_true rfl) (Nat.le_of_ble_eq_true rfl) (Nat.le_of_ble_eq_true rfl) (by rintro _ _ ⟨rfl, rfl⟩; rfl) ?_
              rintro _ _ ⟨rfl, rfl⟩
              refine G.iload at_336 rfl ?_
              refine G.icmp_ne 345 at_338 (by decide) rfl (fun h338 => ?_) (fun h338 => ?_)
              · replace he := he.trans (if_neg h338)
                refine G.iconst (0) at_345 rfl ?_
                exact G.zreturn rfl at_346 rfl (Nat.le_of_ble_eq_true rfl) (Nat.le_of_ble_eq_true rfl) ⟨congrArg (fun z => some (Value.int z)) he.symm, trivial⟩
              · replace he := he.trans (if_pos h338)
                refine G.iconst (1) at_341 rfl ?_
                refine G.goto 346 at_342 (by decide) rfl ?_
                exact G.zreturn rfl at_346 rfl (Nat.le_of_ble_eq_true rfl) (Nat.le_of_ble_eq_true rfl) ⟨congrArg (fun z => some (Value.int z)) he.symm, trivial⟩
        · replace he := he.trans (if_pos h262)
          refine G.iconst (0) at_265 rfl ?_
          refine G.istore12 at_266 rfl ?_
          refine G.goto 314 at_268 (by decide) rfl ?_
          refine G.iload at_314 rfl ?_
          refine G.iload at_316 rfl ?_
          refine G.icmp_ge 326 at_318 (by decide) rfl (fun h318 => ?_) (fun h318 => ?_)
          · replace he := he.trans (if_neg h318)
            refine G.iconst (-1) at_326 rfl ?_
            refine G.istore13 at_327 rfl ?_
            refine G.aload at_329 rfl rfl ?_
            refine G.iload at_331 rfl ?_
            refine G.vcall [_] rfl at_333 (hw _ (List.mem_of_getElem? (i := 38) rfl)) (hw _ (List.mem_of_getElem? (i := 39) rfl)) (hw _ (List.mem_of_getElem? (i := 41) rfl)) (hw _ (List.mem_of_getElem? (i := 40) rfl)) (hw _ (List.mem_of_getElem? (i := 4) rfl)) (hw _ (List.mem_of_getElem? (i := 42) rfl)) (by decide) rfl (m_4_2 l Z a0 hw n0 [] _ _ _ _ _ _ _ _ _) own_pd3 rfl rfl (Nat.le_of_ble_eq_true rfl) (Nat.le_of_ble_eq_true rfl) (Nat.le_of_ble_eq_true rfl) (Nat.le_of_ble_eq_true rfl) (by rintro _ _ ⟨rfl, rfl⟩; rfl) ?_
            rintro _ _ ⟨rfl, rfl⟩
            refine G.iload at_336 rfl ?_
            refine G.icmp_ne 345 at_338 (by decide) rfl (fun h338 => ?_) (fun h338 => ?_)
            · replace he := he.trans (if_neg h338)
              refine G.iconst (0) at_345 rfl ?_
              exact G.zreturn rfl at_346 rfl (Nat.le_of_ble_eq_true rfl) (Nat.le_of_ble_eq_true rfl) ⟨congrArg (fun z => some (Value.int z)) he.symm, trivial⟩
            · replace he := he.trans (if_pos h338)
              refine G.iconst (1) at_341 rfl ?_
              refine G.goto 346 at_342 (by decide) rfl ?_
              exact G.zreturn rfl at_346 rfl (Nat.le_of_ble_eq_true rfl) (Nat.le_of_ble_eq_true rfl) ⟨congrArg (fun z => some (Value.int z)) he.symm, trivial⟩
          · replace he := he.trans (if_pos h318)
            refine G.iload at_321 rfl ?_
            refine G.goto 327 at_323 (by decide) rfl ?_
            refine G.istore13 at_327 rfl ?_
            refine G.aload at_329 rfl rfl ?_
            refine G.iload at_331 rfl ?_
            refine G.vcall [_] rfl at_333 (hw _ (List.mem_of_getElem? (i := 38) rfl)) (hw _ (List.mem_of_getElem? (i := 39) rfl)) (hw _ (List.mem_of_getElem? (i := 41) rfl)) (hw _ (List.mem_of_getElem? (i := 40) rfl)) (hw _ (List.mem_of_getElem? (i := 4) rfl)) (hw _ (List.mem_of_getElem? (i := 42) rfl)) (by decide) rfl (m_4_2 l Z a0 hw n0 [] _ _ _ _ _ _ _ _ _) own_pd3 rfl rfl (Nat.le_of_ble_eq_true rfl) (Nat.le_of_ble_eq_true rfl) (Nat.le_of_ble_eq_true rfl) (Nat.le_of_ble_eq_true rfl) (by rintro _ _ ⟨rfl, rfl⟩; rfl) ?_
            rintro _ _ ⟨rfl, rfl⟩
            refine G.iload at_336 rfl ?_
            refine G.icmp_ne 345 at_338 (by decide) rfl (fun h338 => ?_) (fun h338 => ?_)
            · replace he := he.trans (if_neg h338)
              refine G.iconst (0) at_345 rfl ?_
              exact G.zreturn rfl at_346 rfl (Nat.le_of_ble_eq_true rfl) (Nat.le_of_ble_eq_true rfl) ⟨congrArg (fun z => some (Value.int z)) he.symm, trivial⟩
            · replace he := he.trans (if_pos h338)
              refine G.iconst (1) at_341 rfl ?_
              refine G.goto 346 at_342 (by decide) rfl ?_
              exact G.zreturn rfl at_346 rfl (Nat.le_of_ble_eq_true rfl) (Nat.le_of_ble_eq_true rfl) ⟨congrArg (fun z => some (Value.int z)) he.symm, trivial⟩
    · replace he := he.trans ((if_neg (by decide)).trans ((if_neg (by decide)).trans (if_neg (by decide))))
      refine G.iloadN at_4 rfl ?_
      refine G.iconst (3) at_5 rfl ?_
      refine G.icmp_ne 19 at_6 (by decide) rfl (fun h6 => absurd h6 (by decide)) (fun _ => ?_)
      refine G.iloadN at_9 rfl ?_
      refine G.sipush (256) at_10 rfl ?_
      refine G.iand at_13 ?_
      refine G.if_eq 19 at_14 (by decide) rfl (fun h14 => ?_) (fun h14 => ?_)
      · replace he := he.trans (if_pos h14)
        refine G.iloadN at_19 rfl ?_
        refine G.iconst (3) at_20 rfl ?_
        refine G.icmp_le 26 at_21 (by decide) rfl (fun _ => ?_) (fun h21 => absurd h21 (by decide))
        refine G.iloadN at_26 rfl ?_
        refine G.iconst (2) at_27 rfl ?_
        refine G.ishr at_28 ?_
        refine G.iconst (3) at_29 rfl ?_
        refine G.iand at_30 ?_
        refine G.istore4 at_31 rfl ?_
        refine G.iload at_33 rfl ?_
        refine G.iconst (1) at_35 rfl ?_
        refine G.iadd at_36 ?_
        refine G.iloadN at_37 rfl ?_
        refine G.iconst (4) at_38 rfl ?_
        refine G.ishr at_39 ?_
        refine G.iconst (3) at_40 rfl ?_
        refine G.iand at_41 ?_
        refine G.iadd at_42 ?_
        refine G.istore5 at_43 rfl ?_
        refine G.iload at_45 rfl ?_
        refine G.iconst (1) at_47 rfl ?_
        refine G.iadd at_48 ?_
        refine G.iloadN at_49 rfl ?_
        refine G.bipush (6) at_50 rfl ?_
        refine G.ishr at_52 ?_
        refine G.iconst (3) at_53 rfl ?_
        refine G.iand at_54 ?_
        refine G.iadd at_55 ?_
        refine G.istore6 at_56 rfl ?_
        refine G.iloadN at_58 rfl ?_
        refine G.if_ne 80 at_59 (by decide) rfl (fun _ => ?_) (fun h59 => absurd h59 (by decide))
        refine G.iloadN at_80 rfl ?_
        refine G.iconst (1) at_81 rfl ?_
        refine G.icmp_ne 116 at_82 (by decide) rfl (fun _ => ?_) (fun h82 => absurd h82 (by decide))
        refine G.iloadN at_116 rfl ?_
        refine G.iconst (2) at_117 rfl ?_
        refine G.icmp_ne 165 at_118 (by decide) rfl (fun _ => ?_) (fun h118 => absurd h118 (by decide))
        refine G.iconst (3) at_165 rfl ?_
        refine G.newarr 3 3 at_166 (hw _ (List.mem_of_getElem? (i := 0) rfl)) (by decide) (Nat.le_of_ble_eq_true rfl) (by decide) (Nat.le_of_ble_eq_true rfl) (Nat.le_of_ble_eq_true rfl) rfl ?_
        try simp only [List.set_cons_zero, List.set_cons_succ, List.length_cons, List.length_nil, List.nil_append, List.cons_append, Nat.zero_add, Nat.reduceAdd]
        refine G.dup at_168 rfl ?_
        refine G.iconst (0) at_169 rfl ?_
        refine G.iload at_170 rfl ?_
        refine G.iast (0) at_172 rfl (by decide) (Nat.le_of_ble_eq_true rfl) ?_
        try simp only [List.set_cons_zero, List.set_cons_succ, List.length_cons, List.length_nil, List.nil_append, List.cons_append, Nat.zero_add, Nat.reduceAdd]
        refine G.dup at_173 rfl ?_
        refine G.iconst (1) at_174 rfl ?_
        refine G.iload at_175 rfl ?_
        refine G.iast (1) at_177 rfl (by decide) (Nat.le_of_ble_eq_true rfl) ?_
        try simp only [List.set_cons_zero, List.set_cons_succ, List.length_cons, List.length_nil, List.nil_append, List.cons_append, Nat.zero_add, Nat.reduceAdd]
        refine G.dup at_178 rfl ?_
        refine G.iconst (2) at_179 rfl ?_
        refine G.iload at_180 rfl ?_
        refine G.iast (2) at_182 rfl (by decide) (Nat.le_of_ble_eq_true rfl) ?_
        try simp only [List.set_cons_zero, List.set_cons_succ, List.length_cons, List.length_nil, List.nil_append, List.cons_append, Nat.zero_add, Nat.reduceAdd]
        refine G.astore7 at_183 rfl rfl ?_
        refine G.iconst (3) at_185 rfl ?_
        refine G.newarr 3 3 at_186 (hw _ (List.mem_of_getElem? (i := 1) rfl)) (by decide) (Nat.le_of_ble_eq_true rfl) (by decide) (Nat.le_of_ble_eq_true rfl) (Nat.le_of_ble_eq_true rfl) rfl ?_
        try simp only [List.set_cons_zero, List.set_cons_succ, List.length_cons, List.length_nil, List.nil_append, List.cons_append, Nat.zero_add, Nat.reduceAdd]
        refine G.dup at_188 rfl ?_
        refine G.iconst (0) at_189 rfl ?_
        refine G.lconst (1) at_190 rfl ?_
        refine G.last (0) at_191 rfl (by decide) (Nat.le_of_ble_eq_true rfl) ?_
        try simp only [List.set_cons_zero, List.set_cons_succ, List.length_cons, List.length_nil, List.nil_append, List.cons_append, Nat.zero_add, Nat.reduceAdd]
        refine G.dup at_192 rfl ?_
        refine G.iconst (1) at_193 rfl ?_
        refine G.lconst (1) at_194 rfl ?_
        refine G.last (1) at_195 rfl (by decide) (Nat.le_of_ble_eq_true rfl) ?_
        try simp only [List.set_cons_zero, List.set_cons_succ, List.length_cons, List.length_nil, List.nil_append, List.cons_append, Nat.zero_add, Nat.reduceAdd]
        refine G.dup at_196 rfl ?_
        refine G.iconst (2) at_197 rfl ?_
        refine G.lconst (1) at_198 rfl ?_
        refine G.last (2) at_199 rfl (by decide) (Nat.le_of_ble_eq_true rfl) ?_
        try simp only [List.set_cons_zero, List.set_cons_succ, List.length_cons, List.length_nil, List.nil_append, List.cons_append, Nat.zero_add, Nat.reduceAdd]
        refine G.astore8 at_200 rfl rfl ?_
        refine G.iconst (3) at_202 rfl ?_
        refine G.newarr 3 3 at_203 (hw _ (List.mem_of_getElem? (i := 1) rfl)) (by decide) (Nat.le_of_ble_eq_true rfl) (by decide) (Nat.le_of_ble_eq_true rfl) (Nat.le_of_ble_eq_true rfl) rfl ?_
        try simp only [List.set_cons_zero, List.set_cons_succ, List.length_cons, List.length_nil, List.nil_append, List.cons_append, Nat.zero_add, Nat.reduceAdd]
        refine G.dup at_205 rfl ?_
        refine G.iconst (0) at_206 rfl ?_
        refine G.lconst (0) at_207 rfl ?_
        refine G.last (0) at_208 rfl (by decide) (Nat.le_of_ble_eq_true rfl) ?_
        try simp only [List.set_cons_zero, List.set_cons_succ, List.length_cons, List.length_nil, List.nil_append, List.cons_append, Nat.zero_add, Nat.reduceAdd]
        refine G.dup at_209 rfl ?_
        refine G.iconst (1) at_210 rfl ?_
        refine G.lconst (0) at_211 rfl ?_
        refine G.last (1) at_212 rfl (by decide) (Nat.le_of_ble_eq_true rfl) ?_
        try simp only [List.set_cons_zero, List.set_cons_succ, List.length_cons, List.length_nil, List.nil_append, List.cons_append, Nat.zero_add, Nat.reduceAdd]
        refine G.dup at_213 rfl ?_
        refine G.iconst (2) at_214 rfl ?_
        refine G.lconst (0) at_215 rfl ?_
        refine G.last (2) at_216 rfl (by decide) (Nat.le_of_ble_eq_true rfl) ?_
        try simp only [List.set_cons_zero, List.set_cons_succ, List.length_cons, List.length_nil, List.nil_append, List.cons_append, Nat.zero_add, Nat.reduceAdd]
        refine G.astore9 at_217 rfl rfl ?_
        refine G.newo at_219 (hw _ (List.mem_of_getElem? (i := 2) rfl)) (hw _ (List.mem_of_getElem? (i := 3) rfl)) (hw _ (List.mem_of_getElem? (i := 4) rfl)) (own_fo Z a0 hw) (Nat.le_of_ble_eq_true rfl) (Nat.le_of_ble_eq_true rfl) ?_
        try simp only [List.set_cons_zero, List.set_cons_succ, List.length_cons, List.length_nil, List.nil_append, List.cons_append, Nat.zero_add, Nat.reduceAdd]
        refine G.dup at_222 rfl ?_
        refine G.aload at_223 rfl rfl ?_
        refine G.aload at_225 rfl rfl ?_
        refine G.aload at_227 rfl rfl ?_
        refine G.lconst (0) at_229 rfl ?_
        refine G.ncall [_, _, _, _] rfl at_230 rfl (hw _ (List.mem_of_getElem? (i := 5) rfl)) (hw _ (List.mem_of_getElem? (i := 6) rfl)) (hw _ (List.mem_of_getElem? (i := 4) rfl)) (hw _ (List.mem_of_getElem? (i := 7) rfl)) (by decide) (m_1_3 l Z a0 hw n0 [] _ _ _ _ _ _ _ _ _ _ (own_q _ 0 0).1.1 (own_q _ 0 0).1.2 (by decide) (by decide) (own_q _ _ 0).2.1.1 (own_q _ _ 0).2.1.2 (by decide) (by decide) (own_q _ _ _).2.2.1.1 (own_q _ _ _).2.2.1.2 (by decide) (by decide) (by decide)) own_pd1 rfl rfl (Nat.le_of_ble_eq_true rfl) (Nat.le_of_ble_eq_true rfl) (Nat.le_of_ble_eq_true rfl) (Nat.le_of_ble_eq_true rfl) (by rintro _ _ ⟨rfl, rfl⟩; rfl) ?_
        rintro _ _ ⟨rfl, rfl⟩
        refine G.astore10 at_233 rfl rfl ?_
        refine G.iloadN at_235 rfl ?_
        refine G.iconst (1) at_236 rfl ?_
        refine G.iand at_237 ?_
        refine G.if_eq 245 at_238 (by decide) rfl (fun h238 => ?_) (fun h238 => ?_)
        · replace he := he.trans (if_pos h238)
          refine G.iloadN at_245 rfl ?_
          refine G.bipush (6) at_246 rfl ?_
          refine G.irem at_248 (by decide) ?_
          refine G.istore11 at_249 rfl ?_
          refine G.iloadN at_251 rfl ?_
          refine G.iload at_252 rfl ?_
          refine G.iload at_254 rfl ?_
          refine G.iload at_256 rfl ?_
          refine G.iconst (0) at_258 rfl ?_
          refine G.scall [_, _, _, _, _] rfl at_259 (hw _ (List.mem_of_getElem? (i := 34) rfl)) (hw _ (List.mem_of_getElem? (i := 35) rfl)) (hw _ (List.mem_of_getElem? (i := 36) rfl)) (hw _ (List.mem_of_getElem? (i := 37) rfl)) (by decide) (m_3 l Z a0 hw n0 [] _ _ _ _ _ _) own_pd2 rfl rfl (Nat.le_of_ble_eq_true rfl) (Nat.le_of_ble_eq_true rfl) (Nat.le_of_ble_eq_true rfl) (Nat.le_of_ble_eq_true rfl) (by rintro _ _ ⟨rfl, rfl⟩; rfl) ?_
          rintro _ _ ⟨rfl, rfl⟩
          refine G.if_ne 271 at_262 (by decide) rfl (fun h262 => ?_) (fun h262 => ?_)
          · replace he := he.trans (if_neg h262)
            refine G.iloadN at_271 rfl ?_
            refine G.iload at_272 rfl ?_
            refine G.iload at_274 rfl ?_
            refine G.iload at_276 rfl ?_
            refine G.iconst (1) at_278 rfl ?_
            refine G.scall [_, _, _, _, _] rfl at_279 (hw _ (List.mem_of_getElem? (i := 34) rfl)) (hw _ (List.mem_of_getElem? (i := 35) rfl)) (hw _ (List.mem_of_getElem? (i := 36) rfl)) (hw _ (List.mem_of_getElem? (i := 37) rfl)) (by decide) (m_3 l Z a0 hw n0 [] _ _ _ _ _ _) own_pd2 rfl rfl (Nat.le_of_ble_eq_true rfl) (Nat.le_of_ble_eq_true rfl) (Nat.le_of_ble_eq_true rfl) (Nat.le_of_ble_eq_true rfl) (by rintro _ _ ⟨rfl, rfl⟩; rfl) ?_
            rintro _ _ ⟨rfl, rfl⟩
            refine G.if_ne 291 at_282 (by decide) rfl (fun h282 => ?_) (fun h282 => ?_)
            · replace he := he.trans (if_neg h282)
              refine G.iloadN at_291 rfl ?_
              refine G.iload at_292 rfl ?_
              refine G.iload at_294 rfl ?_
              refine G.iload at_296 rfl ?_
              refine G.iconst (2) at_298 rfl ?_
              refine G.scall [_, _, _, _, _] rfl at_299 (hw _ (List.mem_of_getElem? (i := 34) rfl)) (hw _ (List.mem_of_getElem? (i := 35) rfl)) (hw _ (List.mem_of_getElem? (i := 36) rfl)) (hw _ (List.mem_of_getElem? (i := 37) rfl)) (by decide) (m_3 l Z a0 hw n0 [] _ _ _ _ _ _) own_pd2 rfl rfl (Nat.le_of_ble_eq_true rfl) (Nat.le_of_ble_eq_true rfl) (Nat.le_of_ble_eq_true rfl) (Nat.le_of_ble_eq_true rfl) (by rintro _ _ ⟨rfl, rfl⟩; rfl) ?_
              rintro _ _ ⟨rfl, rfl⟩
              refine G.if_ne 311 at_302 (by decide) rfl (fun h302 => ?_) (fun h302 => ?_)
              · replace he := he.trans (if_neg h302)
                refine G.iconst (3) at_311 rfl ?_
                refine G.istore12 at_312 rfl ?_
                refine G.iload at_314 rfl ?_
                refine G.iload at_316 rfl ?_
                refine G.icmp_ge 326 at_318 (by decide) rfl (fun h318 => ?_) (fun h318 => ?_)
                · replace he := he.trans (if_neg h318)
                  refine G.iconst (-1) at_326 rfl ?_
                  refine G.istore13 at_327 rfl ?_
                  refine G.aload at_329 rfl rfl ?_
                  refine G.iload at_331 rfl ?_
                  refine G.vcall [_] rfl at_333 (hw _ (List.mem_of_getElem? (i := 38) rfl)) (hw _ (List.mem_of_getElem? (i := 39) rfl)) (hw _ (List.mem_of_getElem? (i := 41) rfl)) (hw _ (List.mem_of_getElem? (i := 40) rfl)) (hw _ (List.mem_of_getElem? (i := 4) rfl)) (hw _ (List.mem_of_getElem? (i := 42) rfl)) (by decide) rfl (m_4_3 l Z a0 hw n0 [] _ _ _ _ _ _ _ _ _ _) own_pd3 rfl rfl (Nat.le_of_ble_eq_true rfl) (Nat.le_of_ble_eq_true rfl) (Nat.le_of_ble_eq_true rfl) (Nat.le_of_ble_eq_true rfl) (by rintro _ _ ⟨rfl, rfl⟩; rfl) ?_
                  rintro _ _ ⟨rfl, rfl⟩
                  refine G.iload at_336 rfl ?_
                  refine G.icmp_ne 345 at_338 (by decide) rfl (fun h338 => ?_) (fun h338 => ?_)
                  · replace he := he.trans (if_neg h338)
                    refine G.iconst (0) at_345 rfl ?_
                    exact G.zreturn rfl at_346 rfl (Nat.le_of_ble_eq_true rfl) (Nat.le_of_ble_eq_true rfl) ⟨congrArg (fun z => some (Value.int z)) he.symm, trivial⟩
                  · replace he := he.trans (if_pos h338)
                    refine G.iconst (1) at_341 rfl ?_
                    refine G.goto 346 at_342 (by decide) rfl ?_
                    exact G.zreturn rfl at_346 rfl (Nat.le_of_ble_eq_true rfl) (Nat.le_of_ble_eq_true rfl) ⟨congrArg (fun z => some (Value.int z)) he.symm, trivial⟩
                · replace he := he.trans (if_pos h318)
                  refine G.iload at_321 rfl ?_
                  refine G.goto 327 at_323 (by decide) rfl ?_
                  refine G.istore13 at_327 rfl ?_
                  refine G.aload at_329 rfl rfl ?_
                  refine G.iload at_331 rfl ?_
                  refine G.vcall [_] rfl at_333 (hw _ (List.mem_of_getElem? (i := 38) rfl)) (hw _ (List.mem_of_getElem? (i := 39) rfl)) (hw _ (List.mem_of_getElem? (i := 41) rfl)) (hw _ (List.mem_of_getElem? (i := 40) rfl)) (hw _ (List.mem_of_getElem? (i := 4) rfl)) (hw _ (List.mem_of_getElem? (i := 42) rfl)) (by decide) rfl (m_4_3 l Z a0 hw n0 [] _ _ _ _ _ _ _ _ _ _) own_pd3 rfl rfl (Nat.le_of_ble_eq_true rfl) (Nat.le_of_ble_eq_true rfl) (Nat.le_of_ble_eq_true rfl) (Nat.le_of_ble_eq_true rfl) (by rintro _ _ ⟨rfl, rfl⟩; rfl) ?_
                  rintro _ _ ⟨rfl, rfl⟩
                  refine G.iload at_336 rfl ?_
                  refine G.icmp_ne 345 at_338 (by decide) rfl (fun h338 => ?_) (fun h338 => ?_)
                  · replace he := he.trans (if_neg h338)
                    refine G.iconst (0) at_345 rfl ?_
                    exact G.zreturn rfl at_346 rfl (Nat.le_of_ble_eq_true rfl) (Nat.le_of_ble_eq_true rfl) ⟨congrArg (fun z => some (Value.int z)) he.symm, trivial⟩
                  · replace he := he.trans (if_pos h338)
                    refine G.iconst (1) at_341 rfl ?_
                    refine G.goto 346 at_342 (by decide) rfl ?_
                    exact G.zreturn rfl at_346 rfl (Nat.le_of_ble_eq_true rfl) (Nat.le_of_ble_eq_true rfl) ⟨congrArg (fun z => some (Value.int z)) he.symm, trivial⟩
              · replace he := he.trans (if_pos h302)
                refine G.iconst (2) at_305 rfl ?_
                refine G.istore12 at_306 rfl ?_
                refine G.goto 314 at_308 (by decide) rfl ?_
                refine G.iload at_314 rfl ?_
                refine G.iload at_316 rfl ?_
                refine G.icmp_ge 326 at_318 (by decide) rfl (fun h318 => ?_) (fun h318 => ?_)
                · replace he := he.trans (if_neg h318)
                  refine G.iconst (-1) at_326 rfl ?_
                  refine G.istore13 at_327 rfl ?_
                  refine G.aload at_329 rfl rfl ?_
                  refine G.iload at_331 rfl ?_
                  refine G.vcall [_] rfl at_333 (hw _ (List.mem_of_getElem? (i := 38) rfl)) (hw _ (List.mem_of_getElem? (i := 39) rfl)) (hw _ (List.mem_of_getElem? (i := 41) rfl)) (hw _ (List.mem_of_getElem? (i := 40) rfl)) (hw _ (List.mem_of_getElem? (i := 4) rfl)) (hw _ (List.mem_of_getElem? (i := 42) rfl)) (by decide) rfl (m_4_3 l Z a0 hw n0 [] _ _ _ _ _ _ _ _ _ _) own_pd3 rfl rfl (Nat.le_of_ble_eq_true rfl) (Nat.le_of_ble_eq_true rfl) (Nat.le_of_ble_eq_true rfl) (Nat.le_of_ble_eq_true rfl) (by rintro _ _ ⟨rfl, rfl⟩; rfl) ?_
                  rintro _ _ ⟨rfl, rfl⟩
                  refine G.iload at_336 rfl ?_
                  refine G.icmp_ne 345 at_338 (by decide) rfl (fun h338 => ?_) (fun h338 => ?_)
                  · replace he := he.trans (if_neg h338)
                    refine G.iconst (0) at_345 rfl ?_
                    exact G.zreturn rfl at_346 rfl (Nat.le_of_ble_eq_true rfl) (Nat.le_of_ble_eq_true rfl) ⟨congrArg (fun z => some (Value.int z)) he.symm, trivial⟩
                  · replace he := he.trans (if_pos h338)
                    refine G.iconst (1) at_341 rfl ?_
                    refine G.goto 346 at_342 (by decide) rfl ?_
                    exact G.zreturn rfl at_346 rfl (Nat.le_of_ble_eq_true rfl) (Nat.le_of_ble_eq_true rfl) ⟨congrArg (fun z => some (Value.int z)) he.symm, trivial⟩
                · replace he := he.trans (if_pos h318)
                  refine G.iload at_321 rfl ?_
                  refine G.goto 327 at_323 (by decide) rfl ?_
                  refine G.istore13 at_327 rfl ?_
                  refine G.aload at_329 rfl rfl ?_
                  refine G.iload at_331 rfl ?_
                  refine G.vcall [_] rfl at_333 (hw _ (List.mem_of_getElem? (i := 38) rfl)) (hw _ (List.mem_of_getElem? (i := 39) rfl)) (hw _ (List.mem_of_getElem? (i := 41) rfl)) (hw _ (List.mem_of_getElem? (i := 40) rfl)) (hw _ (List.mem_of_getElem? (i := 4) rfl)) (hw _ (List.mem_of_getElem? (i := 42) rfl)) (by decide) rfl (m_4_3 l Z a0 hw n0 [] _ _ _ _ _ _ _ _ _ _) own_pd3 rfl rfl (Nat.le_of_ble_eq_true rfl) (Nat.le_of_ble_eq_true rfl) (Nat.le_of_ble_eq_true rfl) (Nat.le_of_ble_eq_true rfl) (by rintro _ _ ⟨rfl, rfl⟩; rfl) ?_
                  rintro _ _ ⟨rfl, rfl⟩
                  refine G.iload at_336 rfl ?_
                  refine G.icmp_ne 345 at_338 (by decide) rfl (fun h338 => ?_) (fun h338 => ?_)
                  · replace he := he.trans (if_neg h338)
                    refine G.iconst (0) at_345 rfl ?_
                    exact G.zreturn rfl at_346 rfl (Nat.le_of_ble_eq_true rfl) (Nat.le_of_ble_eq_true rfl) ⟨congrArg (fun z => some (Value.int z)) he.symm, trivial⟩
                  · replace he := he.trans (if_pos h338)
                    refine G.iconst (1) at_341 rfl ?_
                    refine G.goto 346 at_342 (by decide) rfl ?_
                    exact G.zreturn rfl at_346 rfl (Nat.le_of_ble_eq_true rfl) (Nat.le_of_ble_eq_true rfl) ⟨congrArg (fun z => some (Value.int z)) he.symm, trivial⟩
            · replace he := he.trans (if_pos h282)
              refine G.iconst (1) at_285 rfl ?_
              refine G.istore12 at_286 rfl ?_
              refine G.goto 314 at_288 (by decide) rfl ?_
              refine G.iload at_314 rfl ?_
              refine G.iload at_316 rfl ?_
              refine G.icmp_ge 326 at_318 (by decide) rfl (fun h318 => ?_) (fun h318 => ?_)
              · replace he := he.trans (if_neg h318)
                refine G.iconst (-1) at_326 rfl ?_
                refine G.istore13 at_327 rfl ?_
                refine G.aload at_329 rfl rfl ?_
                refine G.iload at_331 rfl ?_
                refine G.vcall [_] rfl at_333 (hw _ (List.mem_of_getElem? (i := 38) rfl)) (hw _ (List.mem_of_getElem? (i := 39) rfl)) (hw _ (List.mem_of_getElem? (i := 41) rfl)) (hw _ (List.mem_of_getElem? (i := 40) rfl)) (hw _ (List.mem_of_getElem? (i := 4) rfl)) (hw _ (List.mem_of_getElem? (i := 42) rfl)) (by decide) rfl (m_4_3 l Z a0 hw n0 [] _ _ _ _ _ _ _ _ _ _) own_pd3 rfl rfl (Nat.le_of_ble_eq_true rfl) (Nat.le_of_ble_eq_true rfl) (Nat.le_of_ble_eq_true rfl) (Nat.le_of_ble_eq_true rfl) (by rintro _ _ ⟨rfl, rfl⟩; rfl) ?_
                rintro _ _ ⟨rfl, rfl⟩
                refine G.iload at_336 rfl ?_
                refine G.icmp_ne 345 at_338 (by decide) rfl (fun h338 => ?_) (fun h338 => ?_)
                · replace he := he.trans (if_neg h338)
                  refine G.iconst (0) at_345 rfl ?_
                  exact G.zreturn rfl at_346 rfl (Nat.le_of_ble_eq_true rfl) (Nat.le_of_ble_eq_true rfl) ⟨congrArg (fun z => some (Value.int z)) he.symm, trivial⟩
                · replace he := he.trans (if_pos h338)
                  refine G.iconst (1) at_341 rfl ?_
                  refine G.goto 346 at_342 (by decide) rfl ?_
                  exact G.zreturn rfl at_346 rfl (Nat.le_of_ble_eq_true rfl) (Nat.le_of_ble_eq_true rfl) ⟨congrArg (fun z => some (Value.int z)) he.symm, trivial⟩
              · replace he := he.trans (if_pos h318)
                refine G.iload at_321 rfl ?_
                refine G.goto 327 at_323 (by decide) rfl ?_
                refine G.istore13 at_327 rfl ?_
                refine G.aload at_329 rfl rfl ?_
                refine G.iload at_331 rfl ?_
                refine G.vcall [_] rfl at_333 (hw _ (List.mem_of_getElem? (i := 38) rfl)) (hw _ (List.mem_of_getElem? (i := 39) rfl)) (hw _ (List.mem_of_getElem? (i := 41) rfl)) (hw _ (List.mem_of_getElem? (i := 40) rfl)) (hw _ (List.mem_of_getElem? (i := 4) rfl)) (hw _ (List.mem_of_getElem? (i := 42) rfl)) (by decide) rfl (m_4_3 l Z a0 hw n0 [] _ _ _ _ _ _ _ _ _ _) own_pd3 rfl rfl (Nat.le_of_ble_eq_true rfl) (Nat.le_of_ble_eq_true rfl) (Nat.le_of_ble_eq_true rfl) (Nat.le_of_ble_eq_true rfl) (by rintro _ _ ⟨rfl, rfl⟩; rfl) ?_
                rintro _ _ ⟨rfl, rfl⟩
                refine G.iload at_336 rfl ?_
                refine G.icmp_ne 345 at_338 (by decide) rfl (fun h338 => ?_) (fun h338 => ?_)
                · replace he := he.trans (if_neg h338)
                  refine G.iconst (0) at_345 rfl ?_
                  exact G.zreturn rfl at_346 rfl (Nat.le_of_ble_eq_true rfl) (Nat.le_of_ble_eq_true rfl) ⟨congrArg (fun z => some (Value.int z)) he.symm, trivial⟩
                · replace he := he.trans (if_pos h338)
                  refine G.iconst (1) at_341 rfl ?_
                  refine G.goto 346 at_342 (by decide) rfl ?_
                  exact G.zreturn rfl at_346 rfl (Nat.le_of_ble_eq_true rfl) (Nat.le_of_ble_eq_true rfl) ⟨congrArg (fun z => some (Value.int z)) he.symm, trivial⟩
          · replace he := he.trans (if_pos h262)
            refine G.iconst (0) at_265 rfl ?_
            refine G.istore12 at_266 rfl ?_
            refine G.goto 314 at_268 (by decide) rfl ?_
            refine G.iload at_314 rfl ?_
            refine G.iload at_316 rfl ?_
            refine G.icmp_ge 326 at_318 (by decide) rfl (fun h318 => ?_) (fun h318 => ?_)
            · replace he := he.trans (if_neg h318)
              refine G.iconst (-1) at_326 rfl ?_
              refine G.istore13 at_327 rfl ?_
              refine G.aload at_329 rfl rfl ?_
              refine G.iload at_331 rfl ?_
              refine G.vcall [_] rfl at_333 (hw _ (List.mem_of_getElem? (i := 38) rfl)) (hw _ (List.mem_of_getElem? (i := 39) rfl)) (hw _ (List.mem_of_getElem? (i := 41) rfl)) (hw _ (List.mem_of_getElem? (i := 40) rfl)) (hw _ (List.mem_of_getElem? (i := 4) rfl)) (hw _ (List.mem_of_getElem? (i := 42) rfl)) (by decide) rfl (m_4_3 l Z a0 hw n0 [] _ _ _ _ _ _ _ _ _ _) own_pd3 rfl rfl (Nat.le_of_ble_eq_true rfl) (Nat.le_of_ble_eq_true rfl) (Nat.le_of_ble_eq_true rfl) (Nat.le_of_ble_eq_true rfl) (by rintro _ _ ⟨rfl, rfl⟩; rfl) ?_
              rintro _ _ ⟨rfl, rfl⟩
              refine G.iload at_336 rfl ?_
              refine G.icmp_ne 345 at_338 (by decide) rfl (fun h338 => ?_) (fun h338 => ?_)
              · replace he := he.trans (if_neg h338)
                refine G.iconst (0) at_345 rfl ?_
                exact G.zreturn rfl at_346 rfl (Nat.le_of_ble_eq_true rfl) (Nat.le_of_ble_eq_true rfl) ⟨congrArg (fun z => some (Value.int z)) he.symm, trivial⟩
              · replace he := he.trans (if_pos h338)
                refine G.iconst (1) at_341 rfl ?_
                refine G.goto 346 at_342 (by decide) rfl ?_
                exact G.zreturn rfl at_346 rfl (Nat.le_of_ble_eq_true rfl) (Nat.le_of_ble_eq_true rfl) ⟨congrArg (fun z => some (Value.int z)) he.symm, trivial⟩
            · replace he := he.trans (if_pos h318)
              refine G.iload at_321 rfl ?_
              refine G.goto 327 at_323 (by decide) rfl ?_
              refine G.istore13 at_327 rfl ?_
              refine G.aload at_329 rfl rfl ?_
              refine G.iload at_331 rfl ?_
              refine G.vcall [_] rfl at_333 (hw _ (List.mem_of_getElem? (i := 38) rfl)) (hw _ (List.mem_of_getElem? (i := 39) rfl)) (hw _ (List.mem_of_getElem? (i := 41) rfl)) (hw _ (List.mem_of_getElem? (i := 40) rfl)) (hw _ (List.mem_of_getElem? (i := 4) rfl)) (hw _ (List.mem_of_getElem? (i := 42) rfl)) (by decide) rfl (m_4_3 l Z a0 hw n0 [] _ _ _ _ _ _ _ _ _ _) own_pd3 rfl rfl (Nat.le_of_ble_eq_true rfl) (Nat.le_of_ble_eq_true rfl) (Nat.le_of_ble_eq_true rfl) (Nat.le_of_ble_eq_true rfl) (by rintro _ _ ⟨rfl, rfl⟩; rfl) ?_
              rintro _ _ ⟨rfl, rfl⟩
              refine G.iload at_336 rfl ?_
              refine G.icmp_ne 345 at_338 (by decide) rfl (fun h338 => ?_) (fun h338 => ?_)
              · replace he := he.trans (if_neg h338)
                refine G.iconst (0) at_345 rfl ?_
                exact G.zreturn rfl at_346 rfl (Nat.le_of_ble_eq_true rfl) (Nat.le_of_ble_eq_true rfl) ⟨congrArg (fun z => some (Value.int z)) he.symm, trivial⟩
              · replace he := he.trans (if_pos h338)
                refine G.iconst (1) at_341 rfl ?_
                refine G.goto 346 at_342 (by decide) rfl ?_
                exact G.zreturn rfl at_346 rfl (Nat.le_of_ble_eq_true rfl) (Nat.le_of_ble_eq_true rfl) ⟨congrArg (fun z => some (Value.int z)) he.symm, trivial⟩
        · replace he := he.trans (if_neg h238)
          refine G.iloadN at_241 rfl ?_
          refine G.goto 249 at_242 (by decide) rfl ?_
          refine G.istore11 at_249 rfl ?_
          refine G.iloadN at_251 rfl ?_
          refine G.iload at_252 rfl ?_
          refine G.iload at_254 rfl ?_
          refine G.iload at_256 rfl ?_
          refine G.iconst (0) at_258 rfl ?_
          refine G.scall [_, _, _, _, _] rfl at_259 (hw _ (List.mem_of_getElem? (i := 34) rfl)) (hw _ (List.mem_of_getElem? (i := 35) rfl)) (hw _ (List.mem_of_getElem? (i := 36) rfl)) (hw _ (List.mem_of_getElem? (i := 37) rfl)) (by decide) (m_3 l Z a0 hw n0 [] _ _ _ _ _ _) own_pd2 rfl rfl (Nat.le_of_ble_eq_true rfl) (Nat.le_of_ble_eq_true rfl) (Nat.le_of_ble_eq_true rfl) (Nat.le_of_ble_eq_true rfl) (by rintro _ _ ⟨rfl, rfl⟩; rfl) ?_
          rintro _ _ ⟨rfl, rfl⟩
          refine G.if_ne 271 at_262 (by decide) rfl (fun h262 => ?_) (fun h262 => ?_)
          · replace he := he.trans (if_neg h262)
            refine G.iloadN at_271 rfl ?_
            refine G.iload at_272 rfl ?_
            refine G.iload at_274 rfl ?_
            refine G.iload at_276 rfl ?_
            refine G.iconst (1) at_278 rfl ?_
            refine G.scall [_, _, _, _, _] rfl at_279 (hw _ (List.mem_of_getElem? (i := 34) rfl)) (hw _ (List.mem_of_getElem? (i := 35) rfl)) (hw _ (List.mem_of_getElem? (i := 36) rfl)) (hw _ (List.mem_of_getElem? (i := 37) rfl)) (by decide) (m_3 l Z a0 hw n0 [] _ _ _ _ _ _) own_pd2 rfl rfl (Nat.le_of_ble_eq_true rfl) (Nat.le_of_ble_eq_true rfl) (Nat.le_of_ble_eq_true rfl) (Nat.le_of_ble_eq_true rfl) (by rintro _ _ ⟨rfl, rfl⟩; rfl) ?_
            rintro _ _ ⟨rfl, rfl⟩
            refine G.if_ne 291 at_282 (by decide) rfl (fun h282 => ?_) (fun h282 => ?_)
            · replace he := he.trans (if_neg h282)
              refine G.iloadN at_291 rfl ?_
              refine G.iload at_292 rfl ?_
              refine G.iload at_294 rfl ?_
              refine G.iload at_296 rfl ?_
              refine G.iconst (2) at_298 rfl ?_
              refine G.scall [_, _, _, _, _] rfl at_299 (hw _ (List.mem_of_getElem? (i := 34) rfl)) (hw _ (List.mem_of_getElem? (i := 35) rfl)) (hw _ (List.mem_of_getElem? (i := 36) rfl)) (hw _ (List.mem_of_getElem? (i := 37) rfl)) (by decide) (m_3 l Z a0 hw n0 [] _ _ _ _ _ _) own_pd2 rfl rfl (Nat.le_of_ble_eq_true rfl) (Nat.le_of_ble_eq_true rfl) (Nat.le_of_ble_eq_true rfl) (Nat.le_of_ble_eq_true rfl) (by rintro _ _ ⟨rfl, rfl⟩; rfl) ?_
              rintro _ _ ⟨rfl, rfl⟩
              refine G.if_ne 311 at_302 (by decide) rfl (fun h302 => ?_) (fun h302 => ?_)
              · replace he := he.trans (if_neg h302)
                refine G.iconst (3) at_311 rfl ?_
                refine G.istore12 at_312 rfl ?_
                refine G.iload at_314 rfl ?_
                refine G.iload at_316 rfl ?_
                refine G.icmp_ge 326 at_318 (by decide) rfl (fun h318 => ?_) (fun h318 => ?_)
                · replace he := he.trans (if_neg h318)
                  refine G.iconst (-1) at_326 rfl ?_
                  refine G.istore13 at_327 rfl ?_
                  refine G.aload at_329 rfl rfl ?_
                  refine G.iload at_331 rfl ?_
                  refine G.vcall [_] rfl at_333 (hw _ (List.mem_of_getElem? (i := 38) rfl)) (hw _ (List.mem_of_getElem? (i := 39) rfl)) (hw _ (List.mem_of_getElem? (i := 41) rfl)) (hw _ (List.mem_of_getElem? (i := 40) rfl)) (hw _ (List.mem_of_getElem? (i := 4) rfl)) (hw _ (List.mem_of_getElem? (i := 42) rfl)) (by decide) rfl (m_4_3 l Z a0 hw n0 [] _ _ _ _ _ _ _ _ _ _) own_pd3 rfl rfl (Nat.le_of_ble_eq_true rfl) (Nat.le_of_ble_eq_true rfl) (Nat.le_of_ble_eq_true rfl) (Nat.le_of_ble_eq_true rfl) (by rintro _ _ ⟨rfl, rfl⟩; rfl) ?_
                  rintro _ _ ⟨rfl, rfl⟩
                  refine G.iload at_336 rfl ?_
                  refine G.icmp_ne 345 at_338 (by decide) rfl (fun h338 => ?_) (fun h338 => ?_)
                  · replace he := he.trans (if_neg h338)
                    refine G.iconst (0) at_345 rfl ?_
                    exact G.zreturn rfl at_346 rfl (Nat.le_of_ble_eq_true rfl) (Nat.le_of_ble_eq_true rfl) ⟨congrArg (fun z => some (Value.int z)) he.symm, trivial⟩
                  · replace he := he.trans (if_pos h338)
                    refine G.iconst (1) at_341 rfl ?_
                    refine G.goto 346 at_342 (by decide) rfl ?_
                    exact G.zreturn rfl at_346 rfl (Nat.le_of_ble_eq_true rfl) (Nat.le_of_ble_eq_true rfl) ⟨congrArg (fun z => some (Value.int z)) he.symm, trivial⟩
                · replace he := he.trans (if_pos h318)
                  refine G.iload at_321 rfl ?_
                  refine G.goto 327 at_323 (by decide) rfl ?_
                  refine G.istore13 at_327 rfl ?_
                  refine G.aload at_329 rfl rfl ?_
                  refine G.iload at_331 rfl ?_
                  refine G.vcall [_] rfl at_333 (hw _ (List.mem_of_getElem? (i := 38) rfl)) (hw _ (List.mem_of_getElem? (i := 39) rfl)) (hw _ (List.mem_of_getElem? (i := 41) rfl)) (hw _ (List.mem_of_getElem? (i := 40) rfl)) (hw _ (List.mem_of_getElem? (i := 4) rfl)) (hw _ (List.mem_of_getElem? (i := 42) rfl)) (by decide) rfl (m_4_3 l Z a0 hw n0 [] _ _ _ _ _ _ _ _ _ _) own_pd3 rfl rfl (Nat.le_of_ble_eq_true rfl) (Nat.le_of_ble_eq_true rfl) (Nat.le_of_ble_eq_true rfl) (Nat.le_of_ble_eq_true rfl) (by rintro _ _ ⟨rfl, rfl⟩; rfl) ?_
                  rintro _ _ ⟨rfl, rfl⟩
                  refine G.iload at_336 rfl ?_
                  refine G.icmp_ne 345 at_338 (by decide) rfl (fun h338 => ?_) (fun h338 => ?_)
                  · replace he := he.trans (if_neg h338)
                    refine G.iconst (0) at_345 rfl ?_
                    exact G.zreturn rfl at_346 rfl (Nat.le_of_ble_eq_true rfl) (Nat.le_of_ble_eq_true rfl) ⟨congrArg (fun z => some (Value.int z)) he.symm, trivial⟩
                  · replace he := he.trans (if_pos h338)
                    refine G.iconst (1) at_341 rfl ?_
                    refine G.goto 346 at_342 (by decide) rfl ?_
                    exact G.zreturn rfl at_346 rfl (Nat.le_of_ble_eq_true rfl) (Nat.le_of_ble_eq_true rfl) ⟨congrArg (fun z => some (Value.int z)) he.symm, trivial⟩
              · replace he := he.trans (if_pos h302)
                refine G.iconst (2) at_305 rfl ?_
                refine G.istore12 at_306 rfl ?_
                refine G.goto 314 at_308 (by decide) rfl ?_
                refine G.iload at_314 rfl ?_
                refine G.iload at_316 rfl ?_
                refine G.icmp_ge 326 at_318 (by decide) rfl (fun h318 => ?_) (fun h318 => ?_)
                · replace he := he.trans (if_neg h318)
                  refine G.iconst (-1) at_326 rfl ?_
                  refine G.istore13 at_327 rfl ?_
                  refine G.aload at_329 rfl rfl ?_
                  refine G.iload at_331 rfl ?_
                  refine G.vcall [_] rfl at_333 (hw _ (List.mem_of_getElem? (i := 38) rfl)) (hw _ (List.mem_of_getElem? (i := 39) rfl)) (hw _ (List.mem_of_getElem? (i := 41) rfl)) (hw _ (List.mem_of_getElem? (i := 40) rfl)) (hw _ (List.mem_of_getElem? (i := 4) rfl)) (hw _ (List.mem_of_getElem? (i := 42) rfl)) (by decide) rfl (m_4_3 l Z a0 hw n0 [] _ _ _ _ _ _ _ _ _ _) own_pd3 rfl rfl (Nat.le_of_ble_eq_true rfl) (Nat.le_of_ble_eq_true rfl) (Nat.le_of_ble_eq_true rfl) (Nat.le_of_ble_eq_true rfl) (by rintro _ _ ⟨rfl, rfl⟩; rfl) ?_
                  rintro _ _ ⟨rfl, rfl⟩
                  refine G.iload at_336 rfl ?_
                  refine G.icmp_ne 345 at_338 (by decide) rfl (fun h338 => ?_) (fun h338 => ?_)
                  · replace he := he.trans (if_neg h338)
                    refine G.iconst (0) at_345 rfl ?_
                    exact G.zreturn rfl at_346 rfl (Nat.le_of_ble_eq_true rfl) (Nat.le_of_ble_eq_true rfl) ⟨congrArg (fun z => some (Value.int z)) he.symm, trivial⟩
                  · replace he := he.trans (if_pos h338)
                    refine G.iconst (1) at_341 rfl ?_
                    refine G.goto 346 at_342 (by decide) rfl ?_
                    exact G.zreturn rfl at_346 rfl (Nat.le_of_ble_eq_true rfl) (Nat.le_of_ble_eq_true rfl) ⟨congrArg (fun z => some (Value.int z)) he.symm, trivial⟩
                · replace he := he.trans (if_pos h318)
                  refine G.iload at_321 rfl ?_
                  refine G.goto 327 at_323 (by decide) rfl ?_
                  refine G.istore13 at_327 rfl ?_
                  refine G.aload at_329 rfl rfl ?_
                  refine G.iload at_331 rfl ?_
                  refine G.vcall [_] rfl at_333 (hw _ (List.mem_of_getElem? (i := 38) rfl)) (hw _ (List.mem_of_getElem? (i := 39) rfl)) (hw _ (List.mem_of_getElem? (i := 41) rfl)) (hw _ (List.mem_of_getElem? (i := 40) rfl)) (hw _ (List.mem_of_getElem? (i := 4) rfl)) (hw _ (List.mem_of_getElem? (i := 42) rfl)) (by decide) rfl (m_4_3 l Z a0 hw n0 [] _ _ _ _ _ _ _ _ _ _) own_pd3 rfl rfl (Nat.le_of_ble_eq_true rfl) (Nat.le_of_ble_eq_true rfl) (Nat.le_of_ble_eq_true rfl) (Nat.le_of_ble_eq_true rfl) (by rintro _ _ ⟨rfl, rfl⟩; rfl) ?_
                  rintro _ _ ⟨rfl, rfl⟩
                  refine G.iload at_336 rfl ?_
                  refine G.icmp_ne 345 at_338 (by decide) rfl (fun h338 => ?_) (fun h338 => ?_)
                  · replace he := he.trans (if_neg h338)
                    refine G.iconst (0) at_345 rfl ?_
                    exact G.zreturn rfl at_346 rfl (Nat.le_of_ble_eq_true rfl) (Nat.le_of_ble_eq_true rfl) ⟨congrArg (fun z => some (Value.int z)) he.symm, trivial⟩
                  · replace he := he.trans (if_pos h338)
                    refine G.iconst (1) at_341 rfl ?_
                    refine G.goto 346 at_342 (by decide) rfl ?_
                    exact G.zreturn rfl at_346 rfl (Nat.le_of_ble_eq_true rfl) (Nat.le_of_ble_eq_true rfl) ⟨congrArg (fun z => some (Value.int z)) he.symm, trivial⟩
            · replace he := he.trans (if_pos h282)
              refine G.iconst (1) at_285 rfl ?_
              refine G.istore12 at_286 rfl ?_
              refine G.goto 314 at_288 (by decide) rfl ?_
              refine G.iload at_314 rfl ?_
              refine G.iload at_316 rfl ?_
              refine G.icmp_ge 326 at_318 (by decide) rfl (fun h318 => ?_) (fun h318 => ?_)
              · replace he := he.trans (if_neg h318)
                refine G.iconst (-1) at_326 rfl ?_
                refine G.istore13 at_327 rfl ?_
                refine G.aload at_329 rfl rfl ?_
                refine G.iload at_331 rfl ?_
                refine G.vcall [_] rfl at_333 (hw _ (List.mem_of_getElem? (i := 38) rfl)) (hw _ (List.mem_of_getElem? (i := 39) rfl)) (hw _ (List.mem_of_getElem? (i := 41) rfl)) (hw _ (List.mem_of_getElem? (i := 40) rfl)) (hw _ (List.mem_of_getElem? (i := 4) rfl)) (hw _ (List.mem_of_getElem? (i := 42) rfl)) (by decide) rfl (m_4_3 l Z a0 hw n0 [] _ _ _ _ _ _ _ _ _ _) own_pd3 rfl rfl (Nat.le_of_ble_eq_true rfl) (Nat.le_of_ble_eq_true rfl) (Nat.le_of_ble_eq_true rfl) (Nat.le_of_ble_eq_true rfl) (by rintro _ _ ⟨rfl, rfl⟩; rfl) ?_
                rintro _ _ ⟨rfl, rfl⟩
                refine G.iload at_336 rfl ?_
                refine G.icmp_ne 345 at_338 (by decide) rfl (fun h338 => ?_) (fun h338 => ?_)
                · replace he := he.trans (if_neg h338)
                  refine G.iconst (0) at_345 rfl ?_
                  exact G.zreturn rfl at_346 rfl (Nat.le_of_ble_eq_true rfl) (Nat.le_of_ble_eq_true rfl) ⟨congrArg (fun z => some (Value.int z)) he.symm, trivial⟩
                · replace he := he.trans (if_pos h338)
                  refine G.iconst (1) at_341 rfl ?_
                  refine G.goto 346 at_342 (by decide) rfl ?_
                  exact G.zreturn rfl at_346 rfl (Nat.le_of_ble_eq_true rfl) (Nat.le_of_ble_eq_true rfl) ⟨congrArg (fun z => some (Value.int z)) he.symm, trivial⟩
              · replace he := he.trans (if_pos h318)
                refine G.iload at_321 rfl ?_
                refine G.goto 327 at_323 (by decide) rfl ?_
                refine G.istore13 at_327 rfl ?_
                refine G.aload at_329 rfl rfl ?_
                refine G.iload at_331 rfl ?_
                refine G.vcall [_] rfl at_333 (hw _ (List.mem_of_getElem? (i := 38) rfl)) (hw _ (List.mem_of_getElem? (i := 39) rfl)) (hw _ (List.mem_of_getElem? (i := 41) rfl)) (hw _ (List.mem_of_getElem? (i := 40) rfl)) (hw _ (List.mem_of_getElem? (i := 4) rfl)) (hw _ (List.mem_of_getElem? (i := 42) rfl)) (by decide) rfl (m_4_3 l Z a0 hw n0 [] _ _ _ _ _ _ _ _ _ _) own_pd3 rfl rfl (Nat.le_of_ble_eq_true rfl) (Nat.le_of_ble_eq_true rfl) (Nat.le_of_ble_eq_true rfl) (Nat.le_of_ble_eq_true rfl) (by rintro _ _ ⟨rfl, rfl⟩; rfl) ?_
                rintro _ _ ⟨rfl, rfl⟩
                refine G.iload at_336 rfl ?_
                refine G.icmp_ne 345 at_338 (by decide) rfl (fun h338 => ?_) (fun h338 => ?_)
                · replace he := he.trans (if_neg h338)
                  refine G.iconst (0) at_345 rfl ?_
                  exact G.zreturn rfl at_346 rfl (Nat.le_of_ble_eq_true rfl) (Nat.le_of_ble_eq_true rfl) ⟨congrArg (fun z => some (Value.int z)) he.symm, trivial⟩
                · replace he := he.trans (if_pos h338)
                  refine G.iconst (1) at_341 rfl ?_
                  refine G.goto 346 at_342 (by decide) rfl ?_
                  exact G.zreturn rfl at_346 rfl (Nat.le_of_ble_eq_true rfl) (Nat.le_of_ble_eq_true rfl) ⟨congrArg (fun z => some (Value.int z)) he.symm, trivial⟩
          · replace he := he.trans (if_pos h262)
            refine G.iconst (0) at_265 rfl ?_
            refine G.istore12 at_266 rfl ?_
            refine G.goto 314 at_268 (by decide) rfl ?_
            refine G.iload at_314 rfl ?_
            refine G.iload at_316 rfl ?_
            refine G.icmp_ge 326 at_318 (by decide) rfl (fun h318 => ?_) (fun h318 => ?_)
            · replace he := he.trans (if_neg h318)
              refine G.iconst (-1) at_326 rfl ?_
              refine G.istore13 at_327 rfl ?_
              refine G.aload at_329 rfl rfl ?_
              refine G.iload at_331 rfl ?_
              refine G.vcall [_] rfl at_333 (hw _ (List.mem_of_getElem? (i := 38) rfl)) (hw _ (List.mem_of_getElem? (i := 39) rfl)) (hw _ (List.mem_of_getElem? (i := 41) rfl)) (hw _ (List.mem_of_getElem? (i := 40) rfl)) (hw _ (List.mem_of_getElem? (i := 4) rfl)) (hw _ (List.mem_of_getElem? (i := 42) rfl)) (by decide) rfl (m_4_3 l Z a0 hw n0 [] _ _ _ _ _ _ _ _ _ _) own_pd3 rfl rfl (Nat.le_of_ble_eq_true rfl) (Nat.le_of_ble_eq_true rfl) (Nat.le_of_ble_eq_true rfl) (Nat.le_of_ble_eq_true rfl) (by rintro _ _ ⟨rfl, rfl⟩; rfl) ?_
              rintro _ _ ⟨rfl, rfl⟩
              refine G.iload at_336 rfl ?_
              refine G.icmp_ne 345 at_338 (by decide) rfl (fun h338 => ?_) (fun h338 => ?_)
              · replace he := he.trans (if_neg h338)
                refine G.iconst (0) at_345 rfl ?_
                exact G.zreturn rfl at_346 rfl (Nat.le_of_ble_eq_true rfl) (Nat.le_of_ble_eq_true rfl) ⟨congrArg (fun z => some (Value.int z)) he.symm, trivial⟩
              · replace he := he.trans (if_pos h338)
                refine G.iconst (1) at_341 rfl ?_
                refine G.goto 346 at_342 (by decide) rfl ?_
                exact G.zreturn rfl at_346 rfl (Nat.le_of_ble_eq_true rfl) (Nat.le_of_ble_eq_true rfl) ⟨congrArg (fun z => some (Value.int z)) he.symm, trivial⟩
            · replace he := he.trans (if_pos h318)
              refine G.iload at_321 rfl ?_
              refine G.goto 327 at_323 (by decide) rfl ?_
              refine G.istore13 at_327 rfl ?_
              refine G.aload at_329 rfl rfl ?_
              refine G.iload at_331 rfl ?_
              refine G.vcall [_] rfl at_333 (hw _ (List.mem_of_getElem? (i := 38) rfl)) (hw _ (List.mem_of_getElem? (i := 39) rfl)) (hw _ (List.mem_of_getElem? (i := 41) rfl)) (hw _ (List.mem_of_getElem? (i := 40) rfl)) (hw _ (List.mem_of_getElem? (i := 4) rfl)) (hw _ (List.mem_of_getElem? (i := 42) rfl)) (by decide) rfl (m_4_3 l Z a0 hw n0 [] _ _ _ _ _ _ _ _ _ _) own_pd3 rfl rfl (Nat.le_of_ble_eq_true rfl) (Nat.le_of_ble_eq_true rfl) (Nat.le_of_ble_eq_true rfl) (Nat.le_of_ble_eq_true rfl) (by rintro _ _ ⟨rfl, rfl⟩; rfl) ?_
              rintro _ _ ⟨rfl, rfl⟩
              refine G.iload at_336 rfl ?_
              refine G.icmp_ne 345 at_338 (by decide) rfl (fun h338 => ?_) (fun h338 => ?_)
              · replace he := he.trans (if_neg h338)
                refine G.iconst (0) at_345 rfl ?_
                exact G.zreturn rfl at_346 rfl (Nat.le_of_ble_eq_true rfl) (Nat.le_of_ble_eq_true rfl) ⟨congrArg (fun z => some (Value.int z)) he.symm, trivial⟩
              · replace he := he.trans (if_pos h338)
                refine G.iconst (1) at_341 rfl ?_
                refine G.goto 346 at_342 (by decide) rfl ?_
                exact G.zreturn rfl at_346 rfl (Nat.le_of_ble_eq_true rfl) (Nat.le_of_ble_eq_true rfl) ⟨congrArg (fun z => some (Value.int z)) he.symm, trivial⟩
      · replace he := he.trans (if_neg h14)
        refine G.iconst (3) at_17 rfl ?_
        refine G.istoreN3 at_18 rfl ?_
        refine G.iloadN at_19 rfl ?_
        refine G.iconst (3) at_20 rfl ?_
        refine G.icmp_le 26 at_21 (by decide) rfl (fun _ => ?_) (fun h21 => absurd h21 (by decide))
        refine G.iloadN at_26 rfl ?_
        refine G.iconst (2) at_27 rfl ?_
        refine G.ishr at_28 ?_
        refine G.iconst (3) at_29 rfl ?_
        refine G.iand at_30 ?_
        refine G.istore4 at_31 rfl ?_
        refine G.iload at_33 rfl ?_
        refine G.iconst (1) at_35 rfl ?_
        refine G.iadd at_36 ?_
        refine G.iloadN at_37 rfl ?_
        refine G.iconst (4) at_38 rfl ?_
        refine G.ishr at_39 ?_
        refine G.iconst (3) at_40 rfl ?_
        refine G.iand at_41 ?_
        refine G.iadd at_42 ?_
        refine G.istore5 at_43 rfl ?_
        refine G.iload at_45 rfl ?_
        refine G.iconst (1) at_47 rfl ?_
        refine G.iadd at_48 ?_
        refine G.iloadN at_49 rfl ?_
        refine G.bipush (6) at_50 rfl ?_
        refine G.ishr at_52 ?_
        refine G.iconst (3) at_53 rfl ?_
        refine G.iand at_54 ?_
        refine G.iadd at_55 ?_
        refine G.istore6 at_56 rfl ?_
        refine G.iloadN at_58 rfl ?_
        refine G.if_ne 80 at_59 (by decide) rfl (fun _ => ?_) (fun h59 => absurd h59 (by decide))
        refine G.iloadN at_80 rfl ?_
        refine G.iconst (1) at_81 rfl ?_
        refine G.icmp_ne 116 at_82 (by decide) rfl (fun _ => ?_) (fun h82 => absurd h82 (by decide))
        refine G.iloadN at_116 rfl ?_
        refine G.iconst (2) at_117 rfl ?_
        refine G.icmp_ne 165 at_118 (by decide) rfl (fun _ => ?_) (fun h118 => absurd h118 (by decide))
        refine G.iconst (3) at_165 rfl ?_
        refine G.newarr 3 3 at_166 (hw _ (List.mem_of_getElem? (i := 0) rfl)) (by decide) (Nat.le_of_ble_eq_true rfl) (by decide) (Nat.le_of_ble_eq_true rfl) (Nat.le_of_ble_eq_true rfl) rfl ?_
        try simp only [List.set_cons_zero, List.set_cons_succ, List.length_cons, List.length_nil, List.nil_append, List.cons_append, Nat.zero_add, Nat.reduceAdd]
        refine G.dup at_168 rfl ?_
        refine G.iconst (0) at_169 rfl ?_
        refine G.iload at_170 rfl ?_
        refine G.iast (0) at_172 rfl (by decide) (Nat.le_of_ble_eq_true rfl) ?_
        try simp only [List.set_cons_zero, List.set_cons_succ, List.length_cons, List.length_nil, List.nil_append, List.cons_append, Nat.zero_add, Nat.reduceAdd]
        refine G.dup at_173 rfl ?_
        refine G.iconst (1) at_174 rfl ?_
        refine G.iload at_175 rfl ?_
        refine G.iast (1) at_177 rfl (by decide) (Nat.le_of_ble_eq_true rfl) ?_
        try simp only [List.set_cons_zero, List.set_cons_succ, List.length_cons, List.length_nil, List.nil_append, List.cons_append, Nat.zero_add, Nat.reduceAdd]
        refine G.dup at_178 rfl ?_
        refine G.iconst (2) at_179 rfl ?_
        refine G.iload at_180 rfl ?_
        refine G.iast (2) at_182 rfl (by decide) (Nat.le_of_ble_eq_true rfl) ?_
        try simp only [List.set_cons_zero, List.set_cons_succ, List.length_cons, List.length_nil, List.nil_append, List.cons_append, Nat.zero_add, Nat.reduceAdd]
        refine G.astore7 at_183 rfl rfl ?_
        refine G.iconst (3) at_185 rfl ?_
        refine G.newarr 3 3 at_186 (hw _ (List.mem_of_getElem? (i := 1) rfl)) (by decide) (Nat.le_of_ble_eq_true rfl) (by decide) (Nat.le_of_ble_eq_true rfl) (Nat.le_of_ble_eq_true rfl) rfl ?_
        try simp only [List.set_cons_zero, List.set_cons_succ, List.length_cons, List.length_nil, List.nil_append, List.cons_append, Nat.zero_add, Nat.reduceAdd]
        refine G.dup at_188 rfl ?_
        refine G.iconst (0) at_189 rfl ?_
        refine G.lconst (1) at_190 rfl ?_
        refine G.last (0) at_191 rfl (by decide) (Nat.le_of_ble_eq_true rfl) ?_
        try simp only [List.set_cons_zero, List.set_cons_succ, List.length_cons, List.length_nil, List.nil_append, List.cons_append, Nat.zero_add, Nat.reduceAdd]
        refine G.dup at_192 rfl ?_
        refine G.iconst (1) at_193 rfl ?_
        refine G.lconst (1) at_194 rfl ?_
        refine G.last (1) at_195 rfl (by decide) (Nat.le_of_ble_eq_true rfl) ?_
        try simp only [List.set_cons_zero, List.set_cons_succ, List.length_cons, List.length_nil, List.nil_append, List.cons_append, Nat.zero_add, Nat.reduceAdd]
        refine G.dup at_196 rfl ?_
        refine G.iconst (2) at_197 rfl ?_
        refine G.lconst (1) at_198 rfl ?_
        refine G.last (2) at_199 rfl (by decide) (Nat.le_of_ble_eq_true rfl) ?_
        try simp only [List.set_cons_zero, List.set_cons_succ, List.length_cons, List.length_nil, List.nil_append, List.cons_append, Nat.zero_add, Nat.reduceAdd]
        refine G.astore8 at_200 rfl rfl ?_
        refine G.iconst (3) at_202 rfl ?_
        refine G.newarr 3 3 at_203 (hw _ (List.mem_of_getElem? (i := 1) rfl)) (by decide) (Nat.le_of_ble_eq_true rfl) (by decide) (Nat.le_of_ble_eq_true rfl) (Nat.le_of_ble_eq_true rfl) rfl ?_
        try simp only [List.set_cons_zero, List.set_cons_succ, List.length_cons, List.length_nil, List.nil_append, List.cons_append, Nat.zero_add, Nat.reduceAdd]
        refine G.dup at_205 rfl ?_
        refine G.iconst (0) at_206 rfl ?_
        refine G.lconst (0) at_207 rfl ?_
        refine G.last (0) at_208 rfl (by decide) (Nat.le_of_ble_eq_true rfl) ?_
        try simp only [List.set_cons_zero, List.set_cons_succ, List.length_cons, List.length_nil, List.nil_append, List.cons_append, Nat.zero_add, Nat.reduceAdd]
        refine G.dup at_209 rfl ?_
        refine G.iconst (1) at_210 rfl ?_
        refine G.lconst (0) at_211 rfl ?_
        refine G.last (1) at_212 rfl (by decide) (Nat.le_of_ble_eq_true rfl) ?_
        try simp only [List.set_cons_zero, List.set_cons_succ, List.length_cons, List.length_nil, List.nil_append, List.cons_append, Nat.zero_add, Nat.reduceAdd]
        refine G.dup at_213 rfl ?_
        refine G.iconst (2) at_214 rfl ?_
        refine G.lconst (0) at_215 rfl ?_
        refine G.last (2) at_216 rfl (by decide) (Nat.le_of_ble_eq_true rfl) ?_
        try simp only [List.set_cons_zero, List.set_cons_succ, List.length_cons, List.length_nil, List.nil_append, List.cons_append, Nat.zero_add, Nat.reduceAdd]
        refine G.astore9 at_217 rfl rfl ?_
        refine G.newo at_219 (hw _ (List.mem_of_getElem? (i := 2) rfl)) (hw _ (List.mem_of_getElem? (i := 3) rfl)) (hw _ (List.mem_of_getElem? (i := 4) rfl)) (own_fo Z a0 hw) (Nat.le_of_ble_eq_true rfl) (Nat.le_of_ble_eq_true rfl) ?_
        try simp only [List.set_cons_zero, List.set_cons_succ, List.length_cons, List.length_nil, List.nil_append, List.cons_append, Nat.zero_add, Nat.reduceAdd]
        refine G.dup at_222 rfl ?_
        refine G.aload at_223 rfl rfl ?_
        refine G.aload at_225 rfl rfl ?_
        refine G.aload at_227 rfl rfl ?_
        refine G.lconst (0) at_229 rfl ?_
        refine G.ncall [_, _, _, _] rfl at_230 rfl (hw _ (List.mem_of_getElem? (i := 5) rfl)) (hw _ (List.mem_of_getElem? (i := 6) rfl)) (hw _ (List.mem_of_getElem? (i := 4) rfl)) (hw _ (List.mem_of_getElem? (i := 7) rfl)) (by decide) (m_1_3 l Z a0 hw n0 [] _ _ _ _ _ _ _ _ _ _ (own_q _ 0 0).1.1 (own_q _ 0 0).1.2 (by decide) (by decide) (own_q _ _ 0).2.1.1 (own_q _ _ 0).2.1.2 (by decide) (by decide) (own_q _ _ _).2.2.1.1 (own_q _ _ _).2.2.1.2 (by decide) (by decide) (by decide)) own_pd1 rfl rfl (Nat.le_of_ble_eq_true rfl) (Nat.le_of_ble_eq_true rfl) (Nat.le_of_ble_eq_true rfl) (Nat.le_of_ble_eq_true rfl) (by rintro _ _ ⟨rfl, rfl⟩; rfl) ?_
        rintro _ _ ⟨rfl, rfl⟩
        refine G.astore10 at_233 rfl rfl ?_
        refine G.iloadN at_235 rfl ?_
        refine G.iconst (1) at_236 rfl ?_
        refine G.iand at_237 ?_
        refine G.if_eq 245 at_238 (by decide) rfl (fun h238 => ?_) (fun h238 => ?_)
        · replace he := he.trans (if_pos h238)
          refine G.iloadN at_245 rfl ?_
          refine G.bipush (6) at_246 rfl ?_
          refine G.irem at_248 (by decide) ?_
          refine G.istore11 at_249 rfl ?_
          refine G.iloadN at_251 rfl ?_
          refine G.iload at_252 rfl ?_
          refine G.iload at_254 rfl ?_
          refine G.iload at_256 rfl ?_
          refine G.iconst (0) at_258 rfl ?_
          refine G.scall [_, _, _, _, _] rfl at_259 (hw _ (List.mem_of_getElem? (i := 34) rfl)) (hw _ (List.mem_of_getElem? (i := 35) rfl)) (hw _ (List.mem_of_getElem? (i := 36) rfl)) (hw _ (List.mem_of_getElem? (i := 37) rfl)) (by decide) (m_3 l Z a0 hw n0 [] _ _ _ _ _ _) own_pd2 rfl rfl (Nat.le_of_ble_eq_true rfl) (Nat.le_of_ble_eq_true rfl) (Nat.le_of_ble_eq_true rfl) (Nat.le_of_ble_eq_true rfl) (by rintro _ _ ⟨rfl, rfl⟩; rfl) ?_
          rintro _ _ ⟨rfl, rfl⟩
          refine G.if_ne 271 at_262 (by decide) rfl (fun h262 => ?_) (fun h262 => ?_)
          · replace he := he.trans (if_neg h262)
            refine G.iloadN at_271 rfl ?_
            refine G.iload at_272 rfl ?_
            refine G.iload at_274 rfl ?_
            refine G.iload at_276 rfl ?_
            refine G.iconst (1) at_278 rfl ?_
            refine G.scall [_, _, _, _, _] rfl at_279 (hw _ (List.mem_of_getElem? (i := 34) rfl)) (hw _ (List.mem_of_getElem? (i := 35) rfl)) (hw _ (List.mem_of_getElem? (i := 36) rfl)) (hw _ (List.mem_of_getElem? (i := 37) rfl)) (by decide) (m_3 l Z a0 hw n0 [] _ _ _ _ _ _) own_pd2 rfl rfl (Nat.le_of_ble_eq_true rfl) (Nat.le_of_ble_eq_true rfl) (Nat.le_of_ble_eq_true rfl) (Nat.le_of_ble_eq_true rfl) (by rintro _ _ ⟨rfl, rfl⟩; rfl) ?_
            rintro _ _ ⟨rfl, rfl⟩
            refine G.if_ne 291 at_282 (by decide) rfl (fun h282 => ?_) (fun h282 => ?_)
            · replace he := he.trans (if_neg h282)
              refine G.iloadN at_291 rfl ?_
              refine G.iload at_292 rfl ?_
              refine G.iload at_294 rfl ?_
              refine G.iload at_296 rfl ?_
              refine G.iconst (2) at_298 rfl ?_
              refine G.scall [_, _, _, _, _] rfl at_299 (hw _ (List.mem_of_getElem? (i := 34) rfl)) (hw _ (List.mem_of_getElem? (i := 35) rfl)) (hw _ (List.mem_of_getElem? (i := 36) rfl)) (hw _ (List.mem_of_getElem? (i := 37) rfl)) (by decide) (m_3 l Z a0 hw n0 [] _ _ _ _ _ _) own_pd2 rfl rfl (Nat.le_of_ble_eq_true rfl) (Nat.le_of_ble_eq_true rfl) (Nat.le_of_ble_eq_true rfl) (Nat.le_of_ble_eq_true rfl) (by rintro _ _ ⟨rfl, rfl⟩; rfl) ?_
              rintro _ _ ⟨rfl, rfl⟩
              refine G.if_ne 311 at_302 (by decide) rfl (fun h302 => ?_) (fun h302 => ?_)
              · replace he := he.trans (if_neg h302)
                refine G.iconst (3) at_311 rfl ?_
                refine G.istore12 at_312 rfl ?_
                refine G.iload at_314 rfl ?_
                refine G.iload at_316 rfl ?_
                refine G.icmp_ge 326 at_318 (by decide) rfl (fun h318 => ?_) (fun h318 => ?_)
                · replace he := he.trans (if_neg h318)
                  refine G.iconst (-1) at_326 rfl ?_
                  refine G.istore13 at_327 rfl ?_
                  refine G.aload at_329 rfl rfl ?_
                  refine G.iload at_331 rfl ?_
                  refine G.vcall [_] rfl at_333 (hw _ (List.mem_of_getElem? (i := 38) rfl)) (hw _ (List.mem_of_getElem? (i := 39) rfl)) (hw _ (List.mem_of_getElem? (i := 41) rfl)) (hw _ (List.mem_of_getElem? (i := 40) rfl)) (hw _ (List.mem_of_getElem? (i := 4) rfl)) (hw _ (List.mem_of_getElem? (i := 42) rfl)) (by decide) rfl (m_4_3 l Z a0 hw n0 [] _ _ _ _ _ _ _ _ _ _) own_pd3 rfl rfl (Nat.le_of_ble_eq_true rfl) (Nat.le_of_ble_eq_true rfl) (Nat.le_of_ble_eq_true rfl) (Nat.le_of_ble_eq_true rfl) (by rintro _ _ ⟨rfl, rfl⟩; rfl) ?_
                  rintro _ _ ⟨rfl, rfl⟩
                  refine G.iload at_336 rfl ?_
                  refine G.icmp_ne 345 at_338 (by decide) rfl (fun h338 => ?_) (fun h338 => ?_)
                  · replace he := he.trans (if_neg h338)
                    refine G.iconst (0) at_345 rfl ?_
                    exact G.zreturn rfl at_346 rfl (Nat.le_of_ble_eq_true rfl) (Nat.le_of_ble_eq_true rfl) ⟨congrArg (fun z => some (Value.int z)) he.symm, trivial⟩
                  · replace he := he.trans (if_pos h338)
                    refine G.iconst (1) at_341 rfl ?_
                    refine G.goto 346 at_342 (by decide) rfl ?_
                    exact G.zreturn rfl at_346 rfl (Nat.le_of_ble_eq_true rfl) (Nat.le_of_ble_eq_true rfl) ⟨congrArg (fun z => some (Value.int z)) he.symm, trivial⟩
                · replace he := he.trans (if_pos h318)
                  refine G.iload at_321 rfl ?_
                  refine G.goto 327 at_323 (by decide) rfl ?_
                  refine G.istore13 at_327 rfl ?_
                  refine G.aload at_329 rfl rfl ?_
                  refine G.iload at_331 rfl ?_
                  refine G.vcall [_] rfl at_333 (hw _ (List.mem_of_getElem? (i := 38) rfl)) (hw _ (List.mem_of_getElem? (i := 39) rfl)) (hw _ (List.mem_of_getElem? (i := 41) rfl)) (hw _ (List.mem_of_getElem? (i := 40) rfl)) (hw _ (List.mem_of_getElem? (i := 4) rfl)) (hw _ (List.mem_of_getElem? (i := 42) rfl)) (by decide) rfl (m_4_3 l Z a0 hw n0 [] _ _ _ _ _ _ _ _ _ _) own_pd3 rfl rfl (Nat.le_of_ble_eq_true rfl) (Nat.le_of_ble_eq_true rfl) (Nat.le_of_ble_eq_true rfl) (Nat.le_of_ble_eq_true rfl) (by rintro _ _ ⟨rfl, rfl⟩; rfl) ?_
                  rintro _ _ ⟨rfl, rfl⟩
                  refine G.iload at_336 rfl ?_
                  refine G.icmp_ne 345 at_338 (by decide) rfl (fun h338 => ?_) (fun h338 => ?_)
                  · replace he := he.trans (if_neg h338)
                    refine G.iconst (0) at_345 rfl ?_
                    exact G.zreturn rfl at_346 rfl (Nat.le_of_ble_eq_true rfl) (Nat.le_of_ble_eq_true rfl) ⟨congrArg (fun z => some (Value.int z)) he.symm, trivial⟩
                  · replace he := he.trans (if_pos h338)
                    refine G.iconst (1) at_341 rfl ?_
                    refine G.goto 346 at_342 (by decide) rfl ?_
                    exact G.zreturn rfl at_346 rfl (Nat.le_of_ble_eq_true rfl) (Nat.le_of_ble_eq_true rfl) ⟨congrArg (fun z => some (Value.int z)) he.symm, trivial⟩
              · replace he := he.trans (if_pos h302)
                refine G.iconst (2) at_305 rfl ?_
                refine G.istore12 at_306 rfl ?_
                refine G.goto 314 at_308 (by decide) rfl ?_
                refine G.iload at_314 rfl ?_
                refine G.iload at_316 rfl ?_
                refine G.icmp_ge 326 at_318 (by decide) rfl (fun h318 => ?_) (fun h318 => ?_)
                · replace he := he.trans (if_neg h318)
                  refine G.iconst (-1) at_326 rfl ?_
                  refine G.istore13 at_327 rfl ?_
                  refine G.aload at_329 rfl rfl ?_
                  refine G.iload at_331 rfl ?_
                  refine G.vcall [_] rfl at_333 (hw _ (List.mem_of_getElem? (i := 38) rfl)) (hw _ (List.mem_of_getElem? (i := 39) rfl)) (hw _ (List.mem_of_getElem? (i := 41) rfl)) (hw _ (List.mem_of_getElem? (i := 40) rfl)) (hw _ (List.mem_of_getElem? (i := 4) rfl)) (hw _ (List.mem_of_getElem? (i := 42) rfl)) (by decide) rfl (m_4_3 l Z a0 hw n0 [] _ _ _ _ _ _ _ _ _ _) own_pd3 rfl rfl (Nat.le_of_ble_eq_true rfl) (Nat.le_of_ble_eq_true rfl) (Nat.le_of_ble_eq_true rfl) (Nat.le_of_ble_eq_true rfl) (by rintro _ _ ⟨rfl, rfl⟩; rfl) ?_
                  rintro _ _ ⟨rfl, rfl⟩
                  refine G.iload at_336 rfl ?_
                  refine G.icmp_ne 345 at_338 (by decide) rfl (fun h338 => ?_) (fun h338 => ?_)
                  · replace he := he.trans (if_neg h338)
                    refine G.iconst (0) at_345 rfl ?_
                    exact G.zreturn rfl at_346 rfl (Nat.le_of_ble_eq_true rfl) (Nat.le_of_ble_eq_true rfl) ⟨congrArg (fun z => some (Value.int z)) he.symm, trivial⟩
                  · replace he := he.trans (if_pos h338)
                    refine G.iconst (1) at_341 rfl ?_
                    refine G.goto 346 at_342 (by decide) rfl ?_
                    exact G.zreturn rfl at_346 rfl (Nat.le_of_ble_eq_true rfl) (Nat.le_of_ble_eq_true rfl) ⟨congrArg (fun z => some (Value.int z)) he.symm, trivial⟩
                · replace he := he.trans (if_pos h318)
                  refine G.iload at_321 rfl ?_
                  refine G.goto 327 at_323 (by decide) rfl ?_
                  refine G.istore13 at_327 rfl ?_
                  refine G.aload at_329 rfl rfl ?_
                  refine G.iload at_331 rfl ?_
                  refine G.vcall [_] rfl at_333 (hw _ (List.mem_of_getElem? (i := 38) rfl)) (hw _ (List.mem_of_getElem? (i := 39) rfl)) (hw _ (List.mem_of_getElem? (i := 41) rfl)) (hw _ (List.mem_of_getElem? (i := 40) rfl)) (hw _ (List.mem_of_getElem? (i := 4) rfl)) (hw _ (List.mem_of_getElem? (i := 42) rfl)) (by decide) rfl (m_4_3 l Z a0 hw n0 [] _ _ _ _ _ _ _ _ _ _) own_pd3 rfl rfl (Nat.le_of_ble_eq_true rfl) (Nat.le_of_ble_eq_true rfl) (Nat.le_of_ble_eq_true rfl) (Nat.le_of_ble_eq_true rfl) (by rintro _ _ ⟨rfl, rfl⟩; rfl) ?_
                  rintro _ _ ⟨rfl, rfl⟩
                  refine G.iload at_336 rfl ?_
                  refine G.icmp_ne 345 at_338 (by decide) rfl (fun h338 => ?_) (fun h338 => ?_)
                  · replace he := he.trans (if_neg h338)
                    refine G.iconst (0) at_345 rfl ?_
                    exact G.zreturn rfl at_346 rfl (Nat.le_of_ble_eq_true rfl) (Nat.le_of_ble_eq_true rfl) ⟨congrArg (fun z => some (Value.int z)) he.symm, trivial⟩
                  · replace he := he.trans (if_pos h338)
                    refine G.iconst (1) at_341 rfl ?_
                    refine G.goto 346 at_342 (by decide) rfl ?_
                    exact G.zreturn rfl at_346 rfl (Nat.le_of_ble_eq_true rfl) (Nat.le_of_ble_eq_true rfl) ⟨congrArg (fun z => some (Value.int z)) he.symm, trivial⟩
            · replace he := he.trans (if_pos h282)
              refine G.iconst (1) at_285 rfl ?_
              refine G.istore12 at_286 rfl ?_
              refine G.goto 314 at_288 (by decide) rfl ?_
              refine G.iload at_314 rfl ?_
              refine G.iload at_316 rfl ?_
              refine G.icmp_ge 326 at_318 (by decide) rfl (fun h318 => ?_) (fun h318 => ?_)
              · replace he := he.trans (if_neg h318)
                refine G.iconst (-1) at_326 rfl ?_
                refine G.istore13 at_327 rfl ?_
                refine G.aload at_329 rfl rfl ?_
                refine G.iload at_331 rfl ?_
                refine G.vcall [_] rfl at_333 (hw _ (List.mem_of_getElem? (i := 38) rfl)) (hw _ (List.mem_of_getElem? (i := 39) rfl)) (hw _ (List.mem_of_getElem? (i := 41) rfl)) (hw _ (List.mem_of_getElem? (i := 40) rfl)) (hw _ (List.mem_of_getElem? (i := 4) rfl)) (hw _ (List.mem_of_getElem? (i := 42) rfl)) (by decide) rfl (m_4_3 l Z a0 hw n0 [] _ _ _ _ _ _ _ _ _ _) own_pd3 rfl rfl (Nat.le_of_ble_eq_true rfl) (Nat.le_of_ble_eq_true rfl) (Nat.le_of_ble_eq_true rfl) (Nat.le_of_ble_eq_true rfl) (by rintro _ _ ⟨rfl, rfl⟩; rfl) ?_
                rintro _ _ ⟨rfl, rfl⟩
                refine G.iload at_336 rfl ?_
                refine G.icmp_ne 345 at_338 (by decide) rfl (fun h338 => ?_) (fun h338 => ?_)
                · replace he := he.trans (if_neg h338)
                  refine G.iconst (0) at_345 rfl ?_
                  exact G.zreturn rfl at_346 rfl (Nat.le_of_ble_eq_true rfl) (Nat.le_of_ble_eq_true rfl) ⟨congrArg (fun z => some (Value.int z)) he.symm, trivial⟩
                · replace he := he.trans (if_pos h338)
                  refine G.iconst (1) at_341 rfl ?_
                  refine G.goto 346 at_342 (by decide) rfl ?_
                  exact G.zreturn rfl at_346 rfl (Nat.le_of_ble_eq_true rfl) (Nat.le_of_ble_eq_true rfl) ⟨congrArg (fun z => some (Value.int z)) he.symm, trivial⟩
              · replace he := he.trans (if_pos h318)
                refine G.iload at_321 rfl ?_
                refine G.goto 327 at_323 (by decide) rfl ?_
                refine G.istore13 at_327 rfl ?_
                refine G.aload at_329 rfl rfl ?_
                refine G.iload at_331 rfl ?_
                refine G.vcall [_] rfl at_333 (hw _ (List.mem_of_getElem? (i := 38) rfl)) (hw _ (List.mem_of_getElem? (i := 39) rfl)) (hw _ (List.mem_of_getElem? (i := 41) rfl)) (hw _ (List.mem_of_getElem? (i := 40) rfl)) (hw _ (List.mem_of_getElem? (i := 4) rfl)) (hw _ (List.mem_of_getElem? (i := 42) rfl)) (by decide) rfl (m_4_3 l Z a0 hw n0 [] _ _ _ _ _ _ _ _ _ _) own_pd3 rfl rfl (Nat.le_of_ble_eq_true rfl) (Nat.le_of_ble_eq_true rfl) (Nat.le_of_ble_eq_true rfl) (Nat.le_of_ble_eq_true rfl) (by rintro _ _ ⟨rfl, rfl⟩; rfl) ?_
                rintro _ _ ⟨rfl, rfl⟩
                refine G.iload at_336 rfl ?_
                refine G.icmp_ne 345 at_338 (by decide) rfl (fun h338 => ?_) (fun h338 => ?_)
                · replace he := he.trans (if_neg h338)
                  refine G.iconst (0) at_345 rfl ?_
                  exact G.zreturn rfl at_346 rfl (Nat.le_of_ble_eq_true rfl) (Nat.le_of_ble_eq_true rfl) ⟨congrArg (fun z => some (Value.int z)) he.symm, trivial⟩
                · replace he := he.trans (if_pos h338)
                  refine G.iconst (1) at_341 rfl ?_
                  refine G.goto 346 at_342 (by decide) rfl ?_
                  exact G.zreturn rfl at_346 rfl (Nat.le_of_ble_eq_true rfl) (Nat.le_of_ble_eq_true rfl) ⟨congrArg (fun z => some (Value.int z)) he.symm, trivial⟩
          · replace he := he.trans (if_pos h262)
            refine G.iconst (0) at_265 rfl ?_
            refine G.istore12 at_266 rfl ?_
            refine G.goto 314 at_268 (by decide) rfl ?_
            refine G.iload at_314 rfl ?_
            refine G.iload at_316 rfl ?_
            refine G.icmp_ge 326 at_318 (by decide) rfl (fun h318 => ?_) (fun h318 => ?_)
            · replace he := he.trans (if_neg h318)
              refine G.iconst (-1) at_326 rfl ?_
              refine G.istore13 at_327 rfl ?_
              refine G.aload at_329 rfl rfl ?_
              refine G.iload at_331 rfl ?_
              refine G.vcall [_] rfl at_333 (hw _ (List.mem_of_getElem? (i := 38) rfl)) (hw _ (List.mem_of_getElem? (i := 39) rfl)) (hw _ (List.mem_of_getElem? (i := 41) rfl)) (hw _ (List.mem_of_getElem? (i := 40) rfl)) (hw _ (List.mem_of_getElem? (i := 4) rfl)) (hw _ (List.mem_of_getElem? (i := 42) rfl)) (by decide) rfl (m_4_3 l Z a0 hw n0 [] _ _ _ _ _ _ _ _ _ _) own_pd3 rfl rfl (Nat.le_of_ble_eq_true rfl) (Nat.le_of_ble_eq_true rfl) (Nat.le_of_ble_eq_true rfl) (Nat.le_of_ble_eq_true rfl) (by rintro _ _ ⟨rfl, rfl⟩; rfl) ?_
              rintro _ _ ⟨rfl, rfl⟩
              refine G.iload at_336 rfl ?_
              refine G.icmp_ne 345 at_338 (by decide) rfl (fun h338 => ?_) (fun h338 => ?_)
              · replace he := he.trans (if_neg h338)
                refine G.iconst (0) at_345 rfl ?_
                exact G.zreturn rfl at_346 rfl (Nat.le_of_ble_eq_true rfl) (Nat.le_of_ble_eq_true rfl) ⟨congrArg (fun z => some (Value.int z)) he.symm, trivial⟩
              · replace he := he.trans (if_pos h338)
                refine G.iconst (1) at_341 rfl ?_
                refine G.goto 346 at_342 (by decide) rfl ?_
                exact G.zreturn rfl at_346 rfl (Nat.le_of_ble_eq_true rfl) (Nat.le_of_ble_eq_true rfl) ⟨congrArg (fun z => some (Value.int z)) he.symm, trivial⟩
            · replace he := he.trans (if_pos h318)
              refine G.iload at_321 rfl ?_
              refine G.goto 327 at_323 (by decide) rfl ?_
              refine G.istore13 at_327 rfl ?_
              refine G.aload at_329 rfl rfl ?_
              refine G.iload at_331 rfl ?_
              refine G.vcall [_] rfl at_333 (hw _ (List.mem_of_getElem? (i := 38) rfl)) (hw _ (List.mem_of_getElem? (i := 39) rfl)) (hw _ (List.mem_of_getElem? (i := 41) rfl)) (hw _ (List.mem_of_getElem? (i := 40) rfl)) (hw _ (List.mem_of_getElem? (i := 4) rfl)) (hw _ (List.mem_of_getElem? (i := 42) rfl)) (by decide) rfl (m_4_3 l Z a0 hw n0 [] _ _ _ _ _ _ _ _ _ _) own_pd3 rfl rfl (Nat.le_of_ble_eq_true rfl) (Nat.le_of_ble_eq_true rfl) (Nat.le_of_ble_eq_true rfl) (Nat.le_of_ble_eq_true rfl) (by rintro _ _ ⟨rfl, rfl⟩; rfl) ?_
              rintro _ _ ⟨rfl, rfl⟩
              refine G.iload at_336 rfl ?_
              refine G.icmp_ne 345 at_338 (by decide) rfl (fun h338 => ?_) (fun h338 => ?_)
              · replace he := he.trans (if_neg h338)
                refine G.iconst (0) at_345 rfl ?_
                exact G.zreturn rfl at_346 rfl (Nat.le_of_ble_eq_true rfl) (Nat.le_of_ble_eq_true rfl) ⟨congrArg (fun z => some (Value.int z)) he.symm, trivial⟩
              · replace he := he.trans (if_pos h338)
                refine G.iconst (1) at_341 rfl ?_
                refine G.goto 346 at_342 (by decide) rfl ?_
                exact G.zreturn rfl at_346 rfl (Nat.le_of_ble_eq_true rfl) (Nat.le_of_ble_eq_true rfl) ⟨congrArg (fun z => some (Value.int z)) he.symm, trivial⟩
        · replace he := he.trans (if_neg h238)
          refine G.iloadN at_241 rfl ?_
          refine G.goto 249 at_242 (by decide) rfl ?_
          refine G.istore11 at_249 rfl ?_
          refine G.iloadN at_251 rfl ?_
          refine G.iload at_252 rfl ?_
          refine G.iload at_254 rfl ?_
          refine G.iload at_256 rfl ?_
          refine G.iconst (0) at_258 rfl ?_
          refine G.scall [_, _, _, _, _] rfl at_259 (hw _ (List.mem_of_getElem? (i := 34) rfl)) (hw _ (List.mem_of_getElem? (i := 35) rfl)) (hw _ (List.mem_of_getElem? (i := 36) rfl)) (hw _ (List.mem_of_getElem? (i := 37) rfl)) (by decide) (m_3 l Z a0 hw n0 [] _ _ _ _ _ _) own_pd2 rfl rfl (Nat.le_of_ble_eq_true rfl) (Nat.le_of_ble_eq_true rfl) (Nat.le_of_ble_eq_true rfl) (Nat.le_of_ble_eq_true rfl) (by rintro _ _ ⟨rfl, rfl⟩; rfl) ?_
          rintro _ _ ⟨rfl, rfl⟩
          refine G.if_ne 271 at_262 (by decide) rfl (fun h262 => ?_) (fun h262 => ?_)
          · replace he := he.trans (if_neg h262)
            refine G.iloadN at_271 rfl ?_
            refine G.iload at_272 rfl ?_
            refine G.iload at_274 rfl ?_
            refine G.iload at_276 rfl ?_
            refine G.iconst (1) at_278 rfl ?_
            refine G.scall [_, _, _, _, _] rfl at_279 (hw _ (List.mem_of_getElem? (i := 34) rfl)) (hw _ (List.mem_of_getElem? (i := 35) rfl)) (hw _ (List.mem_of_getElem? (i := 36) rfl)) (hw _ (List.mem_of_getElem? (i := 37) rfl)) (by decide) (m_3 l Z a0 hw n0 [] _ _ _ _ _ _) own_pd2 rfl rfl (Nat.le_of_ble_eq_true rfl) (Nat.le_of_ble_eq_true rfl) (Nat.le_of_ble_eq_true rfl) (Nat.le_of_ble_eq_true rfl) (by rintro _ _ ⟨rfl, rfl⟩; rfl) ?_
            rintro _ _ ⟨rfl, rfl⟩
            refine G.if_ne 291 at_282 (by decide) rfl (fun h282 => ?_) (fun h282 => ?_)
            · replace he := he.trans (if_neg h282)
              refine G.iloadN at_291 rfl ?_
              refine G.iload at_292 rfl ?_
              refine G.iload at_294 rfl ?_
              refine G.iload at_296 rfl ?_
              refine G.iconst (2) at_298 rfl ?_
              refine G.scall [_, _, _, _, _] rfl at_299 (hw _ (List.mem_of_getElem? (i := 34) rfl)) (hw _ (List.mem_of_getElem? (i := 35) rfl)) (hw _ (List.mem_of_getElem? (i := 36) rfl)) (hw _ (List.mem_of_getElem? (i := 37) rfl)) (by decide) (m_3 l Z a0 hw n0 [] _ _ _ _ _ _) own_pd2 rfl rfl (Nat.le_of_ble_eq_true rfl) (Nat.le_of_ble_eq_true rfl) (Nat.le_of_ble_eq_true rfl) (Nat.le_of_ble_eq_true rfl) (by rintro _ _ ⟨rfl, rfl⟩; rfl) ?_
              rintro _ _ ⟨rfl, rfl⟩
              refine G.if_ne 311 at_302 (by decide) rfl (fun h302 => ?_) (fun h302 => ?_)
              · replace he := he.trans (if_neg h302)
                refine G.iconst (3) at_311 rfl ?_
                refine G.istore12 at_312 rfl ?_
                refine G.iload at_314 rfl ?_
                refine G.iload at_316 rfl ?_
                refine G.icmp_ge 326 at_318 (by decide) rfl (fun h318 => ?_) (fun h318 => ?_)
                · replace he := he.trans (if_neg h318)
                  refine G.iconst (-1) at_326 rfl ?_
                  refine G.istore13 at_327 rfl ?_
                  refine G.aload at_329 rfl rfl ?_
                  refine G.iload at_331 rfl ?_
                  refine G.vcall [_] rfl at_333 (hw _ (List.mem_of_getElem? (i := 38) rfl)) (hw _ (List.mem_of_getElem? (i := 39) rfl)) (hw _ (List.mem_of_getElem? (i := 41) rfl)) (hw _ (List.mem_of_getElem? (i := 40) rfl)) (hw _ (List.mem_of_getElem? (i := 4) rfl)) (hw _ (List.mem_of_getElem? (i := 42) rfl)) (by decide) rfl (m_4_3 l Z a0 hw n0 [] _ _ _ _ _ _ _ _ _ _) own_pd3 rfl rfl (Nat.le_of_ble_eq_true rfl) (Nat.le_of_ble_eq_true rfl) (Nat.le_of_ble_eq_true rfl) (Nat.le_of_ble_eq_true rfl) (by rintro _ _ ⟨rfl, rfl⟩; rfl) ?_
                  rintro _ _ ⟨rfl, rfl⟩
                  refine G.iload at_336 rfl ?_
                  refine G.icmp_ne 345 at_338 (by decide) rfl (fun h338 => ?_) (fun h338 => ?_)
                  · replace he := he.trans (if_neg h338)
                    refine G.iconst (0) at_345 rfl ?_
                    exact G.zreturn rfl at_346 rfl (Nat.le_of_ble_eq_true rfl) (Nat.le_of_ble_eq_true rfl) ⟨congrArg (fun z => some (Value.int z)) he.symm, trivial⟩
                  · replace he := he.trans (if_pos h338)
                    refine G.iconst (1) at_341 rfl ?_
                    refine G.goto 346 at_342 (by decide) rfl ?_
                    exact G.zreturn rfl at_346 rfl (Nat.le_of_ble_eq_true rfl) (Nat.le_of_ble_eq_true rfl) ⟨congrArg (fun z => some (Value.int z)) he.symm, trivial⟩
                · replace he := he.trans (if_pos h318)
                  refine G.iload at_321 rfl ?_
                  refine G.goto 327 at_323 (by decide) rfl ?_
                  refine G.istore13 at_327 rfl ?_
                  refine G.aload at_329 rfl rfl ?_
                  refine G.iload at_331 rfl ?_
                  refine G.vcall [_] rfl at_333 (hw _ (List.mem_of_getElem? (i := 38) rfl)) (hw _ (List.mem_of_getElem? (i := 39) rfl)) (hw _ (List.mem_of_getElem? (i := 41) rfl)) (hw _ (List.mem_of_getElem? (i := 40) rfl)) (hw _ (List.mem_of_getElem? (i := 4) rfl)) (hw _ (List.mem_of_getElem? (i := 42) rfl)) (by decide) rfl (m_4_3 l Z a0 hw n0 [] _ _ _ _ _ _ _ _ _ _) own_pd3 rfl rfl (Nat.le_of_ble_eq_true rfl) (Nat.le_of_ble_eq_true rfl) (Nat.le_of_ble_eq_true rfl) (Nat.le_of_ble_eq_true rfl) (by rintro _ _ ⟨rfl, rfl⟩; rfl) ?_
                  rintro _ _ ⟨rfl, rfl⟩
                  refine G.iload at_336 rfl ?_
                  refine G.icmp_ne 345 at_338 (by decide) rfl (fun h338 => ?_) (fun h338 => ?_)
                  · replace he := he.trans (if_neg h338)
                    refine G.iconst (0) at_345 rfl ?_
                    exact G.zreturn rfl at_346 rfl (Nat.le_of_ble_eq_true rfl) (Nat.le_of_ble_eq_true rfl) ⟨congrArg (fun z => some (Value.int z)) he.symm, trivial⟩
                  · replace he := he.trans (if_pos h338)
                    refine G.iconst (1) at_341 rfl ?_
                    refine G.goto 346 at_342 (by decide) rfl ?_
                    exact G.zreturn rfl at_346 rfl (Nat.le_of_ble_eq_true rfl) (Nat.le_of_ble_eq_true rfl) ⟨congrArg (fun z => some (Value.int z)) he.symm, trivial⟩
              · replace he := he.trans (if_pos h302)
                refine G.iconst (2) at_305 rfl ?_
                refine G.istore12 at_306 rfl ?_
                refine G.goto 314 at_308 (by decide) rfl ?_
                refine G.iload at_314 rfl ?_
                refine G.iload at_316 rfl ?_
                refine G.icmp_ge 326 at_318 (by decide) rfl (fun h318 => ?_) (fun h318 => ?_)
                · replace he := he.trans (if_neg h318)
                  refine G.iconst (-1) at_326 rfl ?_
                  refine G.istore13 at_327 rfl ?_
                  refine G.aload at_329 rfl rfl ?_
                  refine G.iload at_331 rfl ?_
                  refine G.vcall [_] rfl at_333 (hw _ (List.mem_of_getElem? (i := 38) rfl)) (hw _ (List.mem_of_getElem? (i := 39) rfl)) (hw _ (List.mem_of_getElem? (i := 41) rfl)) (hw _ (List.mem_of_getElem? (i := 40) rfl)) (hw _ (List.mem_of_getElem? (i := 4) rfl)) (hw _ (List.mem_of_getElem? (i := 42) rfl)) (by decide) rfl (m_4_3 l Z a0 hw n0 [] _ _ _ _ _ _ _ _ _ _) own_pd3 rfl rfl (Nat.le_of_ble_eq_true rfl) (Nat.le_of_ble_eq_true rfl) (Nat.le_of_ble_eq_true rfl) (Nat.le_of_ble_eq_true rfl) (by rintro _ _ ⟨rfl, rfl⟩; rfl) ?_
                  rintro _ _ ⟨rfl, rfl⟩
                  refine G.iload at_336 rfl ?_
                  refine G.icmp_ne 345 at_338 (by decide) rfl (fun h338 => ?_) (fun h338 => ?_)
                  · replace he := he.trans (if_neg h338)
                    refine G.iconst (0) at_345 rfl ?_
                    exact G.zreturn rfl at_346 rfl (Nat.le_of_ble_eq_true rfl) (Nat.le_of_ble_eq_true rfl) ⟨congrArg (fun z => some (Value.int z)) he.symm, trivial⟩
                  · replace he := he.trans (if_pos h338)
                    refine G.iconst (1) at_341 rfl ?_
                    refine G.goto 346 at_342 (by decide) rfl ?_
                    exact G.zreturn rfl at_346 rfl (Nat.le_of_ble_eq_true rfl) (Nat.le_of_ble_eq_true rfl) ⟨congrArg (fun z => some (Value.int z)) he.symm, trivial⟩
                · replace he := he.trans (if_pos h318)
                  refine G.iload at_321 rfl ?_
                  refine G.goto 327 at_323 (by decide) rfl ?_
                  refine G.istore13 at_327 rfl ?_
                  refine G.aload at_329 rfl rfl ?_
                  refine G.iload at_331 rfl ?_
                  refine G.vcall [_] rfl at_333 (hw _ (List.mem_of_getElem? (i := 38) rfl)) (hw _ (List.mem_of_getElem? (i := 39) rfl)) (hw _ (List.mem_of_getElem? (i := 41) rfl)) (hw _ (List.mem_of_getElem? (i := 40) rfl)) (hw _ (List.mem_of_getElem? (i := 4) rfl)) (hw _ (List.mem_of_getElem? (i := 42) rfl)) (by decide) rfl (m_4_3 l Z a0 hw n0 [] _ _ _ _ _ _ _ _ _ _) own_pd3 rfl rfl (Nat.le_of_ble_eq_true rfl) (Nat.le_of_ble_eq_true rfl) (Nat.le_of_ble_eq_true rfl) (Nat.le_of_ble_eq_true rfl) (by rintro _ _ ⟨rfl, rfl⟩; rfl) ?_
                  rintro _ _ ⟨rfl, rfl⟩
                  refine G.iload at_336 rfl ?_
                  refine G.icmp_ne 345 at_338 (by decide) rfl (fun h338 => ?_) (fun h338 => ?_)
                  · replace he := he.trans (if_neg h338)
                    refine G.iconst (0) at_345 rfl ?_
                    exact G.zreturn rfl at_346 rfl (Nat.le_of_ble_eq_true rfl) (Nat.le_of_ble_eq_true rfl) ⟨congrArg (fun z => some (Value.int z)) he.symm, trivial⟩
                  · replace he := he.trans (if_pos h338)
                    refine G.iconst (1) at_341 rfl ?_
                    refine G.goto 346 at_342 (by decide) rfl ?_
                    exact G.zreturn rfl at_346 rfl (Nat.le_of_ble_eq_true rfl) (Nat.le_of_ble_eq_true rfl) ⟨congrArg (fun z => some (Value.int z)) he.symm, trivial⟩
            · replace he := he.trans (if_pos h282)
              refine G.iconst (1) at_285 rfl ?_
              refine G.istore12 at_286 rfl ?_
              refine G.goto 314 at_288 (by decide) rfl ?_
              refine G.iload at_314 rfl ?_
              refine G.iload at_316 rfl ?_
              refine G.icmp_ge 326 at_318 (by decide) rfl (fun h318 => ?_) (fun h318 => ?_)
              · replace he := he.trans (if_neg h318)
                refine G.iconst (-1) at_326 rfl ?_
                refine G.istore13 at_327 rfl ?_
                refine G.aload at_329 rfl rfl ?_
                refine G.iload at_331 rfl ?_
                refine G.vcall [_] rfl at_333 (hw _ (List.mem_of_getElem? (i := 38) rfl)) (hw _ (List.mem_of_getElem? (i := 39) rfl)) (hw _ (List.mem_of_getElem? (i := 41) rfl)) (hw _ (List.mem_of_getElem? (i := 40) rfl)) (hw _ (List.mem_of_getElem? (i := 4) rfl)) (hw _ (List.mem_of_getElem? (i := 42) rfl)) (by decide) rfl (m_4_3 l Z a0 hw n0 [] _ _ _ _ _ _ _ _ _ _) own_pd3 rfl rfl (Nat.le_of_ble_eq_true rfl) (Nat.le_of_ble_eq_true rfl) (Nat.le_of_ble_eq_true rfl) (Nat.le_of_ble_eq_true rfl) (by rintro _ _ ⟨rfl, rfl⟩; rfl) ?_
                rintro _ _ ⟨rfl, rfl⟩
                refine G.iload at_336 rfl ?_
                refine G.icmp_ne 345 at_338 (by decide) rfl (fun h338 => ?_) (fun h338 => ?_)
                · replace he := he.trans (if_neg h338)
                  refine G.iconst (0) at_345 rfl ?_
                  exact G.zreturn rfl at_346 rfl (Nat.le_of_ble_eq_true rfl) (Nat.le_of_ble_eq_true rfl) ⟨congrArg (fun z => some (Value.int z)) he.symm, trivial⟩
                · replace he := he.trans (if_pos h338)
                  refine G.iconst (1) at_341 rfl ?_
                  refine G.goto 346 at_342 (by decide) rfl ?_
                  exact G.zreturn rfl at_346 rfl (Nat.le_of_ble_eq_true rfl) (Nat.le_of_ble_eq_true rfl) ⟨congrArg (fun z => some (Value.int z)) he.symm, trivial⟩
              · replace he := he.trans (if_pos h318)
                refine G.iload at_321 rfl ?_
                refine G.goto 327 at_323 (by decide) rfl ?_
                refine G.istore13 at_327 rfl ?_
                refine G.aload at_329 rfl rfl ?_
                refine G.iload at_331 rfl ?_
                refine G.vcall [_] rfl at_333 (hw _ (List.mem_of_getElem? (i := 38) rfl)) (hw _ (List.mem_of_getElem? (i := 39) rfl)) (hw _ (List.mem_of_getElem? (i := 41) rfl)) (hw _ (List.mem_of_getElem? (i := 40) rfl)) (hw _ (List.mem_of_getElem? (i := 4) rfl)) (hw _ (List.mem_of_getElem? (i := 42) rfl)) (by decide) rfl (m_4_3 l Z a0 hw n0 [] _ _ _ _ _ _ _ _ _ _) own_pd3 rfl rfl (Nat.le_of_ble_eq_true rfl) (Nat.le_of_ble_eq_true rfl) (Nat.le_of_ble_eq_true rfl) (Nat.le_of_ble_eq_true rfl) (by rintro _ _ ⟨rfl, rfl⟩; rfl) ?_
                rintro _ _ ⟨rfl, rfl⟩
                refine G.iload at_336 rfl ?_
                refine G.icmp_ne 345 at_338 (by decide) rfl (fun h338 => ?_) (fun h338 => ?_)
                · replace he := he.trans (if_neg h338)
                  refine G.iconst (0) at_345 rfl ?_
                  exact G.zreturn rfl at_346 rfl (Nat.le_of_ble_eq_true rfl) (Nat.le_of_ble_eq_true rfl) ⟨congrArg (fun z => some (Value.int z)) he.symm, trivial⟩
                · replace he := he.trans (if_pos h338)
                  refine G.iconst (1) at_341 rfl ?_
                  refine G.goto 346 at_342 (by decide) rfl ?_
                  exact G.zreturn rfl at_346 rfl (Nat.le_of_ble_eq_true rfl) (Nat.le_of_ble_eq_true rfl) ⟨congrArg (fun z => some (Value.int z)) he.symm, trivial⟩
          · replace he := he.trans (if_pos h262)
            refine G.iconst (0) at_265 rfl ?_
            refine G.istore12 at_266 rfl ?_
            refine G.goto 314 at_268 (by decide) rfl ?_
            refine G.iload at_314 rfl ?_
            refine G.iload at_316 rfl ?_
            refine G.icmp_ge 326 at_318 (by decide) rfl (fun h318 => ?_) (fun h318 => ?_)
            · replace he := he.trans (if_neg h318)
              refine G.iconst (-1) at_326 rfl ?_
              refine G.istore13 at_327 rfl ?_
              refine G.aload at_329 rfl rfl ?_
              refine G.iload at_331 rfl ?_
              refine G.vcall [_] rfl at_333 (hw _ (List.mem_of_getElem? (i := 38) rfl)) (hw _ (List.mem_of_getElem? (i := 39) rfl)) (hw _ (List.mem_of_getElem? (i := 41) rfl)) (hw _ (List.mem_of_getElem? (i := 40) rfl)) (hw _ (List.mem_of_getElem? (i := 4) rfl)) (hw _ (List.mem_of_getElem? (i := 42) rfl)) (by decide) rfl (m_4_3 l Z a0 hw n0 [] _ _ _ _ _ _ _ _ _ _) own_pd3 rfl rfl (Nat.le_of_ble_eq_true rfl) (Nat.le_of_ble_eq_true rfl) (Nat.le_of_ble_eq_true rfl) (Nat.le_of_ble_eq_true rfl) (by rintro _ _ ⟨rfl, rfl⟩; rfl) ?_
              rintro _ _ ⟨rfl, rfl⟩
              refine G.iload at_336 rfl ?_
              refine G.icmp_ne 345 at_338 (by decide) rfl (fun h338 => ?_) (fun h338 => ?_)
              · replace he := he.trans (if_neg h338)
                refine G.iconst (0) at_345 rfl ?_
                exact G.zreturn rfl at_346 rfl (Nat.le_of_ble_eq_true rfl) (Nat.le_of_ble_eq_true rfl) ⟨congrArg (fun z => some (Value.int z)) he.symm, trivial⟩
              · replace he := he.trans (if_pos h338)
                refine G.iconst (1) at_341 rfl ?_
                refine G.goto 346 at_342 (by decide) rfl ?_
                exact G.zreturn rfl at_346 rfl (Nat.le_of_ble_eq_true rfl) (Nat.le_of_ble_eq_true rfl) ⟨congrArg (fun z => some (Value.int z)) he.symm, trivial⟩
            · replace he := he.trans (if_pos h318)
              refine G.iload at_321 rfl ?_
              refine G.goto 327 at_323 (by decide) rfl ?_
              refine G.istore13 at_327 rfl ?_
              refine G.aload at_329 rfl rfl ?_
              refine G.iload at_331 rfl ?_
              refine G.vcall [_] rfl at_333 (hw _ (List.mem_of_getElem? (i := 38) rfl)) (hw _ (List.mem_of_getElem? (i := 39) rfl)) (hw _ (List.mem_of_getElem? (i := 41) rfl)) (hw _ (List.mem_of_getElem? (i := 40) rfl)) (hw _ (List.mem_of_getElem? (i := 4) rfl)) (hw _ (List.mem_of_getElem? (i := 42) rfl)) (by decide) rfl (m_4_3 l Z a0 hw n0 [] _ _ _ _ _ _ _ _ _ _) own_pd3 rfl rfl (Nat.le_of_ble_eq_true rfl) (Nat.le_of_ble_eq_true rfl) (Nat.le_of_ble_eq_true rfl) (Nat.le_of_ble_eq_true rfl) (by rintro _ _ ⟨rfl, rfl⟩; rfl) ?_
              rintro _ _ ⟨rfl, rfl⟩
              refine G.iload at_336 rfl ?_
              refine G.icmp_ne 345 at_338 (by decide) rfl (fun h338 => ?_) (fun h338 => ?_)
              · replace he := he.trans (if_neg h338)
                refine G.iconst (0) at_345 rfl ?_
                exact G.zreturn rfl at_346 rfl (Nat.le_of_ble_eq_true rfl) (Nat.le_of_ble_eq_true rfl) ⟨congrArg (fun z => some (Value.int z)) he.symm, trivial⟩
              · replace he := he.trans (if_pos h338)
                refine G.iconst (1) at_341 rfl ?_
                refine G.goto 346 at_342 (by decide) rfl ?_
                exact G.zreturn rfl at_346 rfl (Nat.le_of_ble_eq_true rfl) (Nat.le_of_ble_eq_true rfl) ⟨congrArg (fun z => some (Value.int z)) he.symm, trivial⟩
  have he : own_law x0 x1 x2 = own_law x0 x1 x2 := rfl
  refine G.iloadN at_0 rfl ?_
  refine G.iconst (3) at_1 rfl ?_
  refine G.iand at_2 ?_
  refine G.istoreN3 at_3 rfl ?_
  exact J4 _ _ _ _ (own_four _) he
def own_T (i0 i1 i2 cn U : Int32) : Int32 := if i0 = 0 then (if (0 : Int32) < cn then (if U = 0 then 1 else 0) else (if U = -1 then 1 else 0)) else (if i1 = 0 then (if (1 : Int32) < cn then (if U = 1 then 1 else 0) else (if U = -1 then 1 else 0)) else (if i2 = 0 then (if (2 : Int32) < cn then (if U = 2 then 1 else 0) else (if U = -1 then 1 else 0)) else (if (3 : Int32) < cn then (if U = 3 then 1 else 0) else (if U = -1 then 1 else 0))))
theorem own_T0 (i1 i2 cn : Int32) : own_T 0 i1 i2 cn (if (0 : Int32) < cn then 0 else -1) = 1 := by
  unfold own_T
  by_cases h : (0 : Int32) < cn <;> simp [h]
theorem own_T1 (i2 cn : Int32) : own_T 1 0 i2 cn (if (1 : Int32) < cn then 1 else -1) = 1 := by
  unfold own_T
  by_cases h : (1 : Int32) < cn <;> simp [h]
theorem own_T2 (cn : Int32) : own_T 1 1 0 cn (if (2 : Int32) < cn then 2 else -1) = 1 := by
  unfold own_T
  by_cases h : (2 : Int32) < cn <;> simp [h]
theorem own_T3 (cn : Int32) : own_T 1 1 1 cn (if (3 : Int32) < cn then 3 else -1) = 1 := by
  unfold own_T
  by_cases h : (3 : Int32) < cn <;> simp [h]
theorem own_in0 (a b c x : Int32) : own_in 0 a b c x = 0 := by simp [own_in, own_in_10, own_in_21]
theorem own_in1 (a b c x : Int32) : own_in 1 a b c x = if a = x then 1 else 0 := by simp [own_in, own_in_10, own_in_21]
theorem own_in2 (a b c x : Int32) : own_in 2 a b c x = if a = x then 1 else if b = x then 1 else 0 := by simp [own_in, own_in_10, own_in_21]
theorem own_in3 (a b c x : Int32) : own_in 3 a b c x = if a = x then 1 else if b = x then 1 else if c = x then 1 else 0 := by simp [own_in, own_in_10, own_in_21]
theorem own_s1 : (0 : Int32) + 1 = 1 := by decide
theorem own_s2 : (1 : Int32) + 1 = 2 := by decide
theorem own_s3 : (2 : Int32) + 1 = 3 := by decide
theorem own_g1 {c : Int32} (h : (1 : Int32) < c) : (0 : Int32) < c := by
  rw [Int32.lt_iff_toInt_lt] at h ⊢
  have e0 : (0 : Int32).toInt = 0 := by decide
  have e1 : (1 : Int32).toInt = 1 := by decide
  omega
theorem own_g2 {c : Int32} (h : (2 : Int32) < c) : (1 : Int32) < c := by
  rw [Int32.lt_iff_toInt_lt] at h ⊢
  have e0 : (2 : Int32).toInt = 2 := by decide
  have e1 : (1 : Int32).toInt = 1 := by decide
  omega
theorem own_g3 {c : Int32} (h : (3 : Int32) < c) : (2 : Int32) < c := by
  rw [Int32.lt_iff_toInt_lt] at h ⊢
  have e0 : (2 : Int32).toInt = 2 := by decide
  have e1 : (3 : Int32).toInt = 3 := by decide
  omega
theorem own_un0_eq (cn : Int32) : own_un0 cn = if (0 : Int32) < cn then 0 else -1 := by
  unfold own_un0
  by_cases h : (0 : Int32) < cn <;> simp [h]
theorem own_un1_eq (cn a : Int32) : own_un1 cn a = if a = 0 then (if (1 : Int32) < cn then 1 else -1) else (if (0 : Int32) < cn then 0 else -1) := by
  unfold own_un1
  simp only [own_s1]
  by_cases h : (0 : Int32) < cn
  · by_cases h1 : (1 : Int32) < cn <;> simp [h, h1]
  · have h1 : ¬ (1 : Int32) < cn := fun q => h (own_g1 q)
    simp [h, h1]
theorem own_un2_eq (cn a b : Int32) : own_un2 cn a b = if a = 0 then (if b = 1 then (if (2 : Int32) < cn then 2 else -1) else (if (1 : Int32) < cn then 1 else -1)) else (if (0 : Int32) < cn then 0 else -1) := by
  unfold own_un2
  simp only [own_s1, own_s2]
  by_cases h : (0 : Int32) < cn
  · by_cases h1 : (1 : Int32) < cn
    · by_cases h2 : (2 : Int32) < cn <;> simp [h, h1, h2]
    · have h2 : ¬ (2 : Int32) < cn := fun q => h1 (own_g2 q)
      simp [h, h1, h2]
  · have h1 : ¬ (1 : Int32) < cn := fun q => h (own_g1 q)
    have h2 : ¬ (2 : Int32) < cn := fun q => h1 (own_g2 q)
    simp [h, h1, h2]
theorem own_un3_eq (cn a b c : Int32) : own_un3 cn a b c = if a = 0 then (if b = 1 then (if c = 2 then (if (3 : Int32) < cn then 3 else -1) else (if (2 : Int32) < cn then 2 else -1)) else (if (1 : Int32) < cn then 1 else -1)) else (if (0 : Int32) < cn then 0 else -1) := by
  unfold own_un3
  simp only [own_s1, own_s2, own_s3]
  by_cases h : (0 : Int32) < cn
  · by_cases h1 : (1 : Int32) < cn
    · by_cases h2 : (2 : Int32) < cn
      · by_cases h3 : (3 : Int32) < cn <;> simp [h, h1, h2, h3]
      · have h3 : ¬ (3 : Int32) < cn := fun q => h2 (own_g3 q)
        simp [h, h1, h2, h3]
    · have h2 : ¬ (2 : Int32) < cn := fun q => h1 (own_g2 q)
      have h3 : ¬ (3 : Int32) < cn := fun q => h2 (own_g3 q)
      simp [h, h1, h2, h3]
  · have h1 : ¬ (1 : Int32) < cn := fun q => h (own_g1 q)
    have h2 : ¬ (2 : Int32) < cn := fun q => h1 (own_g2 q)
    have h3 : ¬ (3 : Int32) < cn := fun q => h2 (own_g3 q)
    simp [h, h1, h2, h3]
theorem own_ne {a b : Int32} (h : a.toInt ≠ b.toInt) : ¬ a = b := fun e => h (by rw [e])
theorem own_n0 (a b c cn : Int32) : own_T (own_in 0 a b c 0) (own_in 0 a b c 1) (own_in 0 a b c 2) cn (own_un0 cn) = 1 := by
  rw [own_in0, own_un0_eq]; exact own_T0 _ _ _
theorem own_n1 (a b c cn : Int32) (h0 : 0 ≤ a.toInt) (h1 : a.toInt < b.toInt) (h2 : b.toInt < c.toInt) : own_T (own_in 1 a b c 0) (own_in 1 a b c 1) (own_in 1 a b c 2) cn (own_un1 cn a) = 1 := by
  rw [own_in1, own_in1, own_in1, own_un1_eq]
  by_cases ha : a = 0
  · subst ha
    rw [if_pos rfl, if_neg (by decide), if_pos rfl]; exact own_T1 _ _
  · rw [if_neg ha, if_neg ha]; exact own_T0 _ _ _
theorem own_n2 (a b c cn : Int32) (h0 : 0 ≤ a.toInt) (h1 : a.toInt < b.toInt) (h2 : b.toInt < c.toInt) : own_T (own_in 2 a b c 0) (own_in 2 a b c 1) (own_in 2 a b c 2) cn (own_un2 cn a b) = 1 := by
  rw [own_in2, own_in2, own_in2, own_un2_eq]
  have e0 : (0 : Int32).toInt = 0 := by decide
  have e1 : (1 : Int32).toInt = 1 := by decide
  have e2 : (2 : Int32).toInt = 2 := by decide
  have hb0 : ¬ b = 0 := own_ne (by omega)
  by_cases ha : a = 0
  · subst ha
    rw [if_pos rfl, if_neg (show ¬ (0 : Int32) = 1 by decide), if_neg (show ¬ (0 : Int32) = 2 by decide), if_pos rfl]
    by_cases hb : b = 1
    · subst hb
      rw [if_pos rfl, if_neg (show ¬ (1 : Int32) = 2 by decide), if_pos rfl]; exact own_T2 _
    · rw [if_neg hb, if_neg hb]; exact own_T1 _ _
  · rw [if_neg ha, if_neg hb0, if_neg ha]; exact own_T0 _ _ _
theorem own_n3 (a b c cn : Int32) (h0 : 0 ≤ a.toInt) (h1 : a.toInt < b.toInt) (h2 : b.toInt < c.toInt) : own_T (own_in 3 a b c 0) (own_in 3 a b c 1) (own_in 3 a b c 2) cn (own_un3 cn a b c) = 1 := by
  rw [own_in3, own_in3, own_in3, own_un3_eq]
  have e0 : (0 : Int32).toInt = 0 := by decide
  have e1 : (1 : Int32).toInt = 1 := by decide
  have e2 : (2 : Int32).toInt = 2 := by decide
  have hb0 : ¬ b = 0 := own_ne (by omega)
  have hc0 : ¬ c = 0 := own_ne (by omega)
  by_cases ha : a = 0
  · subst ha
    rw [if_pos rfl, if_neg (show ¬ (0 : Int32) = 1 by decide), if_neg (show ¬ (0 : Int32) = 2 by decide), if_pos rfl]
    have hc1 : ¬ c = 1 := own_ne (by omega)
    by_cases hb : b = 1
    · subst hb
      rw [if_pos rfl, if_neg (show ¬ (1 : Int32) = 2 by decide), if_pos rfl]
      by_cases hc : c = 2
      · subst hc
        rw [if_pos rfl, if_pos rfl]; exact own_T3 _
      · rw [if_neg hc, if_neg hc]; exact own_T2 _
    · rw [if_neg hb, if_neg hc1, if_neg hb]; exact own_T1 _ _
  · rw [if_neg ha, if_neg hb0, if_neg hc0, if_neg ha]; exact own_T0 _ _ _
theorem own_law_one (a b c : Int32) : own_law a b c = 1 := by
  unfold own_law own_law_4
  obtain ⟨q0, q1, q2⟩ := (own_q (a >>> ((2 : Int32) &&& 31)) (a >>> ((4 : Int32) &&& 31)) (a >>> ((6 : Int32) &&& 31))).2.2.2
  rcases own_four a with h | h | h | h
  · rw [h, if_pos rfl]
    split <;> exact own_n0 _ _ _ _
  · rw [h, if_neg (by decide), if_pos rfl]
    split <;> exact own_n1 _ _ _ _ q0 q1 q2
  · rw [h, if_neg (by decide), if_neg (by decide), if_pos rfl]
    split <;> exact own_n2 _ _ _ _ q0 q1 q2
  · rw [h, if_neg (by decide), if_neg (by decide), if_neg (by decide)]
    split <;> split <;> exact own_n3 _ _ _ _ q0 q1 q2
set_option maxRecDepth 65536 in
set_option maxHeartbeats 40000000 in
theorem comes_1 {Post : Tables → Env → Array Value → State → Outcome → State → Prop} (hpost : ∀ tb e args s v u, (limb_1_1.after args s (.returned v) u = true ∧ limb_1_2.after args s (.returned v) u = true ∧ True) → FrameEnd s (.returned v) u (Jvm.fieldLocs frame_1_writes args s ++ Jvm.arrayLocs frame_1_arrays args s ++ Jvm.staticLocs frame_1_statics s) 24 128 → Post tb e args s (.returned v) u) :
    ArmFor flags0 classFile x code maxLocals ret World_1 tables_1 room_1 Calls_1 rest_1 Pre_1 Post := by
  intro l hfl _ _ p e ha hc hk s m args below hf hA hF happ hP
  obtain ⟨hcalls, hrest, hpre⟩ := hP
  obtain ⟨-, -, -, hnamed, -, -, -, hat⟩ := (Spec.applies_iff hf).mp happ
  obtain ⟨hg, hn⟩ := and_e (Cond.before_iff.mp (show (Jvm.Cond.and given_1 narrow_1).before args s = true from hpre))
  obtain ⟨hcnt, g0⟩ := and_e hg
  obtain ⟨w0, w1, w2, rfl⟩ : ∃ w0 w1 w2 : Value, args = #[w0, w1, w2] := by
    have hs : args.size = 3 := by simpa [Cond.value, given_1] using hcnt
    obtain ⟨L⟩ := args
    match L, hs with
    | [w0, w1, w2], _ => exact ⟨w0, w1, w2, rfl⟩
  have hw := fun d (hd : d ∈ tables_1) => atoms_spec (ws := Jvm.Cond.code x code maxLocals ret :: tables_1) hat d (List.mem_cons_of_mem _ hd)
  obtain ⟨t0, g1⟩ := and_e g0
  obtain ⟨i0, ei0⟩ := is_v t0
  obtain rfl : w0 = (.int i0) := Option.some.inj ei0
  obtain ⟨t1, g2⟩ := and_e g1
  obtain ⟨i1, ei1⟩ := is_v t1
  obtain rfl : w1 = (.int i1) := Option.some.inj ei1
  have t2 := g2
  obtain ⟨i2, ei2⟩ := is_v t2
  obtain rfl : w2 = (.int i2) := Option.some.inj ei2
  obtain ⟨n, o, h1, h2, h3, _, L, rfl, ⟨N, A', ⟨e1, -⟩, -⟩, hq⟩ := (m_0 l s _ hw s.heap.size tables_1 i0 i1 i2 ) s.heap (Rep.nil _ _ _) p e ha hc hk s m _ below hf ((Spec.applies_iff_loose hf).mp happ).1 ⟨rfl, State.Warmed39.refl s, rfl⟩ trivial
  rw [own_law_one] at e1
  subst e1
  refine ⟨n, _, h1, h2, h3, hpost _ _ _ _ _ _ ⟨Cond.after_iff.mpr rfl, Cond.after_iff.mpr (eq_i res_at (Term.int_eval (1)) rfl), trivial⟩ ⟨hq.1, hq.2.1, (hq.2.2.sift fun y hy => Or.inr (N y hy)).mono (by decide) (by decide)⟩⟩
theorem main_1_1 : Claimed_1_1 := comes_1 fun _ _ _ _ _ _ h hF => ⟨h.1, hF⟩
theorem main_1_2 : Claimed_1_2 := comes_1 fun _ _ _ _ _ _ h hF => ⟨h.2.1, hF⟩
end Jvm.Pilot.@@N@@
namespace Jvm.Pilot.@@N@@
open Jvm Jvm.ClassFile Sem Op Lib Jvm.Free Jvm.Stand Jvm.Pilot.@@N@@.Jvm.D
/-! MADE BY PROGRAM (witnessworld.py) out of the Statement's table words and the real class files: 11 classes; the members and pool entries that the words name. The judged class is class 1, her method 2. -/
namespace start1
open Jvm.ClassFile
def u (s : String) : CpInfo := .utf8 (stringToUtf16 s)
/-- a pool by its gaps: so many unusable entries, then the entry; so many at the end -/
def gap : Nat → List CpInfo → List CpInfo
  | 0, r => r
  | n + 1, r => .unusable :: gap n r
def poolList (es : List (Nat × CpInfo)) (last : Nat) : List CpInfo := es.foldr (fun e r => gap e.1 (e.2 :: r)) (gap last [])
def pool (es : List (Nat × CpInfo)) (last : Nat) : Array CpInfo := ⟨poolList es last⟩
def fileOf (pool : Array CpInfo) (this : Nat) (attrs : Array Attribute := #[]) (ms : Array MethodInfo := #[]) (fl : Nat := 33) (sup : Nat := 0) (ifs : Array Nat := #[]) (fds : Array FieldInfo := #[]) : ClassFile where
  minorVersion := 0
  majorVersion := 65
  constantPool := pool
  accessFlags := fl
  thisClass := this
  superClass := sup
  interfaces := ifs
  fields := fds
  methods := ms
  attributes := attrs
def plain (name : String) (sup : Option ClassId) : Class where
  name := name
  kind := .ordinary
  loader := none
  accessFlags := 33
  super := sup
  interfaces := #[]
  cf := none
  fields := #[]
  methods := #[]
  instanceTypes := #[]
  staticTypes := #[]
  resolved := #[]
  callSites := []
  init := .initialized
  statics := none
  mirror := none

def pool0 : Array CpInfo := pool [(5, u "<init>"), (0, u "()V"), (1, .class_ 10), (1, u "java/lang/Object"), (85, u "clone"), (0, u "()Ljava/lang/Object;")] 26

def k0c0 : Code := { maxStack := 0, maxLocals := 1, code := object_method_1_code, exceptionTable := #[], attributes := #[] }
def k0m0 : Method := { name := "<init>", desc := "()V", sig := { parameters := [], returnType := none }, accessFlags := 1, code := some k0c0 }
def k0m1 : Method := { name := "clone", desc := "()Ljava/lang/Object;", sig := { parameters := [], returnType := some (.object "java/lang/Object") }, accessFlags := 260, code := none }
/-- java/lang/Object -/
def k0 : Class := { plain "java/lang/Object" none with
  accessFlags := 33
  interfaces := #[]
  cf := some (fileOf pool0 8 #[] #[{ accessFlags := 1, nameIndex := 5, descriptorIndex := 6, attributes := #[] }, { accessFlags := 260, nameIndex := 96, descriptorIndex := 97, attributes := #[] }] 33 0 #[] #[])
  fields := #[]
  methods := #[k0m0, k0m1]
  instanceTypes := #[]
  staticTypes := #[]
  resolved := Array.replicate 124 none
  statics := none }

def pool1 : Array CpInfo := pool [(2, .class_ 4), (1, u "java/lang/Object"), (0, u "<init>"), (0, u "()V"), (0, .class_ 8), (0, u "com/example/tidemark/tidemark/model/RecordTally"), (0, .methodref 7 10), (0, .nameAndType 5 11), (0, u "([I[J[JJ)V"), (0, .methodref 13 14), (0, .class_ 15), (0, .nameAndType 16 17), (0, u "com/example/tidemark/tidemark/model/RecordTallyUnownedPinLaw"), (0, u "in"), (0, u "(IIIII)Z"), (0, .methodref 7 19), (0, .nameAndType 20 21), (0, u "unowned"), (0, u "(I)I"), (3, u "law"), (0, u "(III)Z")] 6

def k1m0 : Method := { name := "<init>", desc := "()V", sig := { parameters := [], returnType := none }, accessFlags := 1, code := none }
def k1c1 : Code := { maxStack := 2, maxLocals := 5, code := method_2_code, exceptionTable := #[], attributes := #[] }
def k1m1 : Method := { name := "in", desc := "(IIIII)Z", sig := { parameters := [.int, .int, .int, .int, .int], returnType := some .boolean }, accessFlags := 10, code := some k1c1 }
def k1c2 : Code := { maxStack := 7, maxLocals := 14, code := code, exceptionTable := #[], attributes := #[] }
def k1m2 : Method := { name := "law", desc := "(III)Z", sig := { parameters := [.int, .int, .int], returnType := some .boolean }, accessFlags := 9, code := some k1c2 }
/-- com/example/tidemark/tidemark/model/RecordTallyUnownedPinLaw -/
def k1 : Class := { plain "com/example/tidemark/tidemark/model/RecordTallyUnownedPinLaw" (some 0) with
  accessFlags := 49
  interfaces := #[]
  cf := some (fileOf pool1 13 #[] #[{ accessFlags := 1, nameIndex := 5, descriptorIndex := 6, attributes := #[] }, { accessFlags := 10, nameIndex := 16, descriptorIndex := 17, attributes := #[] }, { accessFlags := 9, nameIndex := 25, descriptorIndex := 26, attributes := #[] }] 49 2 #[] #[])
  fields := #[]
  methods := #[k1m0, k1m1, k1m2]
  instanceTypes := #[]
  staticTypes := #[]
  resolved := Array.replicate 33 none
  statics := none }

def pool2 : Array CpInfo := pool [(1, .methodref 2 3), (0, .class_ 4), (0, .nameAndType 5 6), (0, u "java/lang/Object"), (0, u "<init>"), (0, u "()V"), (11, .integer 65536), (6, .methodref 26 27), (0, .class_ 28), (0, .nameAndType 29 30), (0, u "[I"), (0, u "clone"), (0, u "()Ljava/lang/Object;"), (0, .fieldref 32 33), (0, .class_ 34), (0, .nameAndType 35 28), (0, u "com/example/tidemark/tidemark/model/RecordTally"), (0, u "partitions"), (0, .methodref 37 27), (0, .class_ 38), (0, u "[J"), (0, .fieldref 32 40), (0, .nameAndType 41 38), (0, u "versions"), (0, .fieldref 32 43), (0, .nameAndType 44 38), (0, u "records"), (0, .fieldref 32 46), (0, .nameAndType 47 48), (0, u "backed"), (0, u "J"), (17, u "([I[J[JJ)V"), (2, u "NONE"), (0, u "Lcom/example/tidemark/tidemark/model/RecordTally;"), (6, u "(I)I"), (6, u "unowned")] 22

def k2c0 : Code := { maxStack := 7, maxLocals := 8, code := prog_89_method_1_code, exceptionTable := #[], attributes := #[] }
def k2m0 : Method := { name := "<init>", desc := "([I[J[JJ)V", sig := { parameters := [(.array .int), (.array .long), (.array .long), .long], returnType := none }, accessFlags := 1, code := some k2c0 }
def k2c1 : Code := { maxStack := 2, maxLocals := 3, code := prog_89_method_9_code, exceptionTable := #[], attributes := #[] }
def k2m1 : Method := { name := "unowned", desc := "(I)I", sig := { parameters := [.int], returnType := some .int }, accessFlags := 1, code := some k2c1 }
/-- com/example/tidemark/tidemark/model/RecordTally -/
def k2 : Class := { plain "com/example/tidemark/tidemark/model/RecordTally" (some 0) with
  accessFlags := 49
  interfaces := #[]
  cf := some (fileOf pool2 32 #[] #[{ accessFlags := 1, nameIndex := 5, descriptorIndex := 66, attributes := #[] }, { accessFlags := 1, nameIndex := 84, descriptorIndex := 77, attributes := #[] }] 49 2 #[] #[{ accessFlags := 25, nameIndex := 69, descriptorIndex := 70, attributes := #[] }, { accessFlags := 18, nameIndex := 35, descriptorIndex := 28, attributes := #[] }, { accessFlags := 18, nameIndex := 41, descriptorIndex := 38, attributes := #[] }, { accessFlags := 18, nameIndex := 44, descriptorIndex := 38, attributes := #[] }, { accessFlags := 18, nameIndex := 47, descriptorIndex := 48, attributes := #[] }])
  fields := #[{ name := "NONE", type := (.object "com/example/tidemark/tidemark/model/RecordTally"), accessFlags := 25, slot := 0, constantValue := 0 }, { name := "partitions", type := (.array .int), accessFlags := 18, slot := 0, constantValue := 0 }, { name := "versions", type := (.array .long), accessFlags := 18, slot := 1, constantValue := 0 }, { name := "records", type := (.array .long), accessFlags := 18, slot := 2, constantValue := 0 }, { name := "backed", type := .long, accessFlags := 18, slot := 3, constantValue := 0 }]
  methods := #[k2m0, k2m1]
  instanceTypes := #[(.array .int), (.array .long), (.array .long), .long]
  staticTypes := #[(.object "com/example/tidemark/tidemark/model/RecordTally")]
  resolved := Array.replicate 107 none
  statics := none }

def pool3 : Array CpInfo := pool [(1, .class_ 2), (0, u "java/lang/Cloneable"), (0, .class_ 4), (0, u "java/lang/Object")] 2

/-- java/lang/Cloneable -/
def k3 : Class := { plain "java/lang/Cloneable" (some 0) with
  accessFlags := 1537
  interfaces := #[]
  cf := some (fileOf pool3 1 #[] #[] 1537 3 #[] #[])
  fields := #[]
  methods := #[]
  instanceTypes := #[]
  staticTypes := #[]
  resolved := Array.replicate 7 none
  statics := none }

def pool4 : Array CpInfo := pool [(1, u "java/io/Serializable"), (0, .class_ 1), (0, u "java/lang/Object"), (0, .class_ 3)] 3

/-- java/io/Serializable -/
def k4 : Class := { plain "java/io/Serializable" (some 0) with
  accessFlags := 1537
  interfaces := #[]
  cf := some (fileOf pool4 2 #[] #[] 1537 4 #[] #[])
  fields := #[]
  methods := #[]
  instanceTypes := #[]
  staticTypes := #[]
  resolved := Array.replicate 8 none
  statics := none }

/-- the primitive byte -/
def k5 : Class := { plain "byte" none with kind := .primitive 'B', accessFlags := 0x411 }
/-- [B -/
def k6 : Class := { plain "[B" (some 0) with kind := .array 5 .byte, interfaces := #[3, 4], accessFlags := 1041 }

/-- the primitive int -/
def k7 : Class := { plain "int" none with kind := .primitive 'I', accessFlags := 0x411 }
/-- [I -/
def k8 : Class := { plain "[I" (some 0) with kind := .array 7 .int, interfaces := #[3, 4], accessFlags := 1041 }

/-- the primitive long -/
def k9 : Class := { plain "long" none with kind := .primitive 'J', accessFlags := 0x411 }
/-- [J -/
def k10 : Class := { plain "[J" (some 0) with kind := .array 9 .long, interfaces := #[3, 4], accessFlags := 1041 }

def heap : Heap := #[]
def classes : Array Class := #[k0, k1, k2, k3, k4, k5, k6, k7, k8, k9, k10]
def interned : List (Array UInt16 × Addr) := []
def slotsUsed : Nat := 0
def theMethod : MethodId := ⟨1, 2⟩
def args0 : Array Value := #[.int 5, .int 6, .int 7]
def aboutOver (below : List Frame) : State where
  vm := { classes := classes, interned := interned.toArray }
  heap := heap
  slotsUsed := slotsUsed
  threads := #[{ frames := .invoking theMethod args0 :: below }]
def below0 : List Frame := [.native { method := ⟨0, 0⟩, args := #[] }]
def about1 : State := aboutOver below0
def p0 : Program := .bare "" "" ""
def e0 : Env := launch0.env 0 0 0
theorem w_frames : about1.frames = Frame.invoking theMethod args0 :: below0 := rfl
set_option maxRecDepth 65536 in
theorem w_args : argsFit about1.vm theMethod args0 = true := by decide +kernel
set_option maxRecDepth 65536 in
theorem w_heap : heapFits about1 = true := by decide +kernel
set_option maxRecDepth 65536 in
theorem w_runnable : about1.curStatus? = some .runnable := by decide +kernel
set_option maxRecDepth 65536 in
theorem w_alone : about1.alone = true := by decide +kernel
set_option maxRecDepth 65536 in
theorem w_named : about1.methodNamed? x = some theMethod := by decide +kernel
set_option maxRecDepth 65536 in
theorem w_hears : about1.hears theMethod below0 = true := by decide +kernel
set_option maxRecDepth 65536 in
theorem w_ripe : about1.ripe theMethod args0 below0 = true := by decide +kernel
theorem w_running : about1.status = .running := rfl
set_option maxRecDepth 65536 in
theorem w_room : about1.hasRoom e0.platform room_1 = true :=
  launch0.hasRoom_least _ room_1 (by decide +kernel) (by decide +kernel) (by decide +kernel) (by decide +kernel) (by decide +kernel) (by decide +kernel)
theorem allAtoms_all (ts : List Jvm.Cond) (a : Array Jvm.Value) (st : Jvm.State) : (allAtoms ts).before a st = ts.all (fun c => c.before a st) := by
  induction ts with
  | nil => rfl
  | cons c t ih =>
    show (Jvm.Cond.and c (allAtoms t)).before a st = _
    rw [Jvm.Cond.before_and, ih, List.all_cons]
def words1 : List Jvm.Cond := Jvm.Cond.code x code maxLocals ret :: tables_1
/-- a 'code' word, met by the world's own term for the bytes: nothing is compared byte by byte -/
theorem code_word {y : MethodName} {bytes : ByteArray} {mx : Nat} {rt : Option FieldType} {a : Array Value} {s : State} {m : MethodId} {meth : Method} {c : Code} (h1 : s.methodNamed? y = some m) (h2 : s.vm.method? m = some meth) (h3 : meth.code = some c) (h4 : c.code = bytes)
    (h5 : (c.maxLocals == mx && c.exceptionTable.isEmpty && decide (c.maxStack ≤ mostOperands) && decide (meth.sig.returnType = rt) && !meth.locks && decide (parseMethodDescriptor y.desc = some meth.sig)) = true) : (Jvm.Cond.code y bytes mx rt).before a s = true := by
  simp only [Bool.and_eq_true, beq_iff_eq, Bool.not_eq_true', decide_eq_true_eq] at h5
  obtain ⟨⟨⟨⟨⟨g1, g2⟩, g3⟩, g4⟩, g5⟩, g6⟩ := h5
  simp [Cond.before, Cond.holds, Cond.value, h1, h2, h3, h4, g1, g2, g3, g4, g5, g6]
def isCode : Jvm.Cond → Bool
  | .code _ _ _ _ => true
  | _ => false
theorem all_split {L : List Jvm.Cond} {P : Jvm.Cond → Bool} (h1 : L.all (fun c => isCode c || P c) = true) (h2 : ∀ c ∈ L.filter isCode, P c = true) : L.all P = true := by
  refine List.all_eq_true.mpr fun c hc => ?_
  have h := List.all_eq_true.mp h1 c hc
  rcases Bool.eq_false_or_eq_true (isCode c) with hi | hi
  · exact h2 c (List.mem_filter.mpr ⟨hc, hi⟩)
  · simpa [hi] using h
set_option maxRecDepth 65536 in
theorem w_c0 : (Jvm.Cond.code x code maxLocals ret).before args0 about1 = true := code_word (m := ⟨1, 2⟩) (meth := k1m2) (c := k1c2) (by decide +kernel) rfl rfl rfl (by decide +kernel)
set_option maxRecDepth 65536 in
theorem w_c1 : (Jvm.Cond.code ({ cls := "com/example/tidemark/tidemark/model/RecordTally", name := "<init>", desc := "([I[J[JJ)V" } : Jvm.MethodName) prog_89_method_1_code (8 : Nat) (Option.none : Option Jvm.ClassFile.FieldType)).before args0 about1 = true := code_word (m := ⟨2, 0⟩) (meth := k2m0) (c := k2c0) (by decide +kernel) rfl rfl rfl (by decide +kernel)
set_option maxRecDepth 65536 in
theorem w_c2 : (Jvm.Cond.code ({ cls := "java/lang/Object", name := "<init>", desc := "()V" } : Jvm.MethodName) object_method_1_code (1 : Nat) (Option.none : Option Jvm.ClassFile.FieldType)).before args0 about1 = true := code_word (m := ⟨0, 0⟩) (meth := k0m0) (c := k0c0) (by decide +kernel) rfl rfl rfl (by decide +kernel)
set_option maxRecDepth 65536 in
theorem w_c3 : (Jvm.Cond.code ({ cls := "com/example/tidemark/tidemark/model/RecordTallyUnownedPinLaw", name := "in", desc := "(IIIII)Z" } : Jvm.MethodName) method_2_code (5 : Nat) (Option.some Jvm.ClassFile.FieldType.boolean)).before args0 about1 = true := code_word (m := ⟨1, 1⟩) (meth := k1m1) (c := k1c1) (by decide +kernel) rfl rfl rfl (by decide +kernel)
set_option maxRecDepth 65536 in
theorem w_c4 : (Jvm.Cond.code ({ cls := "com/example/tidemark/tidemark/model/RecordTally", name := "unowned", desc := "(I)I" } : Jvm.MethodName) prog_89_method_9_code (3 : Nat) (Option.some Jvm.ClassFile.FieldType.int)).before args0 about1 = true := code_word (m := ⟨2, 1⟩) (meth := k2m1) (c := k2c1) (by decide +kernel) rfl rfl rfl (by decide +kernel)
def codes1 : List Jvm.Cond := [Jvm.Cond.code x code maxLocals ret, Jvm.Cond.code ({ cls := "com/example/tidemark/tidemark/model/RecordTally", name := "<init>", desc := "([I[J[JJ)V" } : Jvm.MethodName) prog_89_method_1_code (8 : Nat) (Option.none : Option Jvm.ClassFile.FieldType), Jvm.Cond.code ({ cls := "java/lang/Object", name := "<init>", desc := "()V" } : Jvm.MethodName) object_method_1_code (1 : Nat) (Option.none : Option Jvm.ClassFile.FieldType), Jvm.Cond.code ({ cls := "com/example/tidemark/tidemark/model/RecordTallyUnownedPinLaw", name := "in", desc := "(IIIII)Z" } : Jvm.MethodName) method_2_code (5 : Nat) (Option.some Jvm.ClassFile.FieldType.boolean), Jvm.Cond.code ({ cls := "com/example/tidemark/tidemark/model/RecordTally", name := "unowned", desc := "(I)I" } : Jvm.MethodName) prog_89_method_9_code (3 : Nat) (Option.some Jvm.ClassFile.FieldType.int)]
set_option maxRecDepth 65536 in
theorem codes_eq : words1.filter isCode = codes1 := rfl
theorem w_codes : ∀ c ∈ words1.filter isCode, c.before args0 about1 = true := by
  rw [codes_eq]
  intro c hc
  simp only [codes1, List.mem_cons, List.not_mem_nil, or_false] at hc
  rcases hc with rfl | rfl | rfl | rfl | rfl
  · exact w_c0
  · exact w_c1
  · exact w_c2
  · exact w_c3
  · exact w_c4
set_option maxRecDepth 65536 in
theorem w_t1 : (words1.take 24).all (fun c => isCode c || c.before args0 about1) = true := by decide +kernel
set_option maxRecDepth 65536 in
theorem w_t2 : (words1.drop 24).all (fun c => isCode c || c.before args0 about1) = true := by decide +kernel
theorem w_tables : (allAtoms (Jvm.Cond.code x code maxLocals ret :: tables_1)).before args0 about1 = true := by
  rw [allAtoms_all]
  show words1.all (fun c => c.before args0 about1) = true
  refine all_split ?_ w_codes
  rw [← List.take_append_drop 24 words1, List.all_append, w_t1, w_t2]
  rfl
set_option maxRecDepth 65536 in
theorem w_case : (Jvm.Cond.and given_1 narrow_1).before args0 about1 = true := by decide +kernel
theorem w_applies : (headSpec (Jvm.Cond.code x code maxLocals ret :: tables_1) room_1).applies x e0.platform about1 = true :=
  (Spec.applies_iff w_frames).mpr ⟨w_running, w_runnable, w_alone, w_named, w_hears, w_ripe, w_room, w_tables⟩
theorem atStart : AtStart classFile x code maxLocals ret World_1 tables_1 room_1 Calls_1 rest_1 Pre_1 launch0 p0 e0 about1 theMethod args0 below0 :=
  ⟨lists_1, trivial, launch0.admits_env _ _ _, launch0.least_env, fairChoices_fair.cas, fairChoices_fair.clock, w_frames, w_args, w_heap, w_applies, trivial, trivial, w_case⟩
end start1
theorem witness_1 : WitnessClaimed_1 := ⟨start1.p0, start1.e0, start1.about1, start1.theMethod, start1.args0, start1.below0, start1.atStart⟩
end Jvm.Pilot.@@N@@
