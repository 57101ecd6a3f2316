import JvmDerived
import JvmDerived.Pilot.@@N@@Statement
import JvmDerived.Pilot.@@N@@Code
set_option linter.unusedVariables false
set_option linter.unusedSimpArgs false
@@BLOCK:NumsL.lean.txt@@
namespace Jvm.Pilot.@@N@@
open Jvm Jvm.ClassFile Sem Op Lib Jvm.Free Jvm.Stand Jvm.LawKit Jvm.RoadKit Bundle Jvm.Pilot.@@N@@.Jvm.D
/-! A small calculus over the library's laws: the cells that the walk itself has made stand in a list (an object: its class and fields; an array: its kind and elements); K pc locals stack cells .. says that the run from there ends as the contract says. -/
abbrev ACell := (String × List (String × String × Value)) ⊕ (FieldType × List Value)
abbrev AHeap := List ACell
def ad (n0 i : Nat) : Addr := n0 + i
theorem ad_le (n0 i : Nat) : n0 ≤ ad n0 i := Nat.le_add_right _ _
theorem ad_ne {n0 i j : Nat} (h : i ≠ j) : ad n0 i ≠ ad n0 j := fun e => h (Nat.add_left_cancel e)
def COk (Z : State) (a0 : Array Value) (h : Heap) (a : Addr) : ACell → Prop
  | .inl (C, fs) => Exa Z h a C ∧ (fs.map Prod.fst).Nodup ∧ ∀ (j : Nat) (n d : String) (v : Value), fs[j]? = some (n, d, v) → Fld Z h a C n d v ∧ Laid Z a0 C C n d ∧ ∃ t, parseFieldDescriptor d = some t
  | .inr (ty, vs) => Exa Z h a ("[" ++ ty.toString) ∧ ∃ c : Cell, Arr Z h a c ty ∧ c.slots = vs.toArray ∧ vs.length < 2147483648 ∧ ∀ v ∈ vs, fits ty v = true
def Rep (Z : State) (a0 : Array Value) (n0 : Nat) (h : Heap) (A : AHeap) : Prop := h.size = n0 + A.length ∧ ∀ (i : Nat) (c : ACell), A[i]? = some c → COk Z a0 h (ad n0 i) c
section Reps
variable {Z : State} {a0 : Array Value} {n0 : Nat} {h h' : Heap} {A : AHeap}
theorem COk.ext {a : Addr} {c : ACell} (E : Ext h h') (H : COk Z a0 h a c) : COk Z a0 h' a c := by
  match c, H with
  | .inl (C, fs), ⟨h1, h2, h3⟩ => exact ⟨h1.ext E, h2, fun j n d v hj => ⟨(h3 j n d v hj).1.ext E, (h3 j n d v hj).2⟩⟩
  | .inr (ty, vs), ⟨h0, c, h1, h2⟩ => exact ⟨h0.ext E, c, h1.ext E, h2⟩
theorem COk.other {a b : Addr} {sl : Nat} {v : Value} {c : ACell} (W : Wr h h' a sl v) (ne : b ≠ a) (H : COk Z a0 h b c) : COk Z a0 h' b c := by
  match c, H with
  | .inl (C, fs), ⟨h1, h2, h3⟩ => exact ⟨h1.wr W, h2, fun j n d v hj => ⟨(h3 j n d v hj).1.other W (Or.inl ne), (h3 j n d v hj).2⟩⟩
  | .inr (ty, vs), ⟨h0, c, h1, h2⟩ => exact ⟨h0.wr W, c, h1.other W ne, h2⟩
theorem Rep.nil (Z : State) (a0 : Array Value) (h : Heap) : Rep Z a0 h.size h [] := ⟨rfl, fun i c hi => by simp at hi⟩
theorem Rep.push {c : ACell} (H : Rep Z a0 n0 h A) (E : Ext h h') (hs : h'.size = h.size + 1) (hc : COk Z a0 h' h.size c) : Rep Z a0 n0 h' (A ++ [c]) := by
  refine ⟨by rw [hs, H.1]; simp [Nat.add_assoc], fun i d hi => ?_⟩
  rcases Nat.lt_or_ge i A.length with q | q
  · rw [List.getElem?_append_left q] at hi
    exact (H.2 i d hi).ext E
  · rw [List.getElem?_append_right q] at hi
    have hz : i - A.length = 0 := by
      rcases Nat.eq_zero_or_pos (i - A.length) with z | z
      · exact z
      · rw [List.getElem?_eq_none (by simp; omega)] at hi; cases hi
    rw [hz] at hi
    cases hi
    have : ad n0 i = h.size := by rw [H.1]; show n0 + i = _; omega
    rw [this]; exact hc
theorem Rep.wr {i : Nat} {sl : Nat} {v : Value} {c : ACell} (H : Rep Z a0 n0 h A) (W : Wr h h' (ad n0 i) sl v) (hc : COk Z a0 h' (ad n0 i) c) : Rep Z a0 n0 h' (A.set i c) := by
  refine ⟨by rw [W.size, H.1]; simp, fun j d hj => ?_⟩
  rw [List.getElem?_set] at hj
  split at hj
  · rename_i e
    subst e
    split at hj
    · cases hj; exact hc
    · cases hj
  · rename_i ne
    exact (H.2 j d hj).other W (ad_ne fun e => ne e.symm)
theorem nodup_at {L : List String} {i j : Nat} {x : String} (hn : L.Nodup) (hi : L[i]? = some x) (hj : L[j]? = some x) : i = j :=
  (List.getElem?_inj (List.getElem?_eq_some_iff.mp hi).1 hn).mp (hi.trans hj.symm)
theorem COk.put {a : Addr} {C n d : String} {v old : Value} {fs : List (String × String × Value)} {j : Nat} (H : COk Z a0 h a (.inl (C, fs))) (hj : fs[j]? = some (n, d, old)) (W : Wr h h' a (Jvm.RoadKit.slotOf Z C n d) v) : COk Z a0 h' a (.inl (C, fs.set j (n, d, v))) := by
  obtain ⟨h1, h2, h3⟩ := H
  have hm : (fs.set j (n, d, v)).map Prod.fst = fs.map Prod.fst := by
    rw [List.map_set]
    obtain ⟨hl, e⟩ := List.getElem?_eq_some_iff.mp hj
    apply List.ext_getElem?
    intro k
    rw [List.getElem?_set]
    split
    · rename_i e2; subst e2; simp [hl, e]
    · rfl
  refine ⟨h1.wr W, by rw [hm]; exact h2, fun k n' d' v' hk => ?_⟩
  rw [List.getElem?_set] at hk
  split at hk
  · rename_i e; subst e
    split at hk
    · cases hk; exact ⟨(h3 j n d old hj).1.same W, (h3 j n d old hj).2⟩
    · cases hk
  · rename_i ne
    have q := h3 k n' d' v' hk
    obtain ⟨q1, q2, t', q3⟩ := q
    obtain ⟨-, p2, t, p3⟩ := h3 j n d old hj
    refine ⟨q1.other W (Or.inr (slot_ne q2 p2 ?_ q3 p3)), q2, t', q3⟩
    intro e
    subst e
    exact ne (nodup_at h2 (i := j) (j := k) (x := n') (by simp [hj]) (by simp [hk]))
theorem COk.store {a : Addr} {ty : FieldType} {vs : List Value} {v : Value} {j : Nat} (H : COk Z a0 h a (.inr (ty, vs))) (hf : fits ty v = true) (W : Wr h h' a j v) : COk Z a0 h' a (.inr (ty, vs.set j v)) := by
  obtain ⟨h0, c, h1, h2, h3, h4⟩ := H
  refine ⟨h0.wr W, _, h1.same W, ?_, by simpa using h3, fun w hw => ?_⟩
  · show c.slots.setIfInBounds j v = _
    rw [h2]; simp
  · rcases List.mem_or_eq_of_mem_set hw with q | rfl
    · exact h4 w q
    · exact hf
def FOk (Z : State) (a0 : Array Value) (C : String) (fs : List (String × String × Value)) : Prop := (fs.map Prod.fst).Nodup ∧ ∀ f ∈ fs, Laid Z a0 C C f.1 f.2.1 ∧ ∃ t, parseFieldDescriptor f.2.1 = some t ∧ defaultValue t = f.2.2
theorem FOk.nil (C : String) : FOk Z a0 C [] := ⟨List.nodup_nil, fun f hf => nomatch hf⟩
theorem FOk.cons {C n d : String} {t : FieldType} {fs : List (String × String × Value)} (H : FOk Z a0 C fs) (L : Laid Z a0 C C n d) (ht : parseFieldDescriptor d = some t) (hn : n ∉ fs.map Prod.fst) : FOk Z a0 C ((n, d, defaultValue t) :: fs) := by
  refine ⟨by simp only [List.map_cons]; exact List.nodup_cons.mpr ⟨hn, H.1⟩, fun f hf => ?_⟩
  rcases List.mem_cons.mp hf with rfl | q
  · exact ⟨L, t, ht, rfl⟩
  · exact H.2 f q
theorem set_at {i : Nat} {c X : ACell} (h : A[i]? = some c) : (A.set i X)[i]? = some X := by
  obtain ⟨hl, -⟩ := List.getElem?_eq_some_iff.mp h
  simp [hl]
theorem set_ne {i j : Nat} {c X : ACell} (ne : i ≠ j) (h : A[j]? = some c) : (A.set i X)[j]? = some c := by
  rw [List.getElem?_set_ne ne]; exact h
end Reps
/-- Java's x >>> y -/
def ushr (x y : Int32) : Int32 := (x.toUInt32 >>> (y &&& 31).toUInt32).toInt32
def ushrL (x : Int64) (y : Int32) : Int64 := (x.toUInt64 >>> (y &&& 0x3f).toInt64.toUInt64).toInt64
abbrev KK := Nat → List Slot → List Value → AHeap → Nat → Nat → Prop
def Gd (l : Launch) (Z : State) (a0 : Array Value) (n0 b : Nat) (R : Room) (cs ss : Nat) (own nm : String) (code : ByteArray) (ml : Nat) (ret : Option FieldType) (Q : Option Value → AHeap → Prop) (K : KK) : Prop :=
  ∃ (p : Program) (e : Env) (s : State) (m : MethodId) (args : Array Value) (below : List Frame) (meth : Method) (c : Code),
    p.tables.exec = Jvm.exec ∧ c.code = code ∧ c.maxLocals = ml ∧ s.vm.findClass own = some m.cls ∧ meth.name = nm ∧ Z.Warmed39 s.vm ∧ meth.sig.returnType = ret ∧ meth.locks = false ∧ s.heap.size = n0 + b ∧
    K = fun pc Ls st A k n => ∀ (T : State) (locs : List Loc), Stand p l e R s m args below meth c T locs k n → Fr n0 locs → A.length = b + k → Rep Z a0 n0 T.heap A →
      ∃ s₂ o, Steps p.tables e below (T.setTop (mkF m pc Ls.toArray st)) s₂ ∧ s₂.status = .running ∧ Ended s₂ below o ∧ ∃ v L, o = .returned v ∧ (Fr n0 L ∧ ∃ A', Q v A' ∧ Rep Z a0 n0 s₂.heap A') ∧ FrameEnd s o s₂ L cs ss
def Meth (l : Launch) (Z : State) (a0 : Array Value) (ws : List Jvm.Cond) (y : MethodName) (bytes : ByteArray) (maxL : Nat) (ret : Option FieldType) (rm : Room) (cs ss : Nat) (n0 : Nat) (as : Array Value) (A : AHeap) (Q : Option Value → AHeap → Prop) : Prop :=
  ∀ h0, Rep Z a0 n0 h0 A → MetFree l y (head1 (Jvm.Cond.code y bytes maxL ret :: ws) rm) (fun a U => a = as ∧ Z.Warmed39 U.vm ∧ U.heap = h0) (fun _ _ _ _ _ => True)
    (fun _ U o U' => ∃ v L, o = .returned v ∧ (Fr n0 L ∧ ∃ A', Q v A' ∧ Rep Z a0 n0 U'.heap A') ∧ FrameEnd U o U' L cs ss)
section Rules
variable {l : Launch} {Z : State} {a0 : Array Value} {n0 b : Nat} {R : Room} {cs ss : Nat} {own nm : String} {code : ByteArray} {ml : Nat} {ret : Option FieldType} {Q : Option Value → AHeap → Prop} {K : KK} {pc pc' : Nat} {Ls Ls' : List Slot} {st st' : List Value} {A A' : AHeap} {k n k' n' : Nat}
theorem Meth.of {ws : List Jvm.Cond} {y : MethodName} {as : Array Value} (hp : plainName y.cls = true) (he : ∀ m : MethodId, entryFrame m as ml = mkF m 0 Ls.toArray []) (body : ∀ K, Gd l Z a0 n0 A.length R cs ss y.cls y.name code ml ret Q K → K 0 Ls [] A 0 0) : Meth l Z a0 ws y code ml ret R cs ss n0 as A Q := by
  intro h0 hR
  refine MetFree.of_bodySF (plainFor_of_name hp) hisR ?_
  intro p e s m args below meth c s₁ Bd hml0 hP hK
  obtain ⟨rfl, hZ, hh⟩ := hP
  have X0 : Stand p l e R s m args below meth c s₁ [] 0 0 := Stand.of_body Bd
  have e0 : s₁.heap = h0 := by rw [← hh, Bd.state]; rfl
  have q := body _ ⟨p, e, s, m, args, below, meth, c, Bd.exec, Bd.bytes, hml0, findClass_of_methodNamed Bd.named, (name_of_methodNamed Bd.named Bd.method).1, hZ, Bd.returns, Bd.notSynchronized, by rw [hh]; exact hR.1, rfl⟩ s₁ [] X0 (Fr.nil n0) rfl (by rw [e0]; exact hR)
  obtain ⟨s₂, o, h1, h2, h3, h4⟩ := q
  exact ⟨s₂, o, castTop (he m) h1, h2, h3, h4⟩
theorem Gd.run1 (G : Gd l Z a0 n0 b R cs ss own nm code ml ret Q K) (hst : ∀ (p : Program) (e : Env) (below : List Frame) (T target : State) (m : MethodId) (c : Code), p.tables.exec = Jvm.exec → c.code = code → At T m c below → Steps p.tables e below (T.setTop (mkF m pc' Ls'.toArray st')) target → Steps p.tables e below (T.setTop (mkF m pc Ls.toArray st)) target) (h : K pc' Ls' st' A k n) : K pc Ls st A k n := by
  obtain ⟨p, e, s, m, args, below, meth, c, hx, hby, -, -, -, -, -, -, -, rfl⟩ := G
  intro T locs X N hA RP
  obtain ⟨s₂, o, hs, r⟩ := h T locs X N hA RP
  exact ⟨s₂, o, hst p e below T s₂ m c hx hby X.here hs, r⟩
/-- the count of slots may grow -/
theorem Gd.more (G : Gd l Z a0 n0 b R cs ss own nm code ml ret Q K) (hn : n ≤ n') (h : K pc Ls st A k n') : K pc Ls st A k n := by
  obtain ⟨p, e, s, m, args, below, meth, c, hx, hby, -, -, -, -, -, -, -, rfl⟩ := G
  intro T locs X N hA RP
  exact h T locs (X.more (Nat.le_refl _) hn) N hA RP
theorem lat {L : List Slot} {i : Nat} {o : Slot} (h : L[i]? = some o) : L.toArray[i]? = some o := by simpa using h
theorem Gd.iloadN (G : Gd l Z a0 n0 b R cs ss own nm code ml ret Q K) {i : Fin 4} {v : Int32} (hd : decode code pc = .ok (.iload_n i, 1)) (hl : Ls[i.val]? = some (.val (.int v))) (h : K (pc + 1) Ls (.int v :: st) A k n) : K pc Ls st A k n :=
  G.run1 (fun _ _ _ _ _ _ _ hx hby hA r => XS.iloadN hA hx rfl (hb hby hd) (lat hl) r) h
theorem Gd.iload (G : Gd l Z a0 n0 b R cs ss own nm code ml ret Q K) {i : Nat} {v : Int32} (hd : decode code pc = .ok (.iload i, 2)) (hl : Ls[i]? = some (.val (.int v))) (h : K (pc + 2) Ls (.int v :: st) A k n) : K pc Ls st A k n :=
  G.run1 (fun _ _ _ _ _ _ _ hx hby hA r => XS.iload hA hx rfl (hb hby hd) (lat hl) r) h
theorem Gd.lloadN (G : Gd l Z a0 n0 b R cs ss own nm code ml ret Q K) {i : Fin 4} {v : Int64} (hd : decode code pc = .ok (.lload_n i, 1)) (hl : Ls[i.val]? = some (.val (.long v))) (h : K (pc + 1) Ls (.long v :: st) A k n) : K pc Ls st A k n :=
  G.run1 (fun _ _ _ _ _ _ _ hx hby hA r => XS.lloadN hA hx rfl (hb hby hd) (lat hl) r) h
theorem Gd.lload (G : Gd l Z a0 n0 b R cs ss own nm code ml ret Q K) {i : Nat} {v : Int64} (hd : decode code pc = .ok (.lload i, 2)) (hl : Ls[i]? = some (.val (.long v))) (h : K (pc + 2) Ls (.long v :: st) A k n) : K pc Ls st A k n :=
  G.run1 (fun _ _ _ _ _ _ _ hx hby hA r => XS.lload hA hx rfl (hb hby hd) (lat hl) r) h
theorem Gd.aloadN (G : Gd l Z a0 n0 b R cs ss own nm code ml ret Q K) {i : Fin 4} {v : Value} (hd : decode code pc = .ok (.aload_n i, 1)) (hl : Ls[i.val]? = some (.val v)) (hv : v.isRef = true) (h : K (pc + 1) Ls (v :: st) A k n) : K pc Ls st A k n :=
  G.run1 (fun _ _ _ _ _ _ _ hx hby hA r => XS.aloadN hA hx rfl (hb hby hd) (lat hl) hv r) h
theorem Gd.aload (G : Gd l Z a0 n0 b R cs ss own nm code ml ret Q K) {i : Nat} {v : Value} (hd : decode code pc = .ok (.aload i, 2)) (hl : Ls[i]? = some (.val v)) (hv : v.isRef = true) (h : K (pc + 2) Ls (v :: st) A k n) : K pc Ls st A k n :=
  G.run1 (fun _ _ _ _ _ _ _ hx hby hA r => XS.aload hA hx rfl (hb hby hd) (lat hl) hv r) h
theorem Gd.iconst (G : Gd l Z a0 n0 b R cs ss own nm code ml ret Q K) {i : Int} (z : Int32) (hd : decode code pc = .ok (.iconst i, 1)) (hz : Int32.ofInt i = z) (h : K (pc + 1) Ls (.int z :: st) A k n) : K pc Ls st A k n :=
  G.run1 (fun _ _ _ _ _ _ _ hx hby hA r => XS.iconst hA hx rfl (hb hby hd) (by rw [hz]; exact r)) h
theorem Gd.bipush (G : Gd l Z a0 n0 b R cs ss own nm code ml ret Q K) {i : Int} (z : Int32) (hd : decode code pc = .ok (.bipush i, 2)) (hz : (Int8.ofInt i).toInt32 = z) (h : K (pc + 2) Ls (.int z :: st) A k n) : K pc Ls st A k n :=
  G.run1 (fun _ _ _ _ _ _ _ hx hby hA r => XS.bipush hA hx rfl (hb hby hd) (by rw [hz]; exact r)) h
theorem Gd.sipush (G : Gd l Z a0 n0 b R cs ss own nm code ml ret Q K) {i : Int} (z : Int32) (hd : decode code pc = .ok (.sipush i, 3)) (hz : (Int16.ofInt i).toInt32 = z) (h : K (pc + 3) Ls (.int z :: st) A k n) : K pc Ls st A k n :=
  G.run1 (fun _ _ _ _ _ _ _ hx hby hA r => XS.sipush hA hx rfl (hb hby hd) (by rw [hz]; exact r)) h
theorem Gd.lconst (G : Gd l Z a0 n0 b R cs ss own nm code ml ret Q K) {i : Fin 2} (z : Int64) (hd : decode code pc = .ok (.lconst i, 1)) (hz : Int64.ofNat i = z) (h : K (pc + 1) Ls (.long z :: st) A k n) : K pc Ls st A k n :=
  G.run1 (fun _ _ _ _ _ _ _ hx hby hA r => XS.lconst hA hx rfl (hb hby hd) (by rw [hz]; exact r)) h
theorem Gd.aconstNull (G : Gd l Z a0 n0 b R cs ss own nm code ml ret Q K) (hd : decode code pc = .ok (.aconst_null, 1)) (h : K (pc + 1) Ls (.null :: st) A k n) : K pc Ls st A k n :=
  G.run1 (fun _ _ _ _ _ _ _ hx hby hA r => XS.aconstNull hA hx rfl (hb hby hd) r) h
theorem Gd.iadd (G : Gd l Z a0 n0 b R cs ss own nm code ml ret Q K) {x y : Int32} (hd : decode code pc = .ok (.iadd, 1)) (h : K (pc + 1) Ls (.int (x + y) :: st) A k n) : K pc Ls (.int y :: .int x :: st) A k n :=
  G.run1 (fun _ _ _ _ _ _ _ hx hby hA r => XS.iadd hA hx rfl (hb hby hd) rfl r) h
theorem Gd.isub (G : Gd l Z a0 n0 b R cs ss own nm code ml ret Q K) {x y : Int32} (hd : decode code pc = .ok (.isub, 1)) (h : K (pc + 1) Ls (.int (x - y) :: st) A k n) : K pc Ls (.int y :: .int x :: st) A k n :=
  G.run1 (fun _ _ _ _ _ _ _ hx hby hA r => XS.isub hA hx rfl (hb hby hd) rfl r) h
theorem Gd.imul (G : Gd l Z a0 n0 b R cs ss own nm code ml ret Q K) {x y : Int32} (hd : decode code pc = .ok (.imul, 1)) (h : K (pc + 1) Ls (.int (x * y) :: st) A k n) : K pc Ls (.int y :: .int x :: st) A k n :=
  G.run1 (fun _ _ _ _ _ _ _ hx hby hA r => XS.imul hA hx rfl (hb hby hd) rfl r) h
theorem Gd.iand (G : Gd l Z a0 n0 b R cs ss own nm code ml ret Q K) {x y : Int32} (hd : decode code pc = .ok (.iand, 1)) (h : K (pc + 1) Ls (.int (x &&& y) :: st) A k n) : K pc Ls (.int y :: .int x :: st) A k n :=
  G.run1 (fun _ _ _ _ _ _ _ hx hby hA r => XS.iand hA hx rfl (hb hby hd) rfl r) h
theorem Gd.ior (G : Gd l Z a0 n0 b R cs ss own nm code ml ret Q K) {x y : Int32} (hd : decode code pc = .ok (.ior, 1)) (h : K (pc + 1) Ls (.int (x ||| y) :: st) A k n) : K pc Ls (.int y :: .int x :: st) A k n :=
  G.run1 (fun _ _ _ _ _ _ _ hx hby hA r => XS.ior hA hx rfl (hb hby hd) rfl r) h
theorem Gd.ixor (G : Gd l Z a0 n0 b R cs ss own nm code ml ret Q K) {x y : Int32} (hd : decode code pc = .ok (.ixor, 1)) (h : K (pc + 1) Ls (.int (x ^^^ y) :: st) A k n) : K pc Ls (.int y :: .int x :: st) A k n :=
  G.run1 (fun _ _ _ _ _ _ _ hx hby hA r => XS.ixor hA hx rfl (hb hby hd) rfl r) h
theorem Gd.ishl (G : Gd l Z a0 n0 b R cs ss own nm code ml ret Q K) {x y : Int32} (hd : decode code pc = .ok (.ishl, 1)) (h : K (pc + 1) Ls (.int (x <<< (y &&& 31)) :: st) A k n) : K pc Ls (.int y :: .int x :: st) A k n :=
  G.run1 (fun _ _ _ _ _ _ _ hx hby hA r => XS.ishl hA hx rfl (hb hby hd) rfl r) h
theorem Gd.ishr (G : Gd l Z a0 n0 b R cs ss own nm code ml ret Q K) {x y : Int32} (hd : decode code pc = .ok (.ishr, 1)) (h : K (pc + 1) Ls (.int (x >>> (y &&& 31)) :: st) A k n) : K pc Ls (.int y :: .int x :: st) A k n :=
  G.run1 (fun _ _ _ _ _ _ _ hx hby hA r => XS.ishr hA hx rfl (hb hby hd) rfl r) h
theorem Gd.iushr (G : Gd l Z a0 n0 b R cs ss own nm code ml ret Q K) {x y : Int32} (hd : decode code pc = .ok (.iushr, 1)) (h : K (pc + 1) Ls (.int (ushr x y) :: st) A k n) : K pc Ls (.int y :: .int x :: st) A k n :=
  G.run1 (fun _ _ _ _ _ _ _ hx hby hA r => XS.iushr hA hx rfl (hb hby hd) rfl r) h
theorem Gd.ladd (G : Gd l Z a0 n0 b R cs ss own nm code ml ret Q K) {x y : Int64} (hd : decode code pc = .ok (.ladd, 1)) (h : K (pc + 1) Ls (.long (x + y) :: st) A k n) : K pc Ls (.long y :: .long x :: st) A k n :=
  G.run1 (fun _ _ _ _ _ _ _ hx hby hA r => XS.ladd hA hx rfl (hb hby hd) rfl r) h
theorem Gd.lsub (G : Gd l Z a0 n0 b R cs ss own nm code ml ret Q K) {x y : Int64} (hd : decode code pc = .ok (.lsub, 1)) (h : K (pc + 1) Ls (.long (x - y) :: st) A k n) : K pc Ls (.long y :: .long x :: st) A k n :=
  G.run1 (fun _ _ _ _ _ _ _ hx hby hA r => XS.lsub hA hx rfl (hb hby hd) rfl r) h
theorem Gd.lmul (G : Gd l Z a0 n0 b R cs ss own nm code ml ret Q K) {x y : Int64} (hd : decode code pc = .ok (.lmul, 1)) (h : K (pc + 1) Ls (.long (x * y) :: st) A k n) : K pc Ls (.long y :: .long x :: st) A k n :=
  G.run1 (fun _ _ _ _ _ _ _ hx hby hA r => XS.lmul hA hx rfl (hb hby hd) rfl r) h
theorem Gd.land (G : Gd l Z a0 n0 b R cs ss own nm code ml ret Q K) {x y : Int64} (hd : decode code pc = .ok (.land, 1)) (h : K (pc + 1) Ls (.long (x &&& y) :: st) A k n) : K pc Ls (.long y :: .long x :: st) A k n :=
  G.run1 (fun _ _ _ _ _ _ _ hx hby hA r => XS.land hA hx rfl (hb hby hd) rfl r) h
theorem Gd.lor (G : Gd l Z a0 n0 b R cs ss own nm code ml ret Q K) {x y : Int64} (hd : decode code pc = .ok (.lor, 1)) (h : K (pc + 1) Ls (.long (x ||| y) :: st) A k n) : K pc Ls (.long y :: .long x :: st) A k n :=
  G.run1 (fun _ _ _ _ _ _ _ hx hby hA r => XS.lor hA hx rfl (hb hby hd) rfl r) h
theorem Gd.lxor (G : Gd l Z a0 n0 b R cs ss own nm code ml ret Q K) {x y : Int64} (hd : decode code pc = .ok (.lxor, 1)) (h : K (pc + 1) Ls (.long (x ^^^ y) :: st) A k n) : K pc Ls (.long y :: .long x :: st) A k n :=
  G.run1 (fun _ _ _ _ _ _ _ hx hby hA r => XS.lxor hA hx rfl (hb hby hd) rfl r) h
theorem Gd.lshl (G : Gd l Z a0 n0 b R cs ss own nm code ml ret Q K) {x : Int64} {y : Int32} (hd : decode code pc = .ok (.lshl, 1)) (h : K (pc + 1) Ls (.long (x <<< (y &&& 0x3f).toInt64) :: st) A k n) : K pc Ls (.int y :: .long x :: st) A k n :=
  G.run1 (fun _ _ _ _ _ _ _ hx hby hA r => XS.lshl hA hx rfl (hb hby hd) rfl r) h
theorem Gd.lshr (G : Gd l Z a0 n0 b R cs ss own nm code ml ret Q K) {x : Int64} {y : Int32} (hd : decode code pc = .ok (.lshr, 1)) (h : K (pc + 1) Ls (.long (x >>> (y &&& 0x3f).toInt64) :: st) A k n) : K pc Ls (.int y :: .long x :: st) A k n :=
  G.run1 (fun _ _ _ _ _ _ _ hx hby hA r => XS.lshr hA hx rfl (hb hby hd) rfl r) h
theorem Gd.lushr (G : Gd l Z a0 n0 b R cs ss own nm code ml ret Q K) {x : Int64} {y : Int32} (hd : decode code pc = .ok (.lushr, 1)) (h : K (pc + 1) Ls (.long (ushrL x y) :: st) A k n) : K pc Ls (.int y :: .long x :: st) A k n :=
  G.run1 (fun _ _ _ _ _ _ _ hx hby hA r => XS.lushr hA hx rfl (hb hby hd) rfl r) h
theorem Gd.ineg (G : Gd l Z a0 n0 b R cs ss own nm code ml ret Q K) {x : Int32} (hd : decode code pc = .ok (.ineg, 1)) (h : K (pc + 1) Ls (.int (-x) :: st) A k n) : K pc Ls (.int x :: st) A k n :=
  G.run1 (fun _ _ _ _ _ _ _ hx hby hA r => XS.ineg hA hx rfl (hb hby hd) rfl r) h
theorem Gd.lneg (G : Gd l Z a0 n0 b R cs ss own nm code ml ret Q K) {x : Int64} (hd : decode code pc = .ok (.lneg, 1)) (h : K (pc + 1) Ls (.long (-x) :: st) A k n) : K pc Ls (.long x :: st) A k n :=
  G.run1 (fun _ _ _ _ _ _ _ hx hby hA r => XS.lneg hA hx rfl (hb hby hd) rfl r) h
theorem Gd.i2l (G : Gd l Z a0 n0 b R cs ss own nm code ml ret Q K) {x : Int32} (hd : decode code pc = .ok (.i2l, 1)) (h : K (pc + 1) Ls (.long (x.toInt64) :: st) A k n) : K pc Ls (.int x :: st) A k n :=
  G.run1 (fun _ _ _ _ _ _ _ hx hby hA r => XS.i2l hA hx rfl (hb hby hd) rfl r) h
theorem Gd.l2i (G : Gd l Z a0 n0 b R cs ss own nm code ml ret Q K) {x : Int64} (hd : decode code pc = .ok (.l2i, 1)) (h : K (pc + 1) Ls (.int (x.toInt32) :: st) A k n) : K pc Ls (.long x :: st) A k n :=
  G.run1 (fun _ _ _ _ _ _ _ hx hby hA r => XS.l2i hA hx rfl (hb hby hd) rfl r) h
theorem Gd.i2b (G : Gd l Z a0 n0 b R cs ss own nm code ml ret Q K) {x : Int32} (hd : decode code pc = .ok (.i2b, 1)) (h : K (pc + 1) Ls (.int (x.toInt8.toInt32) :: st) A k n) : K pc Ls (.int x :: st) A k n :=
  G.run1 (fun _ _ _ _ _ _ _ hx hby hA r => XS.i2b hA hx rfl (hb hby hd) rfl r) h
theorem Gd.i2c (G : Gd l Z a0 n0 b R cs ss own nm code ml ret Q K) {x : Int32} (hd : decode code pc = .ok (.i2c, 1)) (h : K (pc + 1) Ls (.int (x.toUInt32.toUInt16.toUInt32.toInt32) :: st) A k n) : K pc Ls (.int x :: st) A k n :=
  G.run1 (fun _ _ _ _ _ _ _ hx hby hA r => XS.i2c hA hx rfl (hb hby hd) rfl r) h
theorem Gd.i2s (G : Gd l Z a0 n0 b R cs ss own nm code ml ret Q K) {x : Int32} (hd : decode code pc = .ok (.i2s, 1)) (h : K (pc + 1) Ls (.int (x.toInt16.toInt32) :: st) A k n) : K pc Ls (.int x :: st) A k n :=
  G.run1 (fun _ _ _ _ _ _ _ hx hby hA r => XS.i2s hA hx rfl (hb hby hd) rfl r) h
theorem Gd.irem (G : Gd l Z a0 n0 b R cs ss own nm code ml ret Q K) {x y : Int32} (hd : decode code pc = .ok (.irem, 1)) (hy : y ≠ 0) (h : K (pc + 1) Ls (.int (x % y) :: st) A k n) : K pc Ls (.int y :: .int x :: st) A k n :=
  G.run1 (fun _ _ _ _ _ _ _ hx hby hA r => XS.irem hA hx rfl (hb hby hd) rfl hy (by have q : x - x / y * y = x % y := irem_eq_mod x y; rw [q]; exact r)) h
theorem Gd.lcmp (G : Gd l Z a0 n0 b R cs ss own nm code ml ret Q K) {x y : Int64} (hd : decode code pc = .ok (.lcmp, 1)) (h : K (pc + 1) Ls (.int (lcmpW x y) :: st) A k n) : K pc Ls (.long y :: .long x :: st) A k n :=
  G.run1 (fun _ _ _ _ _ _ _ hx hby hA r => XS.lcmp hA hx rfl (hb hby hd) rfl r) h
theorem Gd.dup (G : Gd l Z a0 n0 b R cs ss own nm code ml ret Q K) {x : Value} (hd : decode code pc = .ok (.dup, 1)) (hc : x.category = 1) (h : K (pc + 1) Ls (x :: x :: st) A k n) : K pc Ls (x :: st) A k n :=
  G.run1 (fun _ _ _ _ _ _ _ hx hby hA r => XS.dup hA hx rfl (hb hby hd) rfl hc r) h
theorem Gd.pop (G : Gd l Z a0 n0 b R cs ss own nm code ml ret Q K) {x : Value} (hd : decode code pc = .ok (.pop, 1)) (hc : x.category = 1) (h : K (pc + 1) Ls st A k n) : K pc Ls (x :: st) A k n :=
  G.run1 (fun _ _ _ _ _ _ _ hx hby hA r => XS.pop hA hx rfl (hb hby hd) rfl hc r) h
theorem Gd.dupX1 (G : Gd l Z a0 n0 b R cs ss own nm code ml ret Q K) {x y : Value} (hd : decode code pc = .ok (.dup_x1, 1)) (hc : x.category = 1) (hc' : y.category = 1) (h : K (pc + 1) Ls (x :: y :: x :: st) A k n) : K pc Ls (x :: y :: st) A k n :=
  G.run1 (fun _ _ _ _ _ _ _ hx hby hA r => XS.dupX1 hA hx rfl (hb hby hd) rfl hc hc' r) h
theorem Gd.dup2 (G : Gd l Z a0 n0 b R cs ss own nm code ml ret Q K) {x y : Value} (hd : decode code pc = .ok (.dup2, 1)) (hc : x.category = 1) (hc' : y.category = 1) (h : K (pc + 1) Ls (x :: y :: x :: y :: st) A k n) : K pc Ls (x :: y :: st) A k n :=
  G.run1 (fun _ _ _ _ _ _ _ hx hby hA r => Jvm.Free.XT.dup2 hA hx rfl (hb hby hd) rfl hc hc' r) h
theorem Gd.astore5 (G : Gd l Z a0 n0 b R cs ss own nm code ml ret Q K) {u0 u1 u2 u3 u4 o : Slot} {r : List Slot} {x : Value} (hd : decode code pc = .ok (.astore 5, 2)) (hv : x.isRef = true) (hl : storeLocals (u0 :: u1 :: u2 :: u3 :: u4 :: o :: r).toArray 5 (x) = some (u0 :: u1 :: u2 :: u3 :: u4 :: .val x :: r).toArray) (h : K (pc + 2) (u0 :: u1 :: u2 :: u3 :: u4 :: .val x :: r) st A k n) : K pc (u0 :: u1 :: u2 :: u3 :: u4 :: o :: r) (x :: st) A k n :=
  G.run1 (fun _ _ _ _ _ _ _ hx hby hA r => XS.astore hA hx rfl (hb hby hd) rfl hv hl r) h
theorem Gd.istore4 (G : Gd l Z a0 n0 b R cs ss own nm code ml ret Q K) {u0 u1 u2 u3 o : Slot} {r : List Slot} {x : Int32} (hd : decode code pc = .ok (.istore 4, 2)) (hl : storeLocals (u0 :: u1 :: u2 :: u3 :: o :: r).toArray 4 (.int x) = some (u0 :: u1 :: u2 :: u3 :: .val (.int x) :: r).toArray) (h : K (pc + 2) (u0 :: u1 :: u2 :: u3 :: .val (.int x) :: r) st A k n) : K pc (u0 :: u1 :: u2 :: u3 :: o :: r) (.int x :: st) A k n :=
  G.run1 (fun _ _ _ _ _ _ _ hx hby hA r => XS.istore hA hx rfl (hb hby hd) rfl hl r) h
theorem Gd.istore6 (G : Gd l Z a0 n0 b R cs ss own nm code ml ret Q K) {u0 u1 u2 u3 u4 u5 o : Slot} {r : List Slot} {x : Int32} (hd : decode code pc = .ok (.istore 6, 2)) (hl : storeLocals (u0 :: u1 :: u2 :: u3 :: u4 :: u5 :: o :: r).toArray 6 (.int x) = some (u0 :: u1 :: u2 :: u3 :: u4 :: u5 :: .val (.int x) :: r).toArray) (h : K (pc + 2) (u0 :: u1 :: u2 :: u3 :: u4 :: u5 :: .val (.int x) :: r) st A k n) : K pc (u0 :: u1 :: u2 :: u3 :: u4 :: u5 :: o :: r) (.int x :: st) A k n :=
  G.run1 (fun _ _ _ _ _ _ _ hx hby hA r => XS.istore hA hx rfl (hb hby hd) rfl hl r) h
theorem Gd.istore7 (G : Gd l Z a0 n0 b R cs ss own nm code ml ret Q K) {u0 u1 u2 u3 u4 u5 u6 o : Slot} {r : List Slot} {x : Int32} (hd : decode code pc = .ok (.istore 7, 2)) (hl : storeLocals (u0 :: u1 :: u2 :: u3 :: u4 :: u5 :: u6 :: o :: r).toArray 7 (.int x) = some (u0 :: u1 :: u2 :: u3 :: u4 :: u5 :: u6 :: .val (.int x) :: r).toArray) (h : K (pc + 2) (u0 :: u1 :: u2 :: u3 :: u4 :: u5 :: u6 :: .val (.int x) :: r) st A k n) : K pc (u0 :: u1 :: u2 :: u3 :: u4 :: u5 :: u6 :: o :: r) (.int x :: st) A k n :=
  G.run1 (fun _ _ _ _ _ _ _ hx hby hA r => XS.istore hA hx rfl (hb hby hd) rfl hl r) h
theorem Gd.istore8 (G : Gd l Z a0 n0 b R cs ss own nm code ml ret Q K) {u0 u1 u2 u3 u4 u5 u6 u7 o : Slot} {r : List Slot} {x : Int32} (hd : decode code pc = .ok (.istore 8, 2)) (hl : storeLocals (u0 :: u1 :: u2 :: u3 :: u4 :: u5 :: u6 :: u7 :: o :: r).toArray 8 (.int x) = some (u0 :: u1 :: u2 :: u3 :: u4 :: u5 :: u6 :: u7 :: .val (.int x) :: r).toArray) (h : K (pc + 2) (u0 :: u1 :: u2 :: u3 :: u4 :: u5 :: u6 :: u7 :: .val (.int x) :: r) st A k n) : K pc (u0 :: u1 :: u2 :: u3 :: u4 :: u5 :: u6 :: u7 :: o :: r) (.int x :: st) A k n :=
  G.run1 (fun _ _ _ _ _ _ _ hx hby hA r => XS.istore hA hx rfl (hb hby hd) rfl hl r) h
theorem Gd.istore9 (G : Gd l Z a0 n0 b R cs ss own nm code ml ret Q K) {u0 u1 u2 u3 u4 u5 u6 u7 u8 o : Slot} {r : List Slot} {x : Int32} (hd : decode code pc = .ok (.istore 9, 2)) (hl : storeLocals (u0 :: u1 :: u2 :: u3 :: u4 :: u5 :: u6 :: u7 :: u8 :: o :: r).toArray 9 (.int x) = some (u0 :: u1 :: u2 :: u3 :: u4 :: u5 :: u6 :: u7 :: u8 :: .val (.int x) :: r).toArray) (h : K (pc + 2) (u0 :: u1 :: u2 :: u3 :: u4 :: u5 :: u6 :: u7 :: u8 :: .val (.int x) :: r) st A k n) : K pc (u0 :: u1 :: u2 :: u3 :: u4 :: u5 :: u6 :: u7 :: u8 :: o :: r) (.int x :: st) A k n :=
  G.run1 (fun _ _ _ _ _ _ _ hx hby hA r => XS.istore hA hx rfl (hb hby hd) rfl hl r) h
theorem Gd.istore10 (G : Gd l Z a0 n0 b R cs ss own nm code ml ret Q K) {u0 u1 u2 u3 u4 u5 u6 u7 u8 u9 o : Slot} {r : List Slot} {x : Int32} (hd : decode code pc = .ok (.istore 10, 2)) (hl : storeLocals (u0 :: u1 :: u2 :: u3 :: u4 :: u5 :: u6 :: u7 :: u8 :: u9 :: o :: r).toArray 10 (.int x) = some (u0 :: u1 :: u2 :: u3 :: u4 :: u5 :: u6 :: u7 :: u8 :: u9 :: .val (.int x) :: r).toArray) (h : K (pc + 2) (u0 :: u1 :: u2 :: u3 :: u4 :: u5 :: u6 :: u7 :: u8 :: u9 :: .val (.int x) :: r) st A k n) : K pc (u0 :: u1 :: u2 :: u3 :: u4 :: u5 :: u6 :: u7 :: u8 :: u9 :: o :: r) (.int x :: st) A k n :=
  G.run1 (fun _ _ _ _ _ _ _ hx hby hA r => XS.istore hA hx rfl (hb hby hd) rfl hl r) h
theorem Gd.istore11 (G : Gd l Z a0 n0 b R cs ss own nm code ml ret Q K) {u0 u1 u2 u3 u4 u5 u6 u7 u8 u9 u10 o : Slot} {r : List Slot} {x : Int32} (hd : decode code pc = .ok (.istore 11, 2)) (hl : storeLocals (u0 :: u1 :: u2 :: u3 :: u4 :: u5 :: u6 :: u7 :: u8 :: u9 :: u10 :: o :: r).toArray 11 (.int x) = some (u0 :: u1 :: u2 :: u3 :: u4 :: u5 :: u6 :: u7 :: u8 :: u9 :: u10 :: .val (.int x) :: r).toArray) (h : K (pc + 2) (u0 :: u1 :: u2 :: u3 :: u4 :: u5 :: u6 :: u7 :: u8 :: u9 :: u10 :: .val (.int x) :: r) st A k n) : K pc (u0 :: u1 :: u2 :: u3 :: u4 :: u5 :: u6 :: u7 :: u8 :: u9 :: u10 :: o :: r) (.int x :: st) A k n :=
  G.run1 (fun _ _ _ _ _ _ _ hx hby hA r => XS.istore hA hx rfl (hb hby hd) rfl hl r) h
theorem Gd.istore12 (G : Gd l Z a0 n0 b R cs ss own nm code ml ret Q K) {u0 u1 u2 u3 u4 u5 u6 u7 u8 u9 u10 u11 o : Slot} {r : List Slot} {x : Int32} (hd : decode code pc = .ok (.istore 12, 2)) (hl : storeLocals (u0 :: u1 :: u2 :: u3 :: u4 :: u5 :: u6 :: u7 :: u8 :: u9 :: u10 :: u11 :: o :: r).toArray 12 (.int x) = some (u0 :: u1 :: u2 :: u3 :: u4 :: u5 :: u6 :: u7 :: u8 :: u9 :: u10 :: u11 :: .val (.int x) :: r).toArray) (h : K (pc + 2) (u0 :: u1 :: u2 :: u3 :: u4 :: u5 :: u6 :: u7 :: u8 :: u9 :: u10 :: u11 :: .val (.int x) :: r) st A k n) : K pc (u0 :: u1 :: u2 :: u3 :: u4 :: u5 :: u6 :: u7 :: u8 :: u9 :: u10 :: u11 :: o :: r) (.int x :: st) A k n :=
  G.run1 (fun _ _ _ _ _ _ _ hx hby hA r => XS.istore hA hx rfl (hb hby hd) rfl hl r) h
theorem Gd.istore13 (G : Gd l Z a0 n0 b R cs ss own nm code ml ret Q K) {u0 u1 u2 u3 u4 u5 u6 u7 u8 u9 u10 u11 u12 o : Slot} {r : List Slot} {x : Int32} (hd : decode code pc = .ok (.istore 13, 2)) (hl : storeLocals (u0 :: u1 :: u2 :: u3 :: u4 :: u5 :: u6 :: u7 :: u8 :: u9 :: u10 :: u11 :: u12 :: o :: r).toArray 13 (.int x) = some (u0 :: u1 :: u2 :: u3 :: u4 :: u5 :: u6 :: u7 :: u8 :: u9 :: u10 :: u11 :: u12 :: .val (.int x) :: r).toArray) (h : K (pc + 2) (u0 :: u1 :: u2 :: u3 :: u4 :: u5 :: u6 :: u7 :: u8 :: u9 :: u10 :: u11 :: u12 :: .val (.int x) :: r) st A k n) : K pc (u0 :: u1 :: u2 :: u3 :: u4 :: u5 :: u6 :: u7 :: u8 :: u9 :: u10 :: u11 :: u12 :: o :: r) (.int x :: st) A k n :=
  G.run1 (fun _ _ _ _ _ _ _ hx hby hA r => XS.istore hA hx rfl (hb hby hd) rfl hl r) h
theorem Gd.istore14 (G : Gd l Z a0 n0 b R cs ss own nm code ml ret Q K) {u0 u1 u2 u3 u4 u5 u6 u7 u8 u9 u10 u11 u12 u13 o : Slot} {r : List Slot} {x : Int32} (hd : decode code pc = .ok (.istore 14, 2)) (hl : storeLocals (u0 :: u1 :: u2 :: u3 :: u4 :: u5 :: u6 :: u7 :: u8 :: u9 :: u10 :: u11 :: u12 :: u13 :: o :: r).toArray 14 (.int x) = some (u0 :: u1 :: u2 :: u3 :: u4 :: u5 :: u6 :: u7 :: u8 :: u9 :: u10 :: u11 :: u12 :: u13 :: .val (.int x) :: r).toArray) (h : K (pc + 2) (u0 :: u1 :: u2 :: u3 :: u4 :: u5 :: u6 :: u7 :: u8 :: u9 :: u10 :: u11 :: u12 :: u13 :: .val (.int x) :: r) st A k n) : K pc (u0 :: u1 :: u2 :: u3 :: u4 :: u5 :: u6 :: u7 :: u8 :: u9 :: u10 :: u11 :: u12 :: u13 :: o :: r) (.int x :: st) A k n :=
  G.run1 (fun _ _ _ _ _ _ _ hx hby hA r => XS.istore hA hx rfl (hb hby hd) rfl hl r) h
theorem Gd.istoreN3 (G : Gd l Z a0 n0 b R cs ss own nm code ml ret Q K) {u0 u1 u2 o : Slot} {r : List Slot} {x : Int32} (hd : decode code pc = .ok (.istore_n ⟨3, by decide⟩, 1)) (hl : storeLocals (u0 :: u1 :: u2 :: o :: r).toArray 3 (.int x) = some (u0 :: u1 :: u2 :: .val (.int x) :: r).toArray) (h : K (pc + 1) (u0 :: u1 :: u2 :: .val (.int x) :: r) st A k n) : K pc (u0 :: u1 :: u2 :: o :: r) (.int x :: st) A k n :=
  G.run1 (fun _ _ _ _ _ _ _ hx hby hA r => XS.istoreN hA hx rfl (hb hby hd) rfl hl r) h
theorem Gd.goto (G : Gd l Z a0 n0 b R cs ss own nm code ml ret Q K) {o : Int} (pc' : Nat) (hd : decode code pc = .ok (.goto o, 3)) (ho : 0 ≤ (pc : Int) + o) (hp : ((pc : Int) + o).toNat = pc') (h : K pc' Ls st A k n) : K pc Ls st A k n :=
  G.run1 (fun _ _ _ _ _ _ _ hx hby hA r => XS.goto hA hx rfl rfl (hb hby hd) ho hp r) h
theorem Gd.icmp (G : Gd l Z a0 n0 b R cs ss own nm code ml ret Q K) {cd : ClassFile.Cond} {o : Int} {x y : Int32} (pc' : Nat) (hd : decode code pc = .ok (.if_icmp cd o, 3)) (ho : 0 ≤ (pc : Int) + o) (hp : ((pc : Int) + o).toNat = pc') (h1 : if_icmp.holds cd x y = true → K pc' Ls st A k n) (h2 : if_icmp.holds cd x y = false → K (pc + 3) Ls st A k n) : K pc Ls (.int y :: .int x :: st) A k n := by
  cases q : if_icmp.holds cd x y with
  | true => exact G.run1 (fun _ _ _ _ _ _ _ hx hby hA r => XS.icmpYes hA hx rfl rfl (hb hby hd) rfl q ho hp r) (h1 q)
  | false => exact G.run1 (fun _ _ _ _ _ _ _ hx hby hA r => XS.icmpNo hA hx rfl (hb hby hd) rfl q r) (h2 q)
theorem Gd.ifc (G : Gd l Z a0 n0 b R cs ss own nm code ml ret Q K) {cd : ClassFile.Cond} {o : Int} {x : Int32} (pc' : Nat) (hd : decode code pc = .ok (.ifCond cd o, 3)) (ho : 0 ≤ (pc : Int) + o) (hp : ((pc : Int) + o).toNat = pc') (h1 : if_icmp.holds cd x 0 = true → K pc' Ls st A k n) (h2 : if_icmp.holds cd x 0 = false → K (pc + 3) Ls st A k n) : K pc Ls (.int x :: st) A k n := by
  cases q : if_icmp.holds cd x 0 with
  | true => exact G.run1 (fun _ _ _ _ _ _ _ hx hby hA r => XS.ifYes hA hx rfl rfl (hb hby hd) rfl ((if0 _ _).trans q) ho hp r) (h1 q)
  | false => exact G.run1 (fun _ _ _ _ _ _ _ hx hby hA r => XS.ifNo hA hx rfl (hb hby hd) rfl ((if0 _ _).trans q) r) (h2 q)
theorem hI_eq {x y : Int32} : (if_icmp.holds .eq x y = true → x = y) ∧ (if_icmp.holds .eq x y = false → ¬ x = y) := by simp [if_icmp.holds, Int32.not_lt, Int32.not_le]
theorem Gd.icmp_eq (G : Gd l Z a0 n0 b R cs ss own nm code ml ret Q K) {o : Int} {x y : Int32} (pc' : Nat) (hd : decode code pc = .ok (.if_icmp .eq o, 3)) (ho : 0 ≤ (pc : Int) + o) (hp : ((pc : Int) + o).toNat = pc') (h1 : x = y → K pc' Ls st A k n) (h2 : ¬ x = y → K (pc + 3) Ls st A k n) : K pc Ls (.int y :: .int x :: st) A k n :=
  G.icmp pc' hd ho hp (fun q => h1 (hI_eq.1 q)) (fun q => h2 (hI_eq.2 q))
theorem Gd.if_eq (G : Gd l Z a0 n0 b R cs ss own nm code ml ret Q K) {o : Int} {x : Int32} (pc' : Nat) (hd : decode code pc = .ok (.ifCond .eq o, 3)) (ho : 0 ≤ (pc : Int) + o) (hp : ((pc : Int) + o).toNat = pc') (h1 : x = 0 → K pc' Ls st A k n) (h2 : ¬ x = 0 → K (pc + 3) Ls st A k n) : K pc Ls (.int x :: st) A k n :=
  G.ifc pc' hd ho hp (fun q => h1 (hI_eq.1 q)) (fun q => h2 (hI_eq.2 q))
theorem hI_ne {x y : Int32} : (if_icmp.holds .ne x y = true → ¬ x = y) ∧ (if_icmp.holds .ne x y = false → x = y) := by simp [if_icmp.holds, Int32.not_lt, Int32.not_le]
theorem Gd.icmp_ne (G : Gd l Z a0 n0 b R cs ss own nm code ml ret Q K) {o : Int} {x y : Int32} (pc' : Nat) (hd : decode code pc = .ok (.if_icmp .ne o, 3)) (ho : 0 ≤ (pc : Int) + o) (hp : ((pc : Int) + o).toNat = pc') (h1 : ¬ x = y → K pc' Ls st A k n) (h2 : x = y → K (pc + 3) Ls st A k n) : K pc Ls (.int y :: .int x :: st) A k n :=
  G.icmp pc' hd ho hp (fun q => h1 (hI_ne.1 q)) (fun q => h2 (hI_ne.2 q))
theorem Gd.if_ne (G : Gd l Z a0 n0 b R cs ss own nm code ml ret Q K) {o : Int} {x : Int32} (pc' : Nat) (hd : decode code pc = .ok (.ifCond .ne o, 3)) (ho : 0 ≤ (pc : Int) + o) (hp : ((pc : Int) + o).toNat = pc') (h1 : ¬ x = 0 → K pc' Ls st A k n) (h2 : x = 0 → K (pc + 3) Ls st A k n) : K pc Ls (.int x :: st) A k n :=
  G.ifc pc' hd ho hp (fun q => h1 (hI_ne.1 q)) (fun q => h2 (hI_ne.2 q))
theorem hI_lt {x y : Int32} : (if_icmp.holds .lt x y = true → x < y) ∧ (if_icmp.holds .lt x y = false → ¬ x < y) := by simp [if_icmp.holds, Int32.not_lt, Int32.not_le]
theorem Gd.icmp_lt (G : Gd l Z a0 n0 b R cs ss own nm code ml ret Q K) {o : Int} {x y : Int32} (pc' : Nat) (hd : decode code pc = .ok (.if_icmp .lt o, 3)) (ho : 0 ≤ (pc : Int) + o) (hp : ((pc : Int) + o).toNat = pc') (h1 : x < y → K pc' Ls st A k n) (h2 : ¬ x < y → K (pc + 3) Ls st A k n) : K pc Ls (.int y :: .int x :: st) A k n :=
  G.icmp pc' hd ho hp (fun q => h1 (hI_lt.1 q)) (fun q => h2 (hI_lt.2 q))
theorem Gd.if_lt (G : Gd l Z a0 n0 b R cs ss own nm code ml ret Q K) {o : Int} {x : Int32} (pc' : Nat) (hd : decode code pc = .ok (.ifCond .lt o, 3)) (ho : 0 ≤ (pc : Int) + o) (hp : ((pc : Int) + o).toNat = pc') (h1 : x < 0 → K pc' Ls st A k n) (h2 : ¬ x < 0 → K (pc + 3) Ls st A k n) : K pc Ls (.int x :: st) A k n :=
  G.ifc pc' hd ho hp (fun q => h1 (hI_lt.1 q)) (fun q => h2 (hI_lt.2 q))
theorem hI_ge {x y : Int32} : (if_icmp.holds .ge x y = true → ¬ x < y) ∧ (if_icmp.holds .ge x y = false → x < y) := by simp [if_icmp.holds, Int32.not_lt, Int32.not_le]
theorem Gd.icmp_ge (G : Gd l Z a0 n0 b R cs ss own nm code ml ret Q K) {o : Int} {x y : Int32} (pc' : Nat) (hd : decode code pc = .ok (.if_icmp .ge o, 3)) (ho : 0 ≤ (pc : Int) + o) (hp : ((pc : Int) + o).toNat = pc') (h1 : ¬ x < y → K pc' Ls st A k n) (h2 : x < y → K (pc + 3) Ls st A k n) : K pc Ls (.int y :: .int x :: st) A k n :=
  G.icmp pc' hd ho hp (fun q => h1 (hI_ge.1 q)) (fun q => h2 (hI_ge.2 q))
theorem Gd.if_ge (G : Gd l Z a0 n0 b R cs ss own nm code ml ret Q K) {o : Int} {x : Int32} (pc' : Nat) (hd : decode code pc = .ok (.ifCond .ge o, 3)) (ho : 0 ≤ (pc : Int) + o) (hp : ((pc : Int) + o).toNat = pc') (h1 : ¬ x < 0 → K pc' Ls st A k n) (h2 : x < 0 → K (pc + 3) Ls st A k n) : K pc Ls (.int x :: st) A k n :=
  G.ifc pc' hd ho hp (fun q => h1 (hI_ge.1 q)) (fun q => h2 (hI_ge.2 q))
theorem hI_gt {x y : Int32} : (if_icmp.holds .gt x y = true → y < x) ∧ (if_icmp.holds .gt x y = false → ¬ y < x) := by simp [if_icmp.holds, Int32.not_lt, Int32.not_le]
theorem Gd.icmp_gt (G : Gd l Z a0 n0 b R cs ss own nm code ml ret Q K) {o : Int} {x y : Int32} (pc' : Nat) (hd : decode code pc = .ok (.if_icmp .gt o, 3)) (ho : 0 ≤ (pc : Int) + o) (hp : ((pc : Int) + o).toNat = pc') (h1 : y < x → K pc' Ls st A k n) (h2 : ¬ y < x → K (pc + 3) Ls st A k n) : K pc Ls (.int y :: .int x :: st) A k n :=
  G.icmp pc' hd ho hp (fun q => h1 (hI_gt.1 q)) (fun q => h2 (hI_gt.2 q))
theorem Gd.if_gt (G : Gd l Z a0 n0 b R cs ss own nm code ml ret Q K) {o : Int} {x : Int32} (pc' : Nat) (hd : decode code pc = .ok (.ifCond .gt o, 3)) (ho : 0 ≤ (pc : Int) + o) (hp : ((pc : Int) + o).toNat = pc') (h1 : 0 < x → K pc' Ls st A k n) (h2 : ¬ 0 < x → K (pc + 3) Ls st A k n) : K pc Ls (.int x :: st) A k n :=
  G.ifc pc' hd ho hp (fun q => h1 (hI_gt.1 q)) (fun q => h2 (hI_gt.2 q))
theorem hI_le {x y : Int32} : (if_icmp.holds .le x y = true → ¬ y < x) ∧ (if_icmp.holds .le x y = false → y < x) := by simp [if_icmp.holds, Int32.not_lt, Int32.not_le]
theorem Gd.icmp_le (G : Gd l Z a0 n0 b R cs ss own nm code ml ret Q K) {o : Int} {x y : Int32} (pc' : Nat) (hd : decode code pc = .ok (.if_icmp .le o, 3)) (ho : 0 ≤ (pc : Int) + o) (hp : ((pc : Int) + o).toNat = pc') (h1 : ¬ y < x → K pc' Ls st A k n) (h2 : y < x → K (pc + 3) Ls st A k n) : K pc Ls (.int y :: .int x :: st) A k n :=
  G.icmp pc' hd ho hp (fun q => h1 (hI_le.1 q)) (fun q => h2 (hI_le.2 q))
theorem Gd.if_le (G : Gd l Z a0 n0 b R cs ss own nm code ml ret Q K) {o : Int} {x : Int32} (pc' : Nat) (hd : decode code pc = .ok (.ifCond .le o, 3)) (ho : 0 ≤ (pc : Int) + o) (hp : ((pc : Int) + o).toNat = pc') (h1 : ¬ 0 < x → K pc' Ls st A k n) (h2 : 0 < x → K (pc + 3) Ls st A k n) : K pc Ls (.int x :: st) A k n :=
  G.ifc pc' hd ho hp (fun q => h1 (hI_le.1 q)) (fun q => h2 (hI_le.2 q))
theorem Gd.ifnonnullR (G : Gd l Z a0 n0 b R cs ss own nm code ml ret Q K) {o : Int} {b : Addr} (pc' : Nat) (hd : decode code pc = .ok (.ifnonnull o, 3)) (ho : 0 ≤ (pc : Int) + o) (hp : ((pc : Int) + o).toNat = pc') (h : K pc' Ls st A k n) : K pc Ls (.ref b :: st) A k n :=
  G.run1 (fun _ _ _ _ _ _ _ hx hby hA r => XS.ifnonnullYes hA hx rfl rfl (hb hby hd) rfl ho hp r) h
theorem idxOk {c : Cell} {vs : List Value} {j : Int32} {jn : Nat} (e : c.slots = vs.toArray) (hj : j.toInt = (jn : Int)) (hl : jn < vs.length) : ¬ (j < 0 ∨ c.slots.size ≤ j.toNatClampNeg) ∧ j.toNatClampNeg = jn := by
  have h1 : j.toNatClampNeg = jn := by
    show j.toInt.toNat = jn
    rw [hj]; rfl
  refine ⟨?_, h1⟩
  rintro (q | q)
  · rw [Int32.lt_iff_toInt_lt] at q
    have : (0 : Int32).toInt = 0 := by decide
    omega
  · rw [h1, e] at q
    simp at q
    omega
theorem Gd.getf (G : Gd l Z a0 n0 b R cs ss own nm code ml ret Q K) {idx i j : Nat} {C fn d host : String} {fs : List (String × String × Value)} {v : Value} (hd : decode code pc = .ok (.getfield idx, 3)) (w : (Jvm.Cond.fieldLink own idx C fn d).before a0 Z = true ∨ (Jvm.Cond.fieldLinkNest own idx C fn d host).before a0 Z = true) (hA : A[i]? = some (.inl (C, fs))) (hf : fs[j]? = some (fn, d, v)) (h : K (pc + 3) Ls (v :: st) A k n) : K pc Ls (.ref (ad n0 i) :: st) A k n := by
  obtain ⟨p, e, s, m, args, below, meth, c, hx, hby, -, hown, -, hZ, -, -, -, rfl⟩ := G
  intro T locs X N hAl RP
  obtain ⟨T', X', e', stp⟩ := getF X hx hZ hown w Via.refl rfl ((RP.2 i _ hA).2.2 j _ _ _ hf).1 (g := mkF m pc Ls.toArray (.ref (ad n0 i) :: st)) rfl rfl (hb hby hd)
  obtain ⟨s₂, o, hs, r⟩ := h T' locs X' N hAl (by rw [e']; exact RP)
  exact ⟨s₂, o, stp _ hs, r⟩
theorem Gd.putf (G : Gd l Z a0 n0 b R cs ss own nm code ml ret Q K) {idx i j kk : Nat} {C fn d host : String} {fs : List (String × String × Value)} {v old : Value} {ty : FieldType} (hd : decode code pc = .ok (.putfield idx, 3)) (w : (Jvm.Cond.fieldLink own idx C fn d).before a0 Z = true ∨ (Jvm.Cond.fieldLinkNest own idx C fn d host).before a0 Z = true) (L : (Jvm.Cond.lays C C fn d).before a0 Z = true ∨ ((Jvm.Cond.laysFinal C C fn d).before a0 Z = true ∧ own = C ∧ nm = "<init>")) (wi : (Jvm.Cond.instantiable C kk).before a0 Z = true)
    (hty : parseFieldDescriptor d = some ty) (hn : narrow ty v = v) (hv : fits ty v = true) (hA : A[i]? = some (.inl (C, fs))) (hf : fs[j]? = some (fn, d, old)) (h : K (pc + 3) Ls st (A.set i (.inl (C, fs.set j (fn, d, v)))) k n) : K pc Ls (v :: .ref (ad n0 i) :: st) A k n := by
  obtain ⟨p, e, s, m, args, below, meth, c, hx, hby, -, hown, hnm, hZ, -, -, -, rfl⟩ := G
  intro T locs X N hAl RP
  have F := ((RP.2 i _ hA).2.2 j _ _ _ hf).1
  obtain ⟨T', h', X', e', W, stp⟩ := putF X hx hZ hown w Via.refl rfl F (RP.2 i _ hA).1 (by rcases L with L | ⟨L1, L2, L3⟩; exact Or.inl L; exact Or.inr ⟨L1, L2, hnm.trans L3⟩) wi hty hn hv (g := mkF m pc Ls.toArray (v :: .ref (ad n0 i) :: st)) rfl rfl (hb hby hd)
  obtain ⟨s₂, o, hs, r⟩ := h T' _ X' (Fr.snoc X' N (ad_le _ _)) (by rw [List.length_set]; exact hAl) (by rw [e']; exact RP.wr W ((RP.2 i _ hA).put hf W))
  exact ⟨s₂, o, stp _ hs, r⟩
/-- a field whose pool entry is resolved already -/
theorem Gd.getfR (G : Gd l Z a0 n0 b R cs ss own nm code ml ret Q K) {idx i j : Nat} {C fn d : String} {fs : List (String × String × Value)} {v : Value} (hd : decode code pc = .ok (.getfield idx, 3)) (w : (Jvm.Cond.fieldRef own idx C fn d).before a0 Z = true) (hA : A[i]? = some (.inl (C, fs))) (hf : fs[j]? = some (fn, d, v)) (h : K (pc + 3) Ls (v :: st) A k n) : K pc Ls (.ref (ad n0 i) :: st) A k n := by
  obtain ⟨p, e, s, m, args, below, meth, c, hx, hby, -, hown, -, hZ, -, -, -, rfl⟩ := G
  intro T locs X N hAl RP
  obtain ⟨cell, cf, kf, fi, f, h1, h2, h3, h4, h5, h6, h7⟩ := ((RP.2 i _ hA).2.2 j _ _ _ hf).1
  have hZT : Z.Warmed39 T.vm := wtrans hZ X.warmed
  have hown' : (Z.setVm T.vm).vm.findClass own = some m.cls := by show T.vm.findClass own = _; rw [X.warmed.alike.findClass]; exact hown
  obtain ⟨c3, k3, i3, f3, hi3, hr⟩ := Cond.fieldRef_spec (s := Z.setVm T.vm) hown' (Cond.fieldRef_warmed39 hZT w)
  obtain ⟨k', hi', -⟩ := State.fieldFound?_setVm (s := Z) hZT.alike h2
  cases hi3.symm.trans hi'
  have hr' : T.vm.fieldReady m.cls idx cf f := hr
  obtain ⟨s₂, o, hs, r⟩ := h T locs X N hAl RP
  refine ⟨s₂, o, ?_, r⟩
  show Steps p.tables e below (T.setTop { method := m, pc := pc, locals := Ls.toArray, stack := .ref (ad n0 i) :: st, locked := none }) _
  jvm_step X.here [hx, hb hby hd, getfield.wp_ready (e := e) (s := T) (f := { method := m, pc := pc, locals := Ls.toArray, stack := .ref (ad n0 i) :: st, locked := none }) X.here.top hr' h3 rfl h1 h4 h7]
  exact hs
theorem Gd.putfR (G : Gd l Z a0 n0 b R cs ss own nm code ml ret Q K) {idx i j kk : Nat} {C fn d : String} {fs : List (String × String × Value)} {v old : Value} {ty : FieldType} (hd : decode code pc = .ok (.putfield idx, 3)) (w : (Jvm.Cond.fieldRef own idx C fn d).before a0 Z = true) (L : (Jvm.Cond.lays C C fn d).before a0 Z = true) (wi : (Jvm.Cond.instantiable C kk).before a0 Z = true)
    (hty : parseFieldDescriptor d = some ty) (hn : narrow ty v = v) (hv : fits ty v = true) (hA : A[i]? = some (.inl (C, fs))) (hf : fs[j]? = some (fn, d, old)) (h : K (pc + 3) Ls st (A.set i (.inl (C, fs.set j (fn, d, v)))) k n) : K pc Ls (v :: .ref (ad n0 i) :: st) A k n := by
  obtain ⟨p, e, s, m, args, below, meth, c, hx, hby, -, hown, -, hZ, -, -, -, rfl⟩ := G
  intro T locs X N hAl RP
  obtain ⟨cell, cf, kf, fi, f, h1, h2, h3, h4, h5, h6, h7⟩ := ((RP.2 i _ hA).2.2 j _ _ _ hf).1
  obtain ⟨cell', kc, e1, e2, e3, -⟩ := (RP.2 i _ hA).1
  cases h1.symm.trans e1
  obtain ⟨c1, k1, cf1, kf1, i1, f1, a1, a2, a3, -, a5, -, a7, -⟩ := Cond.lays_spec L
  cases h2.symm.trans a3
  cases e2.symm.trans a1
  obtain ⟨c2, k2, i1', i2, i3, -⟩ := Cond.instantiable_spec wi
  cases e2.symm.trans i1'
  cases a2.symm.trans i2
  have ht := (State.fieldFound?_type h2 hty).2
  have hlt := (Array.getElem?_eq_some_iff.mp h7).1
  have hfitZ : Z.fitsSlot cell.cls cell.vm f.slot v = true := by
    have q : Z.slotType? cell.cls cell.vm f.slot = some ty := by
      simp only [State.slotType?, a2, Option.bind_eq_bind, Option.bind_some, i3]
      cases hq : cell.vm <;> first | (rw [hq] at h5; exact Bool.noConfusion h5) | (rw [a7, ht])
    simp [State.fitsSlot, q, hv]
  have hZT : Z.Warmed39 T.vm := wtrans hZ X.warmed
  have hfitT : T.fitsSlot cell.cls cell.vm f.slot v = true := by rw [← State.fitsSlot_setVm hZT.alike] at hfitZ; exact hfitZ
  have hown' : (Z.setVm T.vm).vm.findClass own = some m.cls := by show T.vm.findClass own = _; rw [X.warmed.alike.findClass]; exact hown
  obtain ⟨c3, k3, i3', f3, hi3, hr⟩ := Cond.fieldRef_spec (s := Z.setVm T.vm) hown' (Cond.fieldRef_warmed39 hZT w)
  obtain ⟨k', hi', -⟩ := State.fieldFound?_setVm (s := Z) hZT.alike h2
  cases hi3.symm.trans hi'
  have hr' : T.vm.fieldReady m.cls idx cf f := hr
  have X' := X.stored h1 f.slot v
  have es : Jvm.RoadKit.slotOf Z C fn d = f.slot := by simp [Jvm.RoadKit.slotOf, h2]
  have W : Wr T.heap (T.setCell (ad n0 i) (cell.setSlot f.slot v)).heap (ad n0 i) (Jvm.RoadKit.slotOf Z C fn d) v := by rw [es]; exact ⟨cell, h1, h5, hlt, rfl⟩
  obtain ⟨s₂, o, hs, r⟩ := h _ _ X' (Fr.snoc X' N (ad_le _ _)) (by rw [List.length_set]; exact hAl) (RP.wr W ((RP.2 i _ hA).put hf W))
  refine ⟨s₂, o, ?_, r⟩
  have hnar : narrow f.type v = v := by rw [ht]; exact hn
  show Steps p.tables e below (T.setTop { method := m, pc := pc, locals := Ls.toArray, stack := v :: .ref (ad n0 i) :: st, locked := none }) _
  jvm_step X.here [hx, hb hby hd, putfield.wp_ready (e := e) (s := T) (f := { method := m, pc := pc, locals := Ls.toArray, stack := v :: .ref (ad n0 i) :: st, locked := none }) X.here.top hr' h3 a5 rfl h1 h4, hnar]
  exact ⟨hlt, hfitT, hs⟩
theorem Gd.newo (G : Gd l Z a0 n0 b R cs ss own nm code ml ret Q K) {idx sl : Nat} {C : String} {fs : List (String × String × Value)} (hd : decode code pc = .ok (.new idx, 3)) (w : (Jvm.Cond.classLink own idx C).before a0 Z = true) (wi : (Jvm.Cond.instantiable C sl).before a0 Z = true) (wz : (Jvm.Cond.initialized C).before a0 Z = true) (hf : FOk Z a0 C fs) (hc : k + 1 ≤ R.cells) (hl : n + sl ≤ R.slots) (h : K (pc + 3) Ls (.ref (ad n0 A.length) :: st) (A ++ [.inl (C, fs)]) (k + 1) (n + sl)) : K pc Ls st A k n := by
  obtain ⟨p, e, s, m, args, below, meth, c, hx, hby, -, hown, hnm, hZ, -, -, hb0, rfl⟩ := G
  intro T locs X N hAl RP
  obtain ⟨T', h', X', e', E, Ex, D, -, stp⟩ := newO X hx hZ hown w wi wz rfl (g := mkF m pc Ls.toArray st) rfl (hb hby hd) hc hl
  have hsz : h'.size = T.heap.size + 1 := by
    have q1 := X'.heapSize
    have q2 : T.heap.size < h'.size := Ex.lt
    rw [e'] at q1
    have q3 := RP.1
    omega
  have R' : Rep Z a0 n0 h' (A ++ [.inl (C, fs)]) := RP.push E hsz ⟨Ex, hf.1, fun j fn d v hj => by
    obtain ⟨L, t, ht, hv⟩ := hf.2 _ (List.mem_of_getElem? hj)
    exact ⟨by have := D L ht; rw [hv] at this; exact this, L, t, ht⟩⟩
  have ea : ad n0 A.length = T.heap.size := RP.1.symm
  obtain ⟨s₂, o, hs, r⟩ := h T' locs X' N (by simp; omega) (by rw [e']; exact R')
  rw [ea] at hs
  exact ⟨s₂, o, stp _ hs, r⟩
theorem Gd.newarr (G : Gd l Z a0 n0 b R cs ss own nm code ml ret Q K) {aty : ArrayType} {z : Int32} (zn cap : Nat) (hd : decode code pc = .ok (.newarray aty, 2)) (w : (Jvm.Cond.arrayClass (newarray.typeOf aty)).before a0 Z = true) (hz : z.toInt = (zn : Int)) (hcap : zn ≤ cap) (hb0 : cap * 8 ≤ 536870912) (hc : k + 1 ≤ R.cells) (hl : n + cap ≤ R.slots) (hfit : fits (newarray.typeOf aty) (defaultValue (newarray.typeOf aty)) = true) (h : K (pc + 2) Ls (.ref (ad n0 A.length) :: st) (A ++ [.inr (newarray.typeOf aty, List.replicate zn (defaultValue (newarray.typeOf aty)))]) (k + 1) (n + cap)) : K pc Ls (.int z :: st) A k n := by
  obtain ⟨p, e, s, m, args, below, meth, c, hx, hby, -, hown, hnm, hZ, -, -, hsb, rfl⟩ := G
  intro T locs X N hAl RP
  have hz0 : ¬ z < 0 := by
    rw [Int32.lt_iff_toInt_lt]
    have : (0 : Int32).toInt = 0 := by decide
    omega
  have hzn : z.toNatClampNeg = zn := by show z.toInt.toNat = zn; rw [hz]; rfl
  obtain ⟨T', h', cA, X', e', E, Ar, Ex, stp⟩ := newPE X hx hZ w rfl (g := mkF m pc Ls.toArray (.int z :: st)) rfl (hb hby hd) rfl hz0 (cap := cap) (by rw [hzn]; exact hcap) hb0 hc hl (ad := "[" ++ (newarray.typeOf aty).toString) rfl
  have hsz : h'.size = T.heap.size + 1 := by
    have q1 := X'.heapSize
    have q2 : T.heap.size < h'.size := Ex.lt
    rw [e'] at q1
    have q3 := RP.1
    omega
  have R' : Rep Z a0 n0 h' (A ++ [.inr (newarray.typeOf aty, List.replicate zn (defaultValue (newarray.typeOf aty)))]) := RP.push E hsz ⟨Ex, _, Ar, by simp [newA, hzn], by simp; have := z.toInt_lt; omega, fun v hv => by rw [List.eq_of_mem_replicate hv]; exact hfit⟩
  have ea : ad n0 A.length = T.heap.size := RP.1.symm
  obtain ⟨s₂, o, hs, r⟩ := h T' locs X' N (by simp; omega) (by rw [e']; exact R')
  rw [ea] at hs
  exact ⟨s₂, o, stp _ hs, r⟩
theorem Gd.alen (G : Gd l Z a0 n0 b R cs ss own nm code ml ret Q K) {i : Nat} {ty : FieldType} {vs : List Value} (z : Int32) (hd : decode code pc = .ok (.arraylength, 1)) (hA : A[i]? = some (.inr (ty, vs))) (hz : vs.length.toInt32 = z) (h : K (pc + 1) Ls (.int z :: st) A k n) : K pc Ls (.ref (ad n0 i) :: st) A k n := by
  obtain ⟨p, e, s, m, args, below, meth, c, hx, hby, -, hown, -, hZ, -, -, -, rfl⟩ := G
  intro T locs X N hAl RP
  obtain ⟨-, cl, Ar, es, -, -⟩ := RP.2 i _ hA
  obtain ⟨s₂, o, hs, r⟩ := h T locs X N hAl RP
  refine ⟨s₂, o, X.arraylength hx Ar.1 (State.isArrayOf_alike hZ.alike Ar.2.1) (g := mkF m pc Ls.toArray (.ref (ad n0 i) :: st)) rfl rfl (hb hby hd) _ ?_, r⟩
  have q : cl.slots.size.toInt32 = z := by rw [es]; exact hz
  rw [q]; exact hs
theorem Gd.iald (G : Gd l Z a0 n0 b R cs ss own nm code ml ret Q K) {i : Nat} {vs : List Value} {j : Int32} {x : Int32} (jn : Nat) (hd : decode code pc = .ok (.iaload, 1)) (hA : A[i]? = some (.inr (.int, vs))) (hj : j.toInt = (jn : Int)) (hv : vs[jn]? = some (.int x)) (h : K (pc + 1) Ls (.int x :: st) A k n) : K pc Ls (.int j :: .ref (ad n0 i) :: st) A k n := by
  obtain ⟨p, e, s, m, args, below, meth, c, hx, hby, -, hown, -, hZ, -, -, -, rfl⟩ := G
  intro T locs X N hAl RP
  obtain ⟨-, cl, Ar, es, -, -⟩ := RP.2 i _ hA
  obtain ⟨q1, q2⟩ := idxOk es hj (List.getElem?_eq_some_iff.mp hv).1
  obtain ⟨s₂, o, hs, r⟩ := h T locs X N hAl RP
  exact ⟨s₂, o, X.iaload hx (j := j) (v := .int x) Ar.1 (State.isArrayOf_alike hZ.alike Ar.2.1) Ar.2.2 q1 (by rw [q2, es]; simpa using hv) (g := mkF m pc Ls.toArray (.int j :: .ref (ad n0 i) :: st)) rfl rfl (hb hby hd) _ hs, r⟩
theorem Gd.lald (G : Gd l Z a0 n0 b R cs ss own nm code ml ret Q K) {i : Nat} {vs : List Value} {j : Int32} {x : Int64} (jn : Nat) (hd : decode code pc = .ok (.laload, 1)) (hA : A[i]? = some (.inr (.long, vs))) (hj : j.toInt = (jn : Int)) (hv : vs[jn]? = some (.long x)) (h : K (pc + 1) Ls (.long x :: st) A k n) : K pc Ls (.int j :: .ref (ad n0 i) :: st) A k n := by
  obtain ⟨p, e, s, m, args, below, meth, c, hx, hby, -, hown, -, hZ, -, -, -, rfl⟩ := G
  intro T locs X N hAl RP
  obtain ⟨-, cl, Ar, es, -, -⟩ := RP.2 i _ hA
  obtain ⟨q1, q2⟩ := idxOk es hj (List.getElem?_eq_some_iff.mp hv).1
  obtain ⟨s₂, o, hs, r⟩ := h T locs X N hAl RP
  exact ⟨s₂, o, X.laload hx (j := j) (v := .long x) Ar.1 (State.isArrayOf_alike hZ.alike Ar.2.1) Ar.2.2 q1 (by rw [q2, es]; simpa using hv) (g := mkF m pc Ls.toArray (.int j :: .ref (ad n0 i) :: st)) rfl rfl (hb hby hd) _ hs, r⟩
theorem Gd.bald (G : Gd l Z a0 n0 b R cs ss own nm code ml ret Q K) {i : Nat} {vs : List Value} {j : Int32} {x : Int32} (jn : Nat) (hd : decode code pc = .ok (.baload, 1)) (hA : A[i]? = some (.inr (.byte, vs))) (hj : j.toInt = (jn : Int)) (hv : vs[jn]? = some (.int x)) (h : K (pc + 1) Ls (.int x :: st) A k n) : K pc Ls (.int j :: .ref (ad n0 i) :: st) A k n := by
  obtain ⟨p, e, s, m, args, below, meth, c, hx, hby, -, hown, -, hZ, -, -, -, rfl⟩ := G
  intro T locs X N hAl RP
  obtain ⟨-, cl, Ar, es, -, -⟩ := RP.2 i _ hA
  obtain ⟨q1, q2⟩ := idxOk es hj (List.getElem?_eq_some_iff.mp hv).1
  obtain ⟨s₂, o, hs, r⟩ := h T locs X N hAl RP
  exact ⟨s₂, o, X.baloadBytes hx (j := j) (v := .int x) Ar.1 (State.isArrayOf_alike hZ.alike Ar.2.1) Ar.2.2 q1 (by rw [q2, es]; simpa using hv) (g := mkF m pc Ls.toArray (.int j :: .ref (ad n0 i) :: st)) rfl rfl (hb hby hd) _ hs, r⟩
theorem Gd.zald (G : Gd l Z a0 n0 b R cs ss own nm code ml ret Q K) {i : Nat} {vs : List Value} {j : Int32} {x : Int32} (jn : Nat) (hd : decode code pc = .ok (.baload, 1)) (hA : A[i]? = some (.inr (.boolean, vs))) (hj : j.toInt = (jn : Int)) (hv : vs[jn]? = some (.int x)) (h : K (pc + 1) Ls (.int x :: st) A k n) : K pc Ls (.int j :: .ref (ad n0 i) :: st) A k n := by
  obtain ⟨p, e, s, m, args, below, meth, c, hx, hby, -, hown, -, hZ, -, -, -, rfl⟩ := G
  intro T locs X N hAl RP
  obtain ⟨-, cl, Ar, es, -, -⟩ := RP.2 i _ hA
  obtain ⟨q1, q2⟩ := idxOk es hj (List.getElem?_eq_some_iff.mp hv).1
  obtain ⟨s₂, o, hs, r⟩ := h T locs X N hAl RP
  exact ⟨s₂, o, X.baloadBooleans hx (j := j) (v := .int x) Ar.1 (State.isArrayOf_alike hZ.alike Ar.2.1) Ar.2.2 q1 (by rw [q2, es]; simpa using hv) (g := mkF m pc Ls.toArray (.int j :: .ref (ad n0 i) :: st)) rfl rfl (hb hby hd) _ hs, r⟩
theorem Gd.iast (G : Gd l Z a0 n0 b R cs ss own nm code ml ret Q K) {i : Nat} {vs : List Value} {j : Int32} {x : Int32} (jn : Nat) (hd : decode code pc = .ok (.iastore, 1)) (hA : A[i]? = some (.inr (.int, vs))) (hj : j.toInt = (jn : Int)) (hl : jn < vs.length) (h : K (pc + 1) Ls st (A.set i (.inr (.int, vs.set jn (.int x)))) k n) : K pc Ls (.int x :: .int j :: .ref (ad n0 i) :: st) A k n := by
  obtain ⟨p, e, s, m, args, below, meth, c, hx, hby, -, hown, -, hZ, -, -, -, rfl⟩ := G
  intro T locs X N hAl RP
  obtain ⟨-, cl, Ar, es, -, -⟩ := RP.2 i _ hA
  obtain ⟨q1, q2⟩ := idxOk es hj hl
  obtain ⟨T', h', X', e', W, stp⟩ := stI X hx hZ rfl Ar q1 (g := mkF m pc Ls.toArray (.int x :: .int j :: .ref (ad n0 i) :: st)) rfl rfl (hb hby hd)
  have W' : Wr T.heap h' (ad n0 i) jn (.int x) := by rw [← q2]; exact W
  obtain ⟨s₂, o, hs, r⟩ := h T' _ X' (Fr.snoc X' N (ad_le _ _)) (by rw [List.length_set]; exact hAl) (by rw [e']; exact RP.wr W' ((RP.2 i _ hA).store rfl W'))
  exact ⟨s₂, o, stp _ hs, r⟩
theorem Gd.last (G : Gd l Z a0 n0 b R cs ss own nm code ml ret Q K) {i : Nat} {vs : List Value} {j : Int32} {x : Int64} (jn : Nat) (hd : decode code pc = .ok (.lastore, 1)) (hA : A[i]? = some (.inr (.long, vs))) (hj : j.toInt = (jn : Int)) (hl : jn < vs.length) (h : K (pc + 1) Ls st (A.set i (.inr (.long, vs.set jn (.long x)))) k n) : K pc Ls (.long x :: .int j :: .ref (ad n0 i) :: st) A k n := by
  obtain ⟨p, e, s, m, args, below, meth, c, hx, hby, -, hown, -, hZ, -, -, -, rfl⟩ := G
  intro T locs X N hAl RP
  obtain ⟨-, cl, Ar, es, -, -⟩ := RP.2 i _ hA
  obtain ⟨q1, q2⟩ := idxOk es hj hl
  obtain ⟨T', h', X', e', W, stp⟩ := stJ X hx hZ rfl Ar q1 (g := mkF m pc Ls.toArray (.long x :: .int j :: .ref (ad n0 i) :: st)) rfl rfl (hb hby hd)
  have W' : Wr T.heap h' (ad n0 i) jn (.long x) := by rw [← q2]; exact W
  obtain ⟨s₂, o, hs, r⟩ := h T' _ X' (Fr.snoc X' N (ad_le _ _)) (by rw [List.length_set]; exact hAl) (by rw [e']; exact RP.wr W' ((RP.2 i _ hA).store rfl W'))
  exact ⟨s₂, o, stp _ hs, r⟩
theorem Gd.bast (G : Gd l Z a0 n0 b R cs ss own nm code ml ret Q K) {i : Nat} {vs : List Value} {j : Int32} {x : Int32} (jn : Nat) (hd : decode code pc = .ok (.bastore, 1)) (hA : A[i]? = some (.inr (.byte, vs))) (hj : j.toInt = (jn : Int)) (hl : jn < vs.length) {x8 : Int32} (hx8 : nar .byte x = x8) (hfit : fits .byte (.int x8) = true) (h : K (pc + 1) Ls st (A.set i (.inr (.byte, vs.set jn (.int x8)))) k n) : K pc Ls (.int x :: .int j :: .ref (ad n0 i) :: st) A k n := by
  obtain ⟨p, e, s, m, args, below, meth, c, hx, hby, -, hown, -, hZ, -, -, -, rfl⟩ := G
  intro T locs X N hAl RP
  obtain ⟨-, cl, Ar, es, -, -⟩ := RP.2 i _ hA
  obtain ⟨q1, q2⟩ := idxOk es hj hl
  obtain ⟨T', h', X', e', W, stp⟩ := stB X hx hZ rfl Ar q1 (g := mkF m pc Ls.toArray (.int x :: .int j :: .ref (ad n0 i) :: st)) rfl rfl (hb hby hd)
  have W' : Wr T.heap h' (ad n0 i) jn (.int x8) := by rw [← q2, ← hx8]; exact W
  obtain ⟨s₂, o, hs, r⟩ := h T' _ X' (Fr.snoc X' N (ad_le _ _)) (by rw [List.length_set]; exact hAl) (by rw [e']; exact RP.wr W' ((RP.2 i _ hA).store hfit W'))
  exact ⟨s₂, o, stp _ hs, r⟩
theorem Gd.zast (G : Gd l Z a0 n0 b R cs ss own nm code ml ret Q K) {i : Nat} {vs : List Value} {j : Int32} {x : Int32} (jn : Nat) (hd : decode code pc = .ok (.bastore, 1)) (hA : A[i]? = some (.inr (.boolean, vs))) (hj : j.toInt = (jn : Int)) (hl : jn < vs.length) {x8 : Int32} (hx8 : nar .boolean x = x8) (hfit : fits .boolean (.int x8) = true) (h : K (pc + 1) Ls st (A.set i (.inr (.boolean, vs.set jn (.int x8)))) k n) : K pc Ls (.int x :: .int j :: .ref (ad n0 i) :: st) A k n := by
  obtain ⟨p, e, s, m, args, below, meth, c, hx, hby, -, hown, -, hZ, -, -, -, rfl⟩ := G
  intro T locs X N hAl RP
  obtain ⟨-, cl, Ar, es, -, -⟩ := RP.2 i _ hA
  obtain ⟨q1, q2⟩ := idxOk es hj hl
  obtain ⟨T', h', X', e', W, stp⟩ := stZ X hx hZ rfl Ar q1 (g := mkF m pc Ls.toArray (.int x :: .int j :: .ref (ad n0 i) :: st)) rfl rfl (hb hby hd)
  have W' : Wr T.heap h' (ad n0 i) jn (.int x8) := by rw [← q2, ← hx8]; exact W
  obtain ⟨s₂, o, hs, r⟩ := h T' _ X' (Fr.snoc X' N (ad_le _ _)) (by rw [List.length_set]; exact hAl) (by rw [e']; exact RP.wr W' ((RP.2 i _ hA).store hfit W'))
  exact ⟨s₂, o, stp _ hs, r⟩
def AI (N : Nat) (vs : List Value) : Prop := vs.length = N ∧ ∀ v ∈ vs, ∃ x : Int32, v = .int x
theorem AI.rep (N : Nat) : AI N (List.replicate N (.int 0)) := ⟨by simp, fun v hv => ⟨0, List.eq_of_mem_replicate hv⟩⟩
theorem AI.at {N j : Nat} {vs : List Value} (h : AI N vs) (hj : j < N) : ∃ x : Int32, vs[j]? = some (.int x) := by
  have hl : j < vs.length := by rw [h.1]; exact hj
  obtain ⟨x, e⟩ := h.2 _ (List.getElem_mem hl)
  exact ⟨x, by rw [List.getElem?_eq_getElem hl, e]⟩
theorem AI.set {N : Nat} {vs : List Value} (h : AI N vs) (j : Nat) (x : Int32) : AI N (vs.set j (.int x)) :=
  ⟨by rw [List.length_set]; exact h.1, fun v hv => by
    rcases List.mem_or_eq_of_mem_set hv with q | rfl
    · exact h.2 v q
    · exact ⟨x, rfl⟩⟩
/-- a store into the only cell, an int[] of which no more is kept in mind than that it holds ints -/
theorem Gd.iastA (G : Gd l Z a0 n0 b R cs ss own nm code ml ret Q K) {N : Nat} {vs : List Value} {j x : Int32} (jn : Nat) (hd : decode code pc = .ok (.iastore, 1)) (hv : AI N vs) (hj : j.toInt = (jn : Int)) (hl : jn < N) (h : ∀ vs', AI N vs' → K (pc + 1) Ls st [.inr (.int, vs')] k n) : K pc Ls (.int x :: .int j :: .ref (ad n0 0) :: st) [.inr (.int, vs)] k n :=
  G.iast jn hd rfl hj (by rw [hv.1]; exact hl) (h _ (hv.set jn x))
theorem Gd.ldcI (G : Gd l Z a0 n0 b R cs ss own nm code ml ret Q K) {idx : Nat} {v : Int32} (hd : decode code pc = .ok (.ldc idx, 2)) (w : (Jvm.Cond.constant own idx v).before a0 Z = true) (h : K (pc + 2) Ls (.int v :: st) A k n) : K pc Ls st A k n := by
  obtain ⟨p, e, s, m, args, below, meth, c, hx, hby, -, hown, -, hZ, -, -, -, rfl⟩ := G
  intro T locs X N hAl RP
  obtain ⟨s₂, o, hs, r⟩ := h T locs X N hAl RP
  exact ⟨s₂, o, X.ldcInt hx hown (mvT hZ w) (g := mkF m pc Ls.toArray st) rfl (hb hby hd) _ hs, r⟩
theorem Gd.ldcwI (G : Gd l Z a0 n0 b R cs ss own nm code ml ret Q K) {idx : Nat} {v : Int32} (hd : decode code pc = .ok (.ldc_w idx, 3)) (w : (Jvm.Cond.constant own idx v).before a0 Z = true) (h : K (pc + 3) Ls (.int v :: st) A k n) : K pc Ls st A k n := by
  obtain ⟨p, e, s, m, args, below, meth, c, hx, hby, -, hown, -, hZ, -, -, -, rfl⟩ := G
  intro T locs X N hAl RP
  obtain ⟨s₂, o, hs, r⟩ := h T locs X N hAl RP
  exact ⟨s₂, o, X.ldcwInt hx hown (mvT hZ w) (g := mkF m pc Ls.toArray st) rfl (hb hby hd) _ hs, r⟩
theorem Gd.ldcL (G : Gd l Z a0 n0 b R cs ss own nm code ml ret Q K) {idx : Nat} {v : Int64} (hd : decode code pc = .ok (.ldc2_w idx, 3)) (w : (Jvm.Cond.constantLong own idx v).before a0 Z = true) (h : K (pc + 3) Ls (.long v :: st) A k n) : K pc Ls st A k n := by
  obtain ⟨p, e, s, m, args, below, meth, c, hx, hby, -, hown, -, hZ, -, -, -, rfl⟩ := G
  intro T locs X N hAl RP
  obtain ⟨s₂, o, hs, r⟩ := h T locs X N hAl RP
  exact ⟨s₂, o, X.ldc2Long hx hown (mvT hZ w) (g := mkF m pc Ls.toArray st) rfl (hb hby hd) _ hs, r⟩
theorem Gd.retV (G : Gd l Z a0 n0 b R cs ss own nm code ml ret Q K) {t : FieldType} {i : Instr} {w : Value} (hret : ret = some t) (hd : decode code pc = .ok (i, 1)) (hn : narrow t w = w)
    (hi : (i = .ireturn ∧ (t = .int ∨ t = .boolean ∨ t = .byte ∨ t = .char ∨ t = .short) ∧ ∃ z, w = .int z) ∨ (i = .lreturn ∧ t = .long ∧ ∃ z, w = .long z) ∨ (i = .dreturn ∧ t = .double ∧ ∃ z, w = .double z) ∨ (i = .freturn ∧ t = .float ∧ ∃ z, w = .float z) ∨ (i = .areturn ∧ t.isReference = true ∧ w.isRef = true))
    (hk : k ≤ cs) (hs : n ≤ ss) (hQ : Q (some w) A) : K pc Ls (w :: st) A k n := by
  obtain ⟨p, e, s, m, args, below, meth, c, hx, hby, -, hown, -, hZ, hrt, hlk, -, rfl⟩ := G
  intro T locs X N hAl RP
  obtain ⟨fs, hr, hrun, hended, hW, hsame⟩ := X.leave (v := some w) (fun q => by rw [hrt, hret] at q; cases q) hlk
  exact ⟨_, _, retOut X hx (hrt.trans hret) hn hi (hb hby hd) hr, hrun, hended, _, locs, rfl, ⟨N, A, hQ, RP⟩, ⟨_, rfl⟩, hW, hsame.mono hk hs⟩
theorem Gd.ireturn (G : Gd l Z a0 n0 b R cs ss own nm code ml ret Q K) {z : Int32} (hret : ret = some .int) (hd : decode code pc = .ok (.ireturn, 1)) (hk : k ≤ cs) (hs : n ≤ ss) (hQ : Q (some (.int z)) A) : K pc Ls (.int z :: st) A k n :=
  G.retV hret hd rfl (Or.inl ⟨rfl, Or.inl rfl, _, rfl⟩) hk hs hQ
theorem Gd.zreturn (G : Gd l Z a0 n0 b R cs ss own nm code ml ret Q K) {z : Int32} (hret : ret = some .boolean) (hd : decode code pc = .ok (.ireturn, 1)) (hz : narrow .boolean (.int z) = .int z) (hk : k ≤ cs) (hs : n ≤ ss) (hQ : Q (some (.int z)) A) : K pc Ls (.int z :: st) A k n :=
  G.retV hret hd hz (Or.inl ⟨rfl, Or.inr (Or.inl rfl), _, rfl⟩) hk hs hQ
theorem Gd.lreturn (G : Gd l Z a0 n0 b R cs ss own nm code ml ret Q K) {z : Int64} (hret : ret = some .long) (hd : decode code pc = .ok (.lreturn, 1)) (hk : k ≤ cs) (hs : n ≤ ss) (hQ : Q (some (.long z)) A) : K pc Ls (.long z :: st) A k n :=
  G.retV hret hd rfl (Or.inr (Or.inl ⟨rfl, rfl, _, rfl⟩)) hk hs hQ
theorem Gd.areturn (G : Gd l Z a0 n0 b R cs ss own nm code ml ret Q K) {t : FieldType} {w : Value} (hret : ret = some t) (hd : decode code pc = .ok (.areturn, 1)) (ht : t.isReference = true) (hw : w.isRef = true) (hn : narrow t w = w) (hk : k ≤ cs) (hs : n ≤ ss) (hQ : Q (some w) A) : K pc Ls (w :: st) A k n :=
  G.retV hret hd hn (Or.inr (Or.inr (Or.inr (Or.inr ⟨rfl, ht, hw⟩)))) hk hs hQ
theorem Gd.vreturn (G : Gd l Z a0 n0 b R cs ss own nm code ml ret Q K) (hret : ret = none) (hd : decode code pc = .ok (.return_, 1)) (hk : k ≤ cs) (hs : n ≤ ss) (hQ : Q none A) : K pc Ls [] A k n := by
  obtain ⟨p, e, s, m, args, below, meth, c, hx, hby, -, hown, -, hZ, hrt, hlk, -, rfl⟩ := G
  intro T locs X N hAl RP
  obtain ⟨fs, hr, hrun, hended, hW, hsame⟩ := X.leave (v := none) (fun _ => rfl) hlk
  exact ⟨_, _, X.returnOut hx (hrt.trans hret) (hb hby hd) hr, hrun, hended, _, locs, rfl, ⟨N, A, hQ, RP⟩, ⟨_, rfl⟩, hW, hsame.mono hk hs⟩
/-- Object's own constructor -/
theorem Gd.initObj (G : Gd l Z a0 n0 b R cs ss own nm code ml ret Q K) {idx : Nat} {a : Addr} (hd : decode code pc = .ok (.invokespecial idx, 3)) (w1 : (Jvm.Cond.methodLink own idx Lib.objectInit).before a0 Z = true) (w2 : (Jvm.Cond.instanceMethod Lib.objectInit).before a0 Z = true) (w3 : (Jvm.Cond.code Lib.objectInit ⟨#[0xb1]⟩ 1 none).before a0 Z = true) (hL : Ls.length = ml) (hf : 1 ≤ R.frames) (hl : (st.map fun v => v.category).sum + 12 ≤ R.locals) (h : K (pc + 3) Ls st A k n) : K pc Ls (.ref a :: st) A k n := by
  obtain ⟨p, e, s, m, args, below, meth, c, hx, hby, hml, hown, -, hZ, -, -, -, rfl⟩ := G
  intro T locs X N hAl RP
  obtain ⟨T', X', e', stp⟩ := initO X hx hZ hown w1 w2 w3 rfl (g := mkF m pc Ls.toArray (.ref a :: st)) rfl (by rw [hml]; simpa using hL) rfl (hb hby hd) hf (W := (st.map fun v => v.category).sum) (by show 2 * 0 + _ ≤ _; omega) hl
  obtain ⟨s₂, o, hs, r⟩ := h T' locs X' N hAl (by rw [e']; exact RP)
  exact ⟨s₂, o, stp _ hs, r⟩
/-- a static method by its contract -/
theorem Gd.scall (G : Gd l Z a0 n0 b R cs ss own nm code ml ret Q K) {idx maxL : Nat} {y : MethodName} {bytes : ByteArray} {rt : Option FieldType} {rm : Room} {Q' : Option Value → AHeap → Prop} {ps : List FieldType} (argsL : List Value) (hst : st' = argsL.reverse ++ st) (hd : decode code pc = .ok (.invokestatic idx, 3)) (w1 : (Jvm.Cond.methodLink own idx y).before a0 Z = true) (w2 : (Jvm.Cond.static y).before a0 Z = true) (w3 : (Jvm.Cond.initialized y.cls).before a0 Z = true) (w4 : (Jvm.Cond.code y bytes maxL rt).before a0 Z = true) (hy : y.cls ≠ "java/lang/invoke/MethodHandle" ∧ y.cls ≠ "java/lang/invoke/VarHandle")
    (hM : Meth l Z a0 [] y bytes maxL rt rm rm.cells rm.slots n0 argsL.toArray A Q') (hpd : parseMethodDescriptor y.desc = some ⟨ps, rt⟩) (hal : argsL.length = ps.length) (hL : Ls.length = ml) (hf : rm.frames + 1 ≤ R.frames) (hl : (st.map fun v => v.category).sum + (maxL + 11) + rm.locals ≤ R.locals) (hc : k + rm.cells ≤ R.cells) (hsl : n + rm.slots ≤ R.slots) (hlen' : ∀ v A', Q' v A' → A'.length = A.length + rm.cells)
    (h : ∀ v A', Q' v A' → K (pc + 3) Ls (v.toList ++ st) A' (k + rm.cells) (n + rm.slots)) : K pc Ls st' A k n := by
  subst hst
  obtain ⟨p, e, s, m, args, below, meth, c, hx, hby, hml, hown, -, hZ, -, -, -, rfl⟩ := G
  intro T locs X N hAl RP
  obtain ⟨v, _, ⟨TB, LB, kB, nB⟩, -, XB, ⟨Lc, hQB, l1, y1, z1⟩, stp⟩ := Jvm.LawKit.callS X hx (y := y) hown (mvT hZ w1) (mvT hZ w2) (mvT hZ w3) (mvT hZ w4) hy (backOf (W := (st.map fun v => v.category).sum) (Q := fun v h L => Fr n0 L ∧ ∃ A', Q' v A' ∧ Rep Z a0 n0 h A') (hM T.heap RP) hZ w4 w3 hf hl) (g := mkF m pc Ls.toArray (argsL.reverse ++ st)) rfl (by rw [hml]; simpa using hL) (argsL := argsL) (rest := st) (lenOf hpd hal) rfl (by show 2 * 0 + _ ≤ _; omega) (hb hby hd) (fun _ _ => ⟨rfl, rfl, hc, hsl⟩)
  dsimp only [Pt.U, Pt.locs, Pt.cells, Pt.slots] at XB l1 y1 z1 stp hQB
  subst l1 y1 z1
  obtain ⟨NB, A', hq, RB⟩ := hQB
  obtain ⟨s₂, o, hs, r⟩ := h _ A' hq TB _ XB (Fr.app N NB) (by rw [hlen' _ _ hq, hAl]; omega) RB
  exact ⟨s₂, o, stp _ hs, r⟩
/-- a constructor by its contract -/
theorem Gd.ncall (G : Gd l Z a0 n0 b R cs ss own nm code ml ret Q K) {idx maxL : Nat} {y : MethodName} {bytes : ByteArray} {rm : Room} {Q' : Option Value → AHeap → Prop} {ps : List FieldType} {a : Addr} (argsL : List Value) (hst : st' = argsL.reverse ++ .ref a :: st) (hd : decode code pc = .ok (.invokespecial idx, 3)) (hy1 : y.name = "<init>") (w1 : (Jvm.Cond.methodLink own idx y).before a0 Z = true) (w2 : (Jvm.Cond.instanceMethod y).before a0 Z = true) (w3 : (Jvm.Cond.initialized y.cls).before a0 Z = true) (w4 : (Jvm.Cond.code y bytes maxL none).before a0 Z = true) (hy : y.cls ≠ "java/lang/invoke/MethodHandle" ∧ y.cls ≠ "java/lang/invoke/VarHandle")
    (hM : Meth l Z a0 [] y bytes maxL none rm rm.cells rm.slots n0 (.ref a :: argsL).toArray A Q') (hpd : parseMethodDescriptor y.desc = some ⟨ps, none⟩) (hal : argsL.length = ps.length) (hL : Ls.length = ml) (hf : rm.frames + 1 ≤ R.frames) (hl : (st.map fun v => v.category).sum + (maxL + 11) + rm.locals ≤ R.locals) (hc : k + rm.cells ≤ R.cells) (hsl : n + rm.slots ≤ R.slots) (hlen' : ∀ v A', Q' v A' → A'.length = A.length + rm.cells)
    (h : ∀ v A', Q' v A' → K (pc + 3) Ls (v.toList ++ st) A' (k + rm.cells) (n + rm.slots)) : K pc Ls st' A k n := by
  subst hst
  obtain ⟨p, e, s, m, args, below, meth, c, hx, hby, hml, hown, -, hZ, -, -, -, rfl⟩ := G
  intro T locs X N hAl RP
  obtain ⟨v, _, ⟨TB, LB, kB, nB⟩, -, XB, ⟨Lc, hQB, l1, y1, z1⟩, stp⟩ := X.specialBack hx (y := y) hy1 hown (mvT hZ w1) (mvT hZ w2) (mvT hZ w4) hy (backOf (W := (st.map fun v => v.category).sum) (Q := fun v h L => Fr n0 L ∧ ∃ A', Q' v A' ∧ Rep Z a0 n0 h A') (hM T.heap RP) hZ w4 w3 hf hl) (g := mkF m pc Ls.toArray (argsL.reverse ++ .ref a :: st)) rfl (by rw [hml]; simpa using hL) (Steps.refl _) (a := a) (argsL := argsL) (rest := st) (lenOf hpd hal) rfl (by show 2 * 0 + _ ≤ _; omega) (hb hby hd) (fun _ _ => ⟨rfl, rfl, hc, hsl⟩)
  dsimp only [Pt.U, Pt.locs, Pt.cells, Pt.slots] at XB l1 y1 z1 stp hQB
  subst l1 y1 z1
  obtain ⟨NB, A', hq, RB⟩ := hQB
  obtain ⟨s₂, o, hs, r⟩ := h _ A' hq TB _ XB (Fr.app N NB) (by rw [hlen' _ _ hq, hAl]; omega) RB
  exact ⟨s₂, o, stp.trans hs, r⟩
/-- an instance method by its contract -/
theorem Gd.vcall (G : Gd l Z a0 n0 b R cs ss own nm code ml ret Q K) {idx maxL i : Nat} {y : MethodName} {bytes : ByteArray} {rt : Option FieldType} {rm : Room} {Q' : Option Value → AHeap → Prop} {ps : List FieldType} {fs : List (String × String × Value)} (argsL : List Value) (hst : st' = argsL.reverse ++ .ref (ad n0 i) :: st) (hd : decode code pc = .ok (.invokevirtual idx, 3)) (w1 : (Jvm.Cond.methodLink own idx y).before a0 Z = true) (w2 : (Jvm.Cond.declares y).before a0 Z = true) (ws : (Jvm.Cond.selects y.cls y y).before a0 Z = true) (wm : (Jvm.Cond.instanceMethod y).before a0 Z = true) (w3 : (Jvm.Cond.initialized y.cls).before a0 Z = true) (w4 : (Jvm.Cond.code y bytes maxL rt).before a0 Z = true) (hy : y.cls ≠ "java/lang/invoke/MethodHandle" ∧ y.cls ≠ "java/lang/invoke/VarHandle") (hA : A[i]? = some (.inl (y.cls, fs)))
    (hM : Meth l Z a0 [] y bytes maxL rt rm rm.cells rm.slots n0 (.ref (ad n0 i) :: argsL).toArray A Q') (hpd : parseMethodDescriptor y.desc = some ⟨ps, rt⟩) (hal : argsL.length = ps.length) (hL : Ls.length = ml) (hf : rm.frames + 1 ≤ R.frames) (hl : (st.map fun v => v.category).sum + (maxL + 11) + rm.locals ≤ R.locals) (hc : k + rm.cells ≤ R.cells) (hsl : n + rm.slots ≤ R.slots) (hlen' : ∀ v A', Q' v A' → A'.length = A.length + rm.cells)
    (h : ∀ v A', Q' v A' → K (pc + 3) Ls (v.toList ++ st) A' (k + rm.cells) (n + rm.slots)) : K pc Ls st' A k n := by
  subst hst
  obtain ⟨p, e, s, m, args, below, meth, c, hx, hby, hml, hown, -, hZ, -, -, -, rfl⟩ := G
  intro T locs X N hAl RP
  obtain ⟨cq, kq, qa, qb, qc⟩ := isOf hZ rfl (RP.2 i _ hA).1
  obtain ⟨v, _, ⟨TB, LB, kB, nB⟩, -, XB, ⟨Lc, hQB, l1, y1, z1⟩, stp⟩ := X.virtualBack hx (y := y) (z := y) hown (mvT hZ w1) (mvT hZ w2) (notFace_of_selects (args := #[]) (mvT hZ ws)) (mvT hZ ws) (mvT hZ wm) hy (backOf (W := (st.map fun v => v.category).sum) (Q := fun v h L => Fr n0 L ∧ ∃ A', Q' v A' ∧ Rep Z a0 n0 h A') (hM T.heap RP) hZ w4 w3 hf hl) qa qc (g := mkF m pc Ls.toArray (argsL.reverse ++ .ref (ad n0 i) :: st)) rfl (by rw [hml]; simpa using hL) (Steps.refl _) (argsL := argsL) (rest := st) (lenOf hpd hal) rfl (by show 2 * 0 + _ ≤ _; omega) (hb hby hd) (fun _ _ => ⟨rfl, rfl, hc, hsl⟩)
  dsimp only [Pt.U, Pt.locs, Pt.cells, Pt.slots] at XB l1 y1 z1 stp hQB
  subst l1 y1 z1
  obtain ⟨NB, A', hq, RB⟩ := hQB
  obtain ⟨s₂, o, hs, r⟩ := h _ A' hq TB _ XB (Fr.app N NB) (by rw [hlen' _ _ hq, hAl]; omega) RB
  exact ⟨s₂, o, stp.trans hs, r⟩
/-- a private instance method by its contract -/
theorem Gd.pcall (G : Gd l Z a0 n0 b R cs ss own nm code ml ret Q K) {idx maxL i : Nat} {y : MethodName} {bytes : ByteArray} {rt : Option FieldType} {rm : Room} {Q' : Option Value → AHeap → Prop} {ps : List FieldType} {fs : List (String × String × Value)} {C : String} (argsL : List Value) (hst : st' = argsL.reverse ++ .ref (ad n0 i) :: st) (hd : decode code pc = .ok (.invokevirtual idx, 3)) (w1 : (Jvm.Cond.methodLink own idx y).before a0 Z = true) (wp : (Jvm.Cond.privateMethod y).before a0 Z = true) (ws : (Jvm.Cond.selects y.cls y y).before a0 Z = true) (wm : (Jvm.Cond.instanceMethod y).before a0 Z = true) (w3 : (Jvm.Cond.initialized y.cls).before a0 Z = true) (w4 : (Jvm.Cond.code y bytes maxL rt).before a0 Z = true) (hy : y.cls ≠ "java/lang/invoke/MethodHandle" ∧ y.cls ≠ "java/lang/invoke/VarHandle") (hA : A[i]? = some (.inl (C, fs)))
    (hM : Meth l Z a0 [] y bytes maxL rt rm rm.cells rm.slots n0 (.ref (ad n0 i) :: argsL).toArray A Q') (hpd : parseMethodDescriptor y.desc = some ⟨ps, rt⟩) (hal : argsL.length = ps.length) (hL : Ls.length = ml) (hf : rm.frames + 1 ≤ R.frames) (hl : (st.map fun v => v.category).sum + (maxL + 11) + rm.locals ≤ R.locals) (hc : k + rm.cells ≤ R.cells) (hsl : n + rm.slots ≤ R.slots) (hlen' : ∀ v A', Q' v A' → A'.length = A.length + rm.cells)
    (h : ∀ v A', Q' v A' → K (pc + 3) Ls (v.toList ++ st) A' (k + rm.cells) (n + rm.slots)) : K pc Ls st' A k n := by
  subst hst
  obtain ⟨p, e, s, m, args, below, meth, c, hx, hby, hml, hown, -, hZ, -, -, -, rfl⟩ := G
  intro T locs X N hAl RP
  obtain ⟨cq, q1, q2⟩ := (RP.2 i _ hA).1.cell
  obtain ⟨v, _, ⟨TB, LB, kB, nB⟩, -, XB, ⟨Lc, hQB, l1, y1, z1⟩, stp⟩ := X.privateBack hx (y := y) hown (mvT hZ w1) (mvT hZ wm) (mvT hZ ws) (Cond.privateMethod_at (mvP hZ wp (args := #[]))) (mvT hZ w4) hy (backOf (W := (st.map fun v => v.category).sum) (Q := fun v h L => Fr n0 L ∧ ∃ A', Q' v A' ∧ Rep Z a0 n0 h A') (hM T.heap RP) hZ w4 w3 hf hl) (g := mkF m pc Ls.toArray (argsL.reverse ++ .ref (ad n0 i) :: st)) rfl (by rw [hml]; simpa using hL) (Steps.refl _) (a := ad n0 i) q1 q2 (argsL := argsL) (rest := st) (lenOf hpd hal) rfl (by show 2 * 0 + _ ≤ _; omega) (hb hby hd) (fun _ _ => ⟨rfl, rfl, hc, hsl⟩)
  dsimp only [Pt.U, Pt.locs, Pt.cells, Pt.slots] at XB l1 y1 z1 stp hQB
  subst l1 y1 z1
  obtain ⟨NB, A', hq, RB⟩ := hQB
  obtain ⟨s₂, o, hs, r⟩ := h _ A' hq TB _ XB (Fr.app N NB) (by rw [hlen' _ _ hq, hAl]; omega) RB
  exact ⟨s₂, o, stp.trans hs, r⟩
end Rules
end Jvm.Pilot.@@N@@
namespace Jvm.Pilot.@@N@@
open Jvm Jvm.ClassFile Sem Op Lib Jvm.Free Jvm.Stand Jvm.LawKit Jvm.RoadKit Bundle Jvm.Pilot.@@N@@.Jvm.D
theorem own_pd0 : parseMethodDescriptor "(I[BI)V" = some ⟨[.int, .array (.byte), .int], none⟩ := by decide +kernel
theorem own_pd1 : parseMethodDescriptor "(I)I" = some ⟨[.int], some (.int)⟩ := by decide +kernel
theorem own_pd2 : parseMethodDescriptor "(IIII)I" = some ⟨[.int, .int, .int, .int], some (.int)⟩ := by decide +kernel
theorem d1_0 : decode prog_62_method_9_code 0 = .ok (.iload_n 0, 1) := by decide +kernel
theorem d1_1 : decode prog_62_method_9_code 1 = .ok (.iconst 2, 1) := by decide +kernel
theorem d1_2 : decode prog_62_method_9_code 2 = .ok (.if_icmp .ge 7, 3) := by decide +kernel
theorem d1_5 : decode prog_62_method_9_code 5 = .ok (.iconst 0, 1) := by decide +kernel
theorem d1_6 : decode prog_62_method_9_code 6 = .ok (.goto 24, 3) := by decide +kernel
theorem d1_9 : decode prog_62_method_9_code 9 = .ok (.iload_n 0, 1) := by decide +kernel
theorem d1_10 : decode prog_62_method_9_code 10 = .ok (.bipush 6, 2) := by decide +kernel
theorem d1_12 : decode prog_62_method_9_code 12 = .ok (.if_icmp .ge 7, 3) := by decide +kernel
theorem d1_15 : decode prog_62_method_9_code 15 = .ok (.iconst 1, 1) := by decide +kernel
theorem d1_16 : decode prog_62_method_9_code 16 = .ok (.goto 14, 3) := by decide +kernel
theorem d1_19 : decode prog_62_method_9_code 19 = .ok (.iload_n 0, 1) := by decide +kernel
theorem d1_20 : decode prog_62_method_9_code 20 = .ok (.bipush 6, 2) := by decide +kernel
theorem d1_22 : decode prog_62_method_9_code 22 = .ok (.if_icmp .ne 7, 3) := by decide +kernel
theorem d1_25 : decode prog_62_method_9_code 25 = .ok (.iconst 2, 1) := by decide +kernel
theorem d1_26 : decode prog_62_method_9_code 26 = .ok (.goto 4, 3) := by decide +kernel
theorem d1_29 : decode prog_62_method_9_code 29 = .ok (.iconst 3, 1) := by decide +kernel
theorem d1_30 : decode prog_62_method_9_code 30 = .ok (.istore_n 3, 1) := by decide +kernel
theorem d1_31 : decode prog_62_method_9_code 31 = .ok (.iload_n 3, 1) := by decide +kernel
theorem d1_32 : decode prog_62_method_9_code 32 = .ok (.bipush 6, 2) := by decide +kernel
theorem d1_34 : decode prog_62_method_9_code 34 = .ok (.ishl, 1) := by decide +kernel
theorem d1_35 : decode prog_62_method_9_code 35 = .ok (.istore 4, 2) := by decide +kernel
theorem d1_37 : decode prog_62_method_9_code 37 = .ok (.aload_n 1, 1) := by decide +kernel
theorem d1_38 : decode prog_62_method_9_code 38 = .ok (.iload_n 2, 1) := by decide +kernel
theorem d1_39 : decode prog_62_method_9_code 39 = .ok (.bipush 120, 2) := by decide +kernel
theorem d1_41 : decode prog_62_method_9_code 41 = .ok (.bastore, 1) := by decide +kernel
theorem d1_42 : decode prog_62_method_9_code 42 = .ok (.aload_n 1, 1) := by decide +kernel
theorem d1_43 : decode prog_62_method_9_code 43 = .ok (.iload_n 2, 1) := by decide +kernel
theorem d1_44 : decode prog_62_method_9_code 44 = .ok (.iconst 1, 1) := by decide +kernel
theorem d1_45 : decode prog_62_method_9_code 45 = .ok (.iadd, 1) := by decide +kernel
theorem d1_46 : decode prog_62_method_9_code 46 = .ok (.iload 4, 2) := by decide +kernel
theorem d1_48 : decode prog_62_method_9_code 48 = .ok (.bipush 31, 2) := by decide +kernel
theorem d1_50 : decode prog_62_method_9_code 50 = .ok (.iadd, 1) := by decide +kernel
theorem d1_51 : decode prog_62_method_9_code 51 = .ok (.sipush 30720, 3) := by decide +kernel
theorem d1_54 : decode prog_62_method_9_code 54 = .ok (.iload 4, 2) := by decide +kernel
theorem d1_56 : decode prog_62_method_9_code 56 = .ok (.ior, 1) := by decide +kernel
theorem d1_57 : decode prog_62_method_9_code 57 = .ok (.bipush 31, 2) := by decide +kernel
theorem d1_59 : decode prog_62_method_9_code 59 = .ok (.irem, 1) := by decide +kernel
theorem d1_60 : decode prog_62_method_9_code 60 = .ok (.isub, 1) := by decide +kernel
theorem d1_61 : decode prog_62_method_9_code 61 = .ok (.i2b, 1) := by decide +kernel
theorem d1_62 : decode prog_62_method_9_code 62 = .ok (.bastore, 1) := by decide +kernel
theorem d1_63 : decode prog_62_method_9_code 63 = .ok (.return_, 1) := by decide +kernel
def own_hdr0 (lv : Int32) : Int32 := (if lv < (2 : Int32) then (nar .byte (((((0 : Int32) <<< ((6 : Int32) &&& 31)) + (31 : Int32)) - (((30720 : Int32) ||| ((0 : Int32) <<< ((6 : Int32) &&& 31))) % (31 : Int32))).toInt8.toInt32)) else (if lv < (6 : Int32) then (nar .byte (((((1 : Int32) <<< ((6 : Int32) &&& 31)) + (31 : Int32)) - (((30720 : Int32) ||| ((1 : Int32) <<< ((6 : Int32) &&& 31))) % (31 : Int32))).toInt8.toInt32)) else (if lv = (6 : Int32) then (nar .byte (((((2 : Int32) <<< ((6 : Int32) &&& 31)) + (31 : Int32)) - (((30720 : Int32) ||| ((2 : Int32) <<< ((6 : Int32) &&& 31))) % (31 : Int32))).toInt8.toInt32)) else (nar .byte (((((3 : Int32) <<< ((6 : Int32) &&& 31)) + (31 : Int32)) - (((30720 : Int32) ||| ((3 : Int32) <<< ((6 : Int32) &&& 31))) % (31 : Int32))).toInt8.toInt32)))))
theorem own_pn3 : plainName "org/glasspane/ZlibStream" = true := by first | (simp [plainName, overriddenIn]; done) | decide +kernel
set_option maxRecDepth 65536 in
set_option maxHeartbeats 40000000 in
theorem m_1_0 (l : Launch) (Z : State) (a0 : Array Value) (hw : ∀ d ∈ tables_1, d.before a0 Z = true) (n0 : Nat) (ws : List Jvm.Cond) (lv b0 b1 b2 b3 : Int32) :
    Meth l Z a0 ws (⟨"org/glasspane/ZlibStream", "putHeader", "(I[BI)V"⟩ : MethodName) prog_62_method_9_code 5 none ({ frames := 0, cells := 0, slots := 0, locals := 0 } : Room) 0 0 n0 #[.int lv, .ref (ad n0 0), .int (0 : Int32)] ([.inr (.byte, [.int b0, .int b1, .int b2, .int b3])] : AHeap) (fun r A' => r = none ∧ A' = ([.inr (.byte, [.int (120 : Int32), .int (own_hdr0 lv), .int b2, .int b3])] : AHeap)) := by
  refine Meth.of own_pn3 (Ls := [.val (.int lv), .val (.ref (ad n0 0)), .val (.int (0 : Int32)), .unset, .unset]) (fun m => by first | (simp [entryFrame, mkF, argsToLocals, Value.category, maxLocals]; done) | rfl) ?_
  intro K G
  have he : own_hdr0 lv = own_hdr0 lv := rfl
  refine G.iloadN d1_0 rfl ?_
  refine G.iconst (2) d1_1 rfl ?_
  refine G.icmp_ge 9 d1_2 (by decide) rfl (fun h2 => ?_) (fun h2 => ?_)
  · replace he := he.trans (if_neg h2)
    refine G.iloadN d1_9 rfl ?_
    refine G.bipush (6) d1_10 rfl ?_
    refine G.icmp_ge 19 d1_12 (by decide) rfl (fun h12 => ?_) (fun h12 => ?_)
    · replace he := he.trans (if_neg h12)
      refine G.iloadN d1_19 rfl ?_
      refine G.bipush (6) d1_20 rfl ?_
      refine G.icmp_ne 29 d1_22 (by decide) rfl (fun h22 => ?_) (fun h22 => ?_)
      · replace he := he.trans (if_neg h22)
        refine G.iconst (3) d1_29 rfl ?_
        refine G.istoreN3 d1_30 rfl ?_
        refine G.iloadN d1_31 rfl ?_
        refine G.bipush (6) d1_32 rfl ?_
        refine G.ishl d1_34 ?_
        refine G.istore4 d1_35 rfl ?_
        refine G.aloadN d1_37 rfl rfl ?_
        refine G.iloadN d1_38 rfl ?_
        refine G.bipush (120) d1_39 rfl ?_
        refine G.bast (0) d1_41 rfl (by decide) (Nat.le_of_ble_eq_true rfl) (x8 := 120) rfl rfl ?_
        try simp only [List.set_cons_zero, List.set_cons_succ, List.length_cons, List.length_nil, List.nil_append, List.cons_append, Nat.zero_add, Nat.reduceAdd]
        refine G.aloadN d1_42 rfl rfl ?_
        refine G.iloadN d1_43 rfl ?_
        refine G.iconst (1) d1_44 rfl ?_
        refine G.iadd d1_45 ?_
        refine G.iload d1_46 rfl ?_
        refine G.bipush (31) d1_48 rfl ?_
        refine G.iadd d1_50 ?_
        refine G.sipush (30720) d1_51 rfl ?_
        refine G.iload d1_54 rfl ?_
        refine G.ior d1_56 ?_
        refine G.bipush (31) d1_57 rfl ?_
        refine G.irem d1_59 (by decide) ?_
        refine G.isub d1_60 ?_
        refine G.i2b d1_61 ?_
        refine G.bast (1) d1_62 rfl (by decide) (Nat.le_of_ble_eq_true rfl) rfl (fits_nar_byte _) ?_
        try simp only [List.set_cons_zero, List.set_cons_succ, List.length_cons, List.length_nil, List.nil_append, List.cons_append, Nat.zero_add, Nat.reduceAdd]
        exact G.vreturn rfl d1_63 (Nat.le_of_ble_eq_true rfl) (Nat.le_of_ble_eq_true rfl) ⟨rfl, by rw [he]⟩
      · replace he := he.trans (if_pos h22)
        refine G.iconst (2) d1_25 rfl ?_
        refine G.goto 30 d1_26 (by decide) rfl ?_
        refine G.istoreN3 d1_30 rfl ?_
        refine G.iloadN d1_31 rfl ?_
        refine G.bipush (6) d1_32 rfl ?_
        refine G.ishl d1_34 ?_
        refine G.istore4 d1_35 rfl ?_
        refine G.aloadN d1_37 rfl rfl ?_
        refine G.iloadN d1_38 rfl ?_
        refine G.bipush (120) d1_39 rfl ?_
        refine G.bast (0) d1_41 rfl (by decide) (Nat.le_of_ble_eq_true rfl) (x8 := 120) rfl rfl ?_
        try simp only [List.set_cons_zero, List.set_cons_succ, List.length_cons, List.length_nil, List.nil_append, List.cons_append, Nat.zero_add, Nat.reduceAdd]
        refine G.aloadN d1_42 rfl rfl ?_
        refine G.iloadN d1_43 rfl ?_
        refine G.iconst (1) d1_44 rfl ?_
        refine G.iadd d1_45 ?_
        refine G.iload d1_46 rfl ?_
        refine G.bipush (31) d1_48 rfl ?_
        refine G.iadd d1_50 ?_
        refine G.sipush (30720) d1_51 rfl ?_
        refine G.iload d1_54 rfl ?_
        refine G.ior d1_56 ?_
        refine G.bipush (31) d1_57 rfl ?_
        refine G.irem d1_59 (by decide) ?_
        refine G.isub d1_60 ?_
        refine G.i2b d1_61 ?_
        refine G.bast (1) d1_62 rfl (by decide) (Nat.le_of_ble_eq_true rfl) rfl (fits_nar_byte _) ?_
        try simp only [List.set_cons_zero, List.set_cons_succ, List.length_cons, List.length_nil, List.nil_append, List.cons_append, Nat.zero_add, Nat.reduceAdd]
        exact G.vreturn rfl d1_63 (Nat.le_of_ble_eq_true rfl) (Nat.le_of_ble_eq_true rfl) ⟨rfl, by rw [he]⟩
    · replace he := he.trans (if_pos h12)
      refine G.iconst (1) d1_15 rfl ?_
      refine G.goto 30 d1_16 (by decide) rfl ?_
      refine G.istoreN3 d1_30 rfl ?_
      refine G.iloadN d1_31 rfl ?_
      refine G.bipush (6) d1_32 rfl ?_
      refine G.ishl d1_34 ?_
      refine G.istore4 d1_35 rfl ?_
      refine G.aloadN d1_37 rfl rfl ?_
      refine G.iloadN d1_38 rfl ?_
      refine G.bipush (120) d1_39 rfl ?_
      refine G.bast (0) d1_41 rfl (by decide) (Nat.le_of_ble_eq_true rfl) (x8 := 120) rfl rfl ?_
      try simp only [List.set_cons_zero, List.set_cons_succ, List.length_cons, List.length_nil, List.nil_append, List.cons_append, Nat.zero_add, Nat.reduceAdd]
      refine G.aloadN d1_42 rfl rfl ?_
      refine G.iloadN d1_43 rfl ?_
      refine G.iconst (1) d1_44 rfl ?_
      refine G.iadd d1_45 ?_
      refine G.iload d1_46 rfl ?_
      refine G.bipush (31) d1_48 rfl ?_
      refine G.iadd d1_50 ?_
      refine G.sipush (30720) d1_51 rfl ?_
      refine G.iload d1_54 rfl ?_
      refine G.ior d1_56 ?_
      refine G.bipush (31) d1_57 rfl ?_
      refine G.irem d1_59 (by decide) ?_
      refine G.isub d1_60 ?_
      refine G.i2b d1_61 ?_
      refine G.bast (1) d1_62 rfl (by decide) (Nat.le_of_ble_eq_true rfl) rfl (fits_nar_byte _) ?_
      try simp only [List.set_cons_zero, List.set_cons_succ, List.length_cons, List.length_nil, List.nil_append, List.cons_append, Nat.zero_add, Nat.reduceAdd]
      exact G.vreturn rfl d1_63 (Nat.le_of_ble_eq_true rfl) (Nat.le_of_ble_eq_true rfl) ⟨rfl, by rw [he]⟩
  · replace he := he.trans (if_pos h2)
    refine G.iconst (0) d1_5 rfl ?_
    refine G.goto 30 d1_6 (by decide) rfl ?_
    refine G.istoreN3 d1_30 rfl ?_
    refine G.iloadN d1_31 rfl ?_
    refine G.bipush (6) d1_32 rfl ?_
    refine G.ishl d1_34 ?_
    refine G.istore4 d1_35 rfl ?_
    refine G.aloadN d1_37 rfl rfl ?_
    refine G.iloadN d1_38 rfl ?_
    refine G.bipush (120) d1_39 rfl ?_
    refine G.bast (0) d1_41 rfl (by decide) (Nat.le_of_ble_eq_true rfl) (x8 := 120) rfl rfl ?_
    try simp only [List.set_cons_zero, List.set_cons_succ, List.length_cons, List.length_nil, List.nil_append, List.cons_append, Nat.zero_add, Nat.reduceAdd]
    refine G.aloadN d1_42 rfl rfl ?_
    refine G.iloadN d1_43 rfl ?_
    refine G.iconst (1) d1_44 rfl ?_
    refine G.iadd d1_45 ?_
    refine G.iload d1_46 rfl ?_
    refine G.bipush (31) d1_48 rfl ?_
    refine G.iadd d1_50 ?_
    refine G.sipush (30720) d1_51 rfl ?_
    refine G.iload d1_54 rfl ?_
    refine G.ior d1_56 ?_
    refine G.bipush (31) d1_57 rfl ?_
    refine G.irem d1_59 (by decide) ?_
    refine G.isub d1_60 ?_
    refine G.i2b d1_61 ?_
    refine G.bast (1) d1_62 rfl (by decide) (Nat.le_of_ble_eq_true rfl) rfl (fits_nar_byte _) ?_
    try simp only [List.set_cons_zero, List.set_cons_succ, List.length_cons, List.length_nil, List.nil_append, List.cons_append, Nat.zero_add, Nat.reduceAdd]
    exact G.vreturn rfl d1_63 (Nat.le_of_ble_eq_true rfl) (Nat.le_of_ble_eq_true rfl) ⟨rfl, by rw [he]⟩
def own_hdr1 (lv : Int32) : Int32 := (if lv < (2 : Int32) then (nar .byte (((((0 : Int32) <<< ((6 : Int32) &&& 31)) + (31 : Int32)) - (((30720 : Int32) ||| ((0 : Int32) <<< ((6 : Int32) &&& 31))) % (31 : Int32))).toInt8.toInt32)) else (if lv < (6 : Int32) then (nar .byte (((((1 : Int32) <<< ((6 : Int32) &&& 31)) + (31 : Int32)) - (((30720 : Int32) ||| ((1 : Int32) <<< ((6 : Int32) &&& 31))) % (31 : Int32))).toInt8.toInt32)) else (if lv = (6 : Int32) then (nar .byte (((((2 : Int32) <<< ((6 : Int32) &&& 31)) + (31 : Int32)) - (((30720 : Int32) ||| ((2 : Int32) <<< ((6 : Int32) &&& 31))) % (31 : Int32))).toInt8.toInt32)) else (nar .byte (((((3 : Int32) <<< ((6 : Int32) &&& 31)) + (31 : Int32)) - (((30720 : Int32) ||| ((3 : Int32) <<< ((6 : Int32) &&& 31))) % (31 : Int32))).toInt8.toInt32)))))
set_option maxRecDepth 65536 in
set_option maxHeartbeats 40000000 in
theorem m_1_1 (l : Launch) (Z : State) (a0 : Array Value) (hw : ∀ d ∈ tables_1, d.before a0 Z = true) (n0 : Nat) (ws : List Jvm.Cond) (lv b0 b1 b2 b3 : Int32) :
    Meth l Z a0 ws (⟨"org/glasspane/ZlibStream", "putHeader", "(I[BI)V"⟩ : MethodName) prog_62_method_9_code 5 none ({ frames := 0, cells := 0, slots := 0, locals := 0 } : Room) 0 0 n0 #[.int lv, .ref (ad n0 0), .int (1 : Int32)] ([.inr (.byte, [.int b0, .int b1, .int b2, .int b3])] : AHeap) (fun r A' => r = none ∧ A' = ([.inr (.byte, [.int b0, .int (120 : Int32), .int (own_hdr1 lv), .int b3])] : AHeap)) := by
  refine Meth.of own_pn3 (Ls := [.val (.int lv), .val (.ref (ad n0 0)), .val (.int (1 : Int32)), .unset, .unset]) (fun m => by first | (simp [entryFrame, mkF, argsToLocals, Value.category, maxLocals]; done) | rfl) ?_
  intro K G
  have he : own_hdr1 lv = own_hdr1 lv := rfl
  refine G.iloadN d1_0 rfl ?_
  refine G.iconst (2) d1_1 rfl ?_
  refine G.icmp_ge 9 d1_2 (by decide) rfl (fun h2 => ?_) (fun h2 => ?_)
  · replace he := he.trans (if_neg h2)
    refine G.iloadN d1_9 rfl ?_
    refine G.bipush (6) d1_10 rfl ?_
    refine G.icmp_ge 19 d1_12 (by decide) rfl (fun h12 => ?_) (fun h12 => ?_)
    · replace he := he.trans (if_neg h12)
      refine G.iloadN d1_19 rfl ?_
      refine G.bipush (6) d1_20 rfl ?_
      refine G.icmp_ne 29 d1_22 (by decide) rfl (fun h22 => ?_) (fun h22 => ?_)
      · replace he := he.trans (if_neg h22)
        refine G.iconst (3) d1_29 rfl ?_
        refine G.istoreN3 d1_30 rfl ?_
        refine G.iloadN d1_31 rfl ?_
        refine G.bipush (6) d1_32 rfl ?_
        refine G.ishl d1_34 ?_
        refine G.istore4 d1_35 rfl ?_
        refine G.aloadN d1_37 rfl rfl ?_
        refine G.iloadN d1_38 rfl ?_
        refine G.bipush (120) d1_39 rfl ?_
        refine G.bast (1) d1_41 rfl (by decide) (Nat.le_of_ble_eq_true rfl) (x8 := 120) rfl rfl ?_
        try simp only [List.set_cons_zero, List.set_cons_succ, List.length_cons, List.length_nil, List.nil_append, List.cons_append, Nat.zero_add, Nat.reduceAdd]
        refine G.aloadN d1_42 rfl rfl ?_
        refine G.iloadN d1_43 rfl ?_
        refine G.iconst (1) d1_44 rfl ?_
        refine G.iadd d1_45 ?_
        refine G.iload d1_46 rfl ?_
        refine G.bipush (31) d1_48 rfl ?_
        refine G.iadd d1_50 ?_
        refine G.sipush (30720) d1_51 rfl ?_
        refine G.iload d1_54 rfl ?_
        refine G.ior d1_56 ?_
        refine G.bipush (31) d1_57 rfl ?_
        refine G.irem d1_59 (by decide) ?_
        refine G.isub d1_60 ?_
        refine G.i2b d1_61 ?_
        refine G.bast (2) d1_62 rfl (by decide) (Nat.le_of_ble_eq_true rfl) rfl (fits_nar_byte _) ?_
        try simp only [List.set_cons_zero, List.set_cons_succ, List.length_cons, List.length_nil, List.nil_append, List.cons_append, Nat.zero_add, Nat.reduceAdd]
        exact G.vreturn rfl d1_63 (Nat.le_of_ble_eq_true rfl) (Nat.le_of_ble_eq_true rfl) ⟨rfl, by rw [he]⟩
      · replace he := he.trans (if_pos h22)
        refine G.iconst (2) d1_25 rfl ?_
        refine G.goto 30 d1_26 (by decide) rfl ?_
        refine G.istoreN3 d1_30 rfl ?_
        refine G.iloadN d1_31 rfl ?_
        refine G.bipush (6) d1_32 rfl ?_
        refine G.ishl d1_34 ?_
        refine G.istore4 d1_35 rfl ?_
        refine G.aloadN d1_37 rfl rfl ?_
        refine G.iloadN d1_38 rfl ?_
        refine G.bipush (120) d1_39 rfl ?_
        refine G.bast (1) d1_41 rfl (by decide) (Nat.le_of_ble_eq_true rfl) (x8 := 120) rfl rfl ?_
        try simp only [List.set_cons_zero, List.set_cons_succ, List.length_cons, List.length_nil, List.nil_append, List.cons_append, Nat.zero_add, Nat.reduceAdd]
        refine G.aloadN d1_42 rfl rfl ?_
        refine G.iloadN d1_43 rfl ?_
        refine G.iconst (1) d1_44 rfl ?_
        refine G.iadd d1_45 ?_
        refine G.iload d1_46 rfl ?_
        refine G.bipush (31) d1_48 rfl ?_
        refine G.iadd d1_50 ?_
        refine G.sipush (30720) d1_51 rfl ?_
        refine G.iload d1_54 rfl ?_
        refine G.ior d1_56 ?_
        refine G.bipush (31) d1_57 rfl ?_
        refine G.irem d1_59 (by decide) ?_
        refine G.isub d1_60 ?_
        refine G.i2b d1_61 ?_
        refine G.bast (2) d1_62 rfl (by decide) (Nat.le_of_ble_eq_true rfl) rfl (fits_nar_byte _) ?_
        try simp only [List.set_cons_zero, List.set_cons_succ, List.length_cons, List.length_nil, List.nil_append, List.cons_append, Nat.zero_add, Nat.reduceAdd]
        exact G.vreturn rfl d1_63 (Nat.le_of_ble_eq_true rfl) (Nat.le_of_ble_eq_true rfl) ⟨rfl, by rw [he]⟩
    · replace he := he.trans (if_pos h12)
      refine G.iconst (1) d1_15 rfl ?_
      refine G.goto 30 d1_16 (by decide) rfl ?_
      refine G.istoreN3 d1_30 rfl ?_
      refine G.iloadN d1_31 rfl ?_
      refine G.bipush (6) d1_32 rfl ?_
      refine G.ishl d1_34 ?_
      refine G.istore4 d1_35 rfl ?_
      refine G.aloadN d1_37 rfl rfl ?_
      refine G.iloadN d1_38 rfl ?_
      refine G.bipush (120) d1_39 rfl ?_
      refine G.bast (1) d1_41 rfl (by decide) (Nat.le_of_ble_eq_true rfl) (x8 := 120) rfl rfl ?_
      try simp only [List.set_cons_zero, List.set_cons_succ, List.length_cons, List.length_nil, List.nil_append, List.cons_append, Nat.zero_add, Nat.reduceAdd]
      refine G.aloadN d1_42 rfl rfl ?_
      refine G.iloadN d1_43 rfl ?_
      refine G.iconst (1) d1_44 rfl ?_
      refine G.iadd d1_45 ?_
      refine G.iload d1_46 rfl ?_
      refine G.bipush (31) d1_48 rfl ?_
      refine G.iadd d1_50 ?_
      refine G.sipush (30720) d1_51 rfl ?_
      refine G.iload d1_54 rfl ?_
      refine G.ior d1_56 ?_
      refine G.bipush (31) d1_57 rfl ?_
      refine G.irem d1_59 (by decide) ?_
      refine G.isub d1_60 ?_
      refine G.i2b d1_61 ?_
      refine G.bast (2) d1_62 rfl (by decide) (Nat.le_of_ble_eq_true rfl) rfl (fits_nar_byte _) ?_
      try simp only [List.set_cons_zero, List.set_cons_succ, List.length_cons, List.length_nil, List.nil_append, List.cons_append, Nat.zero_add, Nat.reduceAdd]
      exact G.vreturn rfl d1_63 (Nat.le_of_ble_eq_true rfl) (Nat.le_of_ble_eq_true rfl) ⟨rfl, by rw [he]⟩
  · replace he := he.trans (if_pos h2)
    refine G.iconst (0) d1_5 rfl ?_
    refine G.goto 30 d1_6 (by decide) rfl ?_
    refine G.istoreN3 d1_30 rfl ?_
    refine G.iloadN d1_31 rfl ?_
    refine G.bipush (6) d1_32 rfl ?_
    refine G.ishl d1_34 ?_
    refine G.istore4 d1_35 rfl ?_
    refine G.aloadN d1_37 rfl rfl ?_
    refine G.iloadN d1_38 rfl ?_
    refine G.bipush (120) d1_39 rfl ?_
    refine G.bast (1) d1_41 rfl (by decide) (Nat.le_of_ble_eq_true rfl) (x8 := 120) rfl rfl ?_
    try simp only [List.set_cons_zero, List.set_cons_succ, List.length_cons, List.length_nil, List.nil_append, List.cons_append, Nat.zero_add, Nat.reduceAdd]
    refine G.aloadN d1_42 rfl rfl ?_
    refine G.iloadN d1_43 rfl ?_
    refine G.iconst (1) d1_44 rfl ?_
    refine G.iadd d1_45 ?_
    refine G.iload d1_46 rfl ?_
    refine G.bipush (31) d1_48 rfl ?_
    refine G.iadd d1_50 ?_
    refine G.sipush (30720) d1_51 rfl ?_
    refine G.iload d1_54 rfl ?_
    refine G.ior d1_56 ?_
    refine G.bipush (31) d1_57 rfl ?_
    refine G.irem d1_59 (by decide) ?_
    refine G.isub d1_60 ?_
    refine G.i2b d1_61 ?_
    refine G.bast (2) d1_62 rfl (by decide) (Nat.le_of_ble_eq_true rfl) rfl (fits_nar_byte _) ?_
    try simp only [List.set_cons_zero, List.set_cons_succ, List.length_cons, List.length_nil, List.nil_append, List.cons_append, Nat.zero_add, Nat.reduceAdd]
    exact G.vreturn rfl d1_63 (Nat.le_of_ble_eq_true rfl) (Nat.le_of_ble_eq_true rfl) ⟨rfl, by rw [he]⟩
def own_hdr2 (lv : Int32) : Int32 := (if lv < (2 : Int32) then (nar .byte (((((0 : Int32) <<< ((6 : Int32) &&& 31)) + (31 : Int32)) - (((30720 : Int32) ||| ((0 : Int32) <<< ((6 : Int32) &&& 31))) % (31 : Int32))).toInt8.toInt32)) else (if lv < (6 : Int32) then (nar .byte (((((1 : Int32) <<< ((6 : Int32) &&& 31)) + (31 : Int32)) - (((30720 : Int32) ||| ((1 : Int32) <<< ((6 : Int32) &&& 31))) % (31 : Int32))).toInt8.toInt32)) else (if lv = (6 : Int32) then (nar .byte (((((2 : Int32) <<< ((6 : Int32) &&& 31)) + (31 : Int32)) - (((30720 : Int32) ||| ((2 : Int32) <<< ((6 : Int32) &&& 31))) % (31 : Int32))).toInt8.toInt32)) else (nar .byte (((((3 : Int32) <<< ((6 : Int32) &&& 31)) + (31 : Int32)) - (((30720 : Int32) ||| ((3 : Int32) <<< ((6 : Int32) &&& 31))) % (31 : Int32))).toInt8.toInt32)))))
set_option maxRecDepth 65536 in
set_option maxHeartbeats 40000000 in
theorem m_1_2 (l : Launch) (Z : State) (a0 : Array Value) (hw : ∀ d ∈ tables_1, d.before a0 Z = true) (n0 : Nat) (ws : List Jvm.Cond) (lv b0 b1 b2 b3 : Int32) :
    Meth l Z a0 ws (⟨"org/glasspane/ZlibStream", "putHeader", "(I[BI)V"⟩ : MethodName) prog_62_method_9_code 5 none ({ frames := 0, cells := 0, slots := 0, locals := 0 } : Room) 0 0 n0 #[.int lv, .ref (ad n0 0), .int (2 : Int32)] ([.inr (.byte, [.int b0, .int b1, .int b2, .int b3])] : AHeap) (fun r A' => r = none ∧ A' = ([.inr (.byte, [.int b0, .int b1, .int (120 : Int32), .int (own_hdr2 lv)])] : AHeap)) := by
  refine Meth.of own_pn3 (Ls := [.val (.int lv), .val (.ref (ad n0 0)), .val (.int (2 : Int32)), .unset, .unset]) (fun m => by first | (simp [entryFrame, mkF, argsToLocals, Value.category, maxLocals]; done) | rfl) ?_
  intro K G
  have he : own_hdr2 lv = own_hdr2 lv := rfl
  refine G.iloadN d1_0 rfl ?_
  refine G.iconst (2) d1_1 rfl ?_
  refine G.icmp_ge 9 d1_2 (by decide) rfl (fun h2 => ?_) (fun h2 => ?_)
  · replace he := he.trans (if_neg h2)
    refine G.iloadN d1_9 rfl ?_
    refine G.bipush (6) d1_10 rfl ?_
    refine G.icmp_ge 19 d1_12 (by decide) rfl (fun h12 => ?_) (fun h12 => ?_)
    · replace he := he.trans (if_neg h12)
      refine G.iloadN d1_19 rfl ?_
      refine G.bipush (6) d1_20 rfl ?_
      refine G.icmp_ne 29 d1_22 (by decide) rfl (fun h22 => ?_) (fun h22 => ?_)
      · replace he := he.trans (if_neg h22)
        refine G.iconst (3) d1_29 rfl ?_
        refine G.istoreN3 d1_30 rfl ?_
        refine G.iloadN d1_31 rfl ?_
        refine G.bipush (6) d1_32 rfl ?_
        refine G.ishl d1_34 ?_
        refine G.istore4 d1_35 rfl ?_
        refine G.aloadN d1_37 rfl rfl ?_
        refine G.iloadN d1_38 rfl ?_
        refine G.bipush (120) d1_39 rfl ?_
        refine G.bast (2) d1_41 rfl (by decide) (Nat.le_of_ble_eq_true rfl) (x8 := 120) rfl rfl ?_
        try simp only [List.set_cons_zero, List.set_cons_succ, List.length_cons, List.length_nil, List.nil_append, List.cons_append, Nat.zero_add, Nat.reduceAdd]
        refine G.aloadN d1_42 rfl rfl ?_
        refine G.iloadN d1_43 rfl ?_
        refine G.iconst (1) d1_44 rfl ?_
        refine G.iadd d1_45 ?_
        refine G.iload d1_46 rfl ?_
        refine G.bipush (31) d1_48 rfl ?_
        refine G.iadd d1_50 ?_
        refine G.sipush (30720) d1_51 rfl ?_
        refine G.iload d1_54 rfl ?_
        refine G.ior d1_56 ?_
        refine G.bipush (31) d1_57 rfl ?_
        refine G.irem d1_59 (by decide) ?_
        refine G.isub d1_60 ?_
        refine G.i2b d1_61 ?_
        refine G.bast (3) d1_62 rfl (by decide) (Nat.le_of_ble_eq_true rfl) rfl (fits_nar_byte _) ?_
        try simp only [List.set_cons_zero, List.set_cons_succ, List.length_cons, List.length_nil, List.nil_append, List.cons_append, Nat.zero_add, Nat.reduceAdd]
        exact G.vreturn rfl d1_63 (Nat.le_of_ble_eq_true rfl) (Nat.le_of_ble_eq_true rfl) ⟨rfl, by rw [he]⟩
      · replace he := he.trans (if_pos h22)
        refine G.iconst (2) d1_25 rfl ?_
        refine G.goto 30 d1_26 (by decide) rfl ?_
        refine G.istoreN3 d1_30 rfl ?_
        refine G.iloadN d1_31 rfl ?_
        refine G.bipush (6) d1_32 rfl ?_
        refine G.ishl d1_34 ?_
        refine G.istore4 d1_35 rfl ?_
        refine G.aloadN d1_37 rfl rfl ?_
        refine G.iloadN d1_38 rfl ?_
        refine G.bipush (120) d1_39 rfl ?_
        refine G.bast (2) d1_41 rfl (by decide) (Nat.le_of_ble_eq_true rfl) (x8 := 120) rfl rfl ?_
        try simp only [List.set_cons_zero, List.set_cons_succ, List.length_cons, List.length_nil, List.nil_append, List.cons_append, Nat.zero_add, Nat.reduceAdd]
        refine G.aloadN d1_42 rfl rfl ?_
        refine G.iloadN d1_43 rfl ?_
        refine G.iconst (1) d1_44 rfl ?_
        refine G.iadd d1_45 ?_
        refine G.iload d1_46 rfl ?_
        refine G.bipush (31) d1_48 rfl ?_
        refine G.iadd d1_50 ?_
        refine G.sipush (30720) d1_51 rfl ?_
        refine G.iload d1_54 rfl ?_
        refine G.ior d1_56 ?_
        refine G.bipush (31) d1_57 rfl ?_
        refine G.irem d1_59 (by decide) ?_
        refine G.isub d1_60 ?_
        refine G.i2b d1_61 ?_
        refine G.bast (3) d1_62 rfl (by decide) (Nat.le_of_ble_eq_true rfl) rfl (fits_nar_byte _) ?_
        try simp only [List.set_cons_zero, List.set_cons_succ, List.length_cons, List.length_nil, List.nil_append, List.cons_append, Nat.zero_add, Nat.reduceAdd]
        exact G.vreturn rfl d1_63 (Nat.le_of_ble_eq_true rfl) (Nat.le_of_ble_eq_true rfl) ⟨rfl, by rw [he]⟩
    · replace he := he.trans (if_pos h12)
      refine G.iconst (1) d1_15 rfl ?_
      refine G.goto 30 d1_16 (by decide) rfl ?_
      refine G.istoreN3 d1_30 rfl ?_
      refine G.iloadN d1_31 rfl ?_
      refine G.bipush (6) d1_32 rfl ?_
      refine G.ishl d1_34 ?_
      refine G.istore4 d1_35 rfl ?_
      refine G.aloadN d1_37 rfl rfl ?_
      refine G.iloadN d1_38 rfl ?_
      refine G.bipush (120) d1_39 rfl ?_
      refine G.bast (2) d1_41 rfl (by decide) (Nat.le_of_ble_eq_true rfl) (x8 := 120) rfl rfl ?_
      try simp only [List.set_cons_zero, List.set_cons_succ, List.length_cons, List.length_nil, List.nil_append, List.cons_append, Nat.zero_add, Nat.reduceAdd]
      refine G.aloadN d1_42 rfl rfl ?_
      refine G.iloadN d1_43 rfl ?_
      refine G.iconst (1) d1_44 rfl ?_
      refine G.iadd d1_45 ?_
      refine G.iload d1_46 rfl ?_
      refine G.bipush (31) d1_48 rfl ?_
      refine G.iadd d1_50 ?_
      refine G.sipush (30720) d1_51 rfl ?_
      refine G.iload d1_54 rfl ?_
      refine G.ior d1_56 ?_
      refine G.bipush (31) d1_57 rfl ?_
      refine G.irem d1_59 (by decide) ?_
      refine G.isub d1_60 ?_
      refine G.i2b d1_61 ?_
      refine G.bast (3) d1_62 rfl (by decide) (Nat.le_of_ble_eq_true rfl) rfl (fits_nar_byte _) ?_
      try simp only [List.set_cons_zero, List.set_cons_succ, List.length_cons, List.length_nil, List.nil_append, List.cons_append, Nat.zero_add, Nat.reduceAdd]
      exact G.vreturn rfl d1_63 (Nat.le_of_ble_eq_true rfl) (Nat.le_of_ble_eq_true rfl) ⟨rfl, by rw [he]⟩
  · replace he := he.trans (if_pos h2)
    refine G.iconst (0) d1_5 rfl ?_
    refine G.goto 30 d1_6 (by decide) rfl ?_
    refine G.istoreN3 d1_30 rfl ?_
    refine G.iloadN d1_31 rfl ?_
    refine G.bipush (6) d1_32 rfl ?_
    refine G.ishl d1_34 ?_
    refine G.istore4 d1_35 rfl ?_
    refine G.aloadN d1_37 rfl rfl ?_
    refine G.iloadN d1_38 rfl ?_
    refine G.bipush (120) d1_39 rfl ?_
    refine G.bast (2) d1_41 rfl (by decide) (Nat.le_of_ble_eq_true rfl) (x8 := 120) rfl rfl ?_
    try simp only [List.set_cons_zero, List.set_cons_succ, List.length_cons, List.length_nil, List.nil_append, List.cons_append, Nat.zero_add, Nat.reduceAdd]
    refine G.aloadN d1_42 rfl rfl ?_
    refine G.iloadN d1_43 rfl ?_
    refine G.iconst (1) d1_44 rfl ?_
    refine G.iadd d1_45 ?_
    refine G.iload d1_46 rfl ?_
    refine G.bipush (31) d1_48 rfl ?_
    refine G.iadd d1_50 ?_
    refine G.sipush (30720) d1_51 rfl ?_
    refine G.iload d1_54 rfl ?_
    refine G.ior d1_56 ?_
    refine G.bipush (31) d1_57 rfl ?_
    refine G.irem d1_59 (by decide) ?_
    refine G.isub d1_60 ?_
    refine G.i2b d1_61 ?_
    refine G.bast (3) d1_62 rfl (by decide) (Nat.le_of_ble_eq_true rfl) rfl (fits_nar_byte _) ?_
    try simp only [List.set_cons_zero, List.set_cons_succ, List.length_cons, List.length_nil, List.nil_append, List.cons_append, Nat.zero_add, Nat.reduceAdd]
    exact G.vreturn rfl d1_63 (Nat.le_of_ble_eq_true rfl) (Nat.le_of_ble_eq_true rfl) ⟨rfl, by rw [he]⟩
theorem d2_0 : decode method_2_code 0 = .ok (.iload_n 0, 1) := by decide +kernel
theorem d2_1 : decode method_2_code 1 = .ok (.iconst 2, 1) := by decide +kernel
theorem d2_2 : decode method_2_code 2 = .ok (.if_icmp .ge 5, 3) := by decide +kernel
theorem d2_5 : decode method_2_code 5 = .ok (.iconst 1, 1) := by decide +kernel
theorem d2_6 : decode method_2_code 6 = .ok (.ireturn, 1) := by decide +kernel
theorem d2_7 : decode method_2_code 7 = .ok (.iload_n 0, 1) := by decide +kernel
theorem d2_8 : decode method_2_code 8 = .ok (.bipush 6, 2) := by decide +kernel
theorem d2_10 : decode method_2_code 10 = .ok (.if_icmp .ge 6, 3) := by decide +kernel
theorem d2_13 : decode method_2_code 13 = .ok (.bipush 94, 2) := by decide +kernel
theorem d2_15 : decode method_2_code 15 = .ok (.ireturn, 1) := by decide +kernel
theorem d2_16 : decode method_2_code 16 = .ok (.iload_n 0, 1) := by decide +kernel
theorem d2_17 : decode method_2_code 17 = .ok (.bipush 6, 2) := by decide +kernel
theorem d2_19 : decode method_2_code 19 = .ok (.if_icmp .ne 7, 3) := by decide +kernel
theorem d2_22 : decode method_2_code 22 = .ok (.sipush 156, 3) := by decide +kernel
theorem d2_25 : decode method_2_code 25 = .ok (.ireturn, 1) := by decide +kernel
theorem d2_26 : decode method_2_code 26 = .ok (.sipush 218, 3) := by decide +kernel
theorem d2_29 : decode method_2_code 29 = .ok (.ireturn, 1) := by decide +kernel
def own_flg (x0 : Int32) : Int32 := (if x0 < (2 : Int32) then (1 : Int32) else (if x0 < (6 : Int32) then (94 : Int32) else (if x0 = (6 : Int32) then (156 : Int32) else (218 : Int32))))
theorem own_pn4 : plainName "org/glasspane/ZlibStreamPutHeaderPinLaw" = true := by first | (simp [plainName, overriddenIn]; done) | decide +kernel
set_option maxRecDepth 65536 in
set_option maxHeartbeats 40000000 in
theorem m_2 (l : Launch) (Z : State) (a0 : Array Value) (hw : ∀ d ∈ tables_1, d.before a0 Z = true) (n0 : Nat) (ws : List Jvm.Cond) (x0 : Int32) (A : AHeap) :
    Meth l Z a0 ws (⟨"org/glasspane/ZlibStreamPutHeaderPinLaw", "expectedFlg", "(I)I"⟩ : MethodName) method_2_code 1 (some (.int)) ({ frames := 0, cells := 0, slots := 0, locals := 0 } : Room) 0 0 n0 #[.int x0] A (fun r A' => r = some (.int (own_flg x0)) ∧ A' = A) := by
  refine Meth.of own_pn4 (Ls := [.val (.int x0)]) (fun m => by first | (simp [entryFrame, mkF, argsToLocals, Value.category, maxLocals]; done) | rfl) ?_
  intro K G
  have he : own_flg x0 = own_flg x0 := rfl
  refine G.iloadN d2_0 rfl ?_
  refine G.iconst (2) d2_1 rfl ?_
  refine G.icmp_ge 7 d2_2 (by decide) rfl (fun h2 => ?_) (fun h2 => ?_)
  · replace he := he.trans (if_neg h2)
    refine G.iloadN d2_7 rfl ?_
    refine G.bipush (6) d2_8 rfl ?_
    refine G.icmp_ge 16 d2_10 (by decide) rfl (fun h10 => ?_) (fun h10 => ?_)
    · replace he := he.trans (if_neg h10)
      refine G.iloadN d2_16 rfl ?_
      refine G.bipush (6) d2_17 rfl ?_
      refine G.icmp_ne 26 d2_19 (by decide) rfl (fun h19 => ?_) (fun h19 => ?_)
      · replace he := he.trans (if_neg h19)
        refine G.sipush (218) d2_26 rfl ?_
        exact G.ireturn rfl d2_29 (Nat.le_of_ble_eq_true rfl) (Nat.le_of_ble_eq_true rfl) ⟨congrArg (fun z => some (Value.int z)) he.symm, rfl⟩
      · replace he := he.trans (if_pos h19)
        refine G.sipush (156) d2_22 rfl ?_
        exact G.ireturn rfl d2_25 (Nat.le_of_ble_eq_true rfl) (Nat.le_of_ble_eq_true rfl) ⟨congrArg (fun z => some (Value.int z)) he.symm, rfl⟩
    · replace he := he.trans (if_pos h10)
      refine G.bipush (94) d2_13 rfl ?_
      exact G.ireturn rfl d2_15 (Nat.le_of_ble_eq_true rfl) (Nat.le_of_ble_eq_true rfl) ⟨congrArg (fun z => some (Value.int z)) he.symm, rfl⟩
  · replace he := he.trans (if_pos h2)
    refine G.iconst (1) d2_5 rfl ?_
    exact G.ireturn rfl d2_6 (Nat.le_of_ble_eq_true rfl) (Nat.le_of_ble_eq_true rfl) ⟨congrArg (fun z => some (Value.int z)) he.symm, rfl⟩
theorem d3_0 : decode method_3_code 0 = .ok (.iload_n 0, 1) := by decide +kernel
theorem d3_1 : decode method_3_code 1 = .ok (.iload_n 1, 1) := by decide +kernel
theorem d3_2 : decode method_3_code 2 = .ok (.if_icmp .ne 6, 3) := by decide +kernel
theorem d3_5 : decode method_3_code 5 = .ok (.bipush 120, 2) := by decide +kernel
theorem d3_7 : decode method_3_code 7 = .ok (.ireturn, 1) := by decide +kernel
theorem d3_8 : decode method_3_code 8 = .ok (.iload_n 0, 1) := by decide +kernel
theorem d3_9 : decode method_3_code 9 = .ok (.iload_n 1, 1) := by decide +kernel
theorem d3_10 : decode method_3_code 10 = .ok (.iconst 1, 1) := by decide +kernel
theorem d3_11 : decode method_3_code 11 = .ok (.iadd, 1) := by decide +kernel
theorem d3_12 : decode method_3_code 12 = .ok (.if_icmp .ne 6, 3) := by decide +kernel
theorem d3_15 : decode method_3_code 15 = .ok (.iload_n 2, 1) := by decide +kernel
theorem d3_16 : decode method_3_code 16 = .ok (.i2b, 1) := by decide +kernel
theorem d3_17 : decode method_3_code 17 = .ok (.ireturn, 1) := by decide +kernel
theorem d3_18 : decode method_3_code 18 = .ok (.iload_n 3, 1) := by decide +kernel
theorem d3_19 : decode method_3_code 19 = .ok (.ireturn, 1) := by decide +kernel
def own_at (x0 : Int32) (x1 : Int32) (x2 : Int32) (x3 : Int32) : Int32 := (if x0 = x1 then (120 : Int32) else (if x0 = (x1 + (1 : Int32)) then (x2.toInt8.toInt32) else x3))
set_option maxRecDepth 65536 in
set_option maxHeartbeats 40000000 in
theorem m_3 (l : Launch) (Z : State) (a0 : Array Value) (hw : ∀ d ∈ tables_1, d.before a0 Z = true) (n0 : Nat) (ws : List Jvm.Cond) (x0 : Int32) (x1 : Int32) (x2 : Int32) (x3 : Int32) (A : AHeap) :
    Meth l Z a0 ws (⟨"org/glasspane/ZlibStreamPutHeaderPinLaw", "expectedAt", "(IIII)I"⟩ : MethodName) method_3_code 4 (some (.int)) ({ frames := 0, cells := 0, slots := 0, locals := 0 } : Room) 0 0 n0 #[.int x0, .int x1, .int x2, .int x3] A (fun r A' => r = some (.int (own_at x0 x1 x2 x3)) ∧ A' = A) := by
  refine Meth.of own_pn4 (Ls := [.val (.int x0), .val (.int x1), .val (.int x2), .val (.int x3)]) (fun m => by first | (simp [entryFrame, mkF, argsToLocals, Value.category, maxLocals]; done) | rfl) ?_
  intro K G
  have he : own_at x0 x1 x2 x3 = own_at x0 x1 x2 x3 := rfl
  refine G.iloadN d3_0 rfl ?_
  refine G.iloadN d3_1 rfl ?_
  refine G.icmp_ne 8 d3_2 (by decide) rfl (fun h2 => ?_) (fun h2 => ?_)
  · replace he := he.trans (if_neg h2)
    refine G.iloadN d3_8 rfl ?_
    refine G.iloadN d3_9 rfl ?_
    refine G.iconst (1) d3_10 rfl ?_
    refine G.iadd d3_11 ?_
    refine G.icmp_ne 18 d3_12 (by decide) rfl (fun h12 => ?_) (fun h12 => ?_)
    · replace he := he.trans (if_neg h12)
      refine G.iloadN d3_18 rfl ?_
      exact G.ireturn rfl d3_19 (Nat.le_of_ble_eq_true rfl) (Nat.le_of_ble_eq_true rfl) ⟨congrArg (fun z => some (Value.int z)) he.symm, rfl⟩
    · replace he := he.trans (if_pos h12)
      refine G.iloadN d3_15 rfl ?_
      refine G.i2b d3_16 ?_
      exact G.ireturn rfl d3_17 (Nat.le_of_ble_eq_true rfl) (Nat.le_of_ble_eq_true rfl) ⟨congrArg (fun z => some (Value.int z)) he.symm, rfl⟩
  · replace he := he.trans (if_pos h2)
    refine G.bipush (120) d3_5 rfl ?_
    exact G.ireturn rfl d3_7 (Nat.le_of_ble_eq_true rfl) (Nat.le_of_ble_eq_true rfl) ⟨congrArg (fun z => some (Value.int z)) he.symm, rfl⟩
theorem own_three (x : Int32) : ((x &&& 2147483647) % 3) = 0 ∨ ((x &&& 2147483647) % 3) = 1 ∨ ((x &&& 2147483647) % 3) = 2 := by
  have m : (x &&& 2147483647).toInt = x.toInt % 2 ^ 31 := Jvm.Kit.i32_mask x 2147483647 (k := 31) (by decide) (by decide)
  have r : ((x &&& 2147483647) % 3).toInt = (x &&& 2147483647).toInt % (3 : Int32).toInt := Jvm.Kit.i32_rem_nonneg (by omega)
  have f : (3 : Int32).toInt = 3 := by decide
  rw [f] at r
  have e0 : (0 : Int32).toInt = 0 := by decide
  have e1 : (1 : Int32).toInt = 1 := by decide
  have e2 : (2 : Int32).toInt = 2 := by decide
  rw [← Int32.toInt_inj, ← Int32.toInt_inj, ← Int32.toInt_inj]
  omega
def own_law_186 (l0 : Int32) (l1 : Int32) (l2 : Int32) (l3 : Int32) (l4 : Int32) (l5 : Int32) (l6 : Int32) (l7 : Int32) (l8 : Int32) (l9 : Int32) (l10 : Int32) (l11 : Int32) (l12 : Int32) (l13 : Int32) (l14 : Int32) (l15 : Int32) (l16 : Int32) (l17 : Int32) : Int32 := (if l10 = (0 : Int32) then (0 : Int32) else (if l11 = (0 : Int32) then (0 : Int32) else (if l12 = (0 : Int32) then (0 : Int32) else (if l13 = (0 : Int32) then (0 : Int32) else (1 : Int32)))))
def own_law_162 (l0 : Int32) (l1 : Int32) (l2 : Int32) (l3 : Int32) (l4 : Int32) (l5 : Int32) (l6 : Int32) (l7 : Int32) (l8 : Int32) (l9 : Int32) (l10 : Int32) (l11 : Int32) (l12 : Int32) (l13 : Int32) (l14 : Int32) (l15 : Int32) (l16 : Int32) : Int32 := (if l16 = (own_at (3 : Int32) l4 l9 l8) then own_law_186 l0 l1 l2 l3 l4 l5 l6 l7 l8 l9 l10 l11 l12 (1 : Int32) l13 l14 l15 l16 else own_law_186 l0 l1 l2 l3 l4 l5 l6 l7 l8 l9 l10 l11 l12 (0 : Int32) l13 l14 l15 l16)
def own_law_138 (l0 : Int32) (l1 : Int32) (l2 : Int32) (l3 : Int32) (l4 : Int32) (l5 : Int32) (l6 : Int32) (l7 : Int32) (l8 : Int32) (l9 : Int32) (l10 : Int32) (l11 : Int32) (l12 : Int32) (l13 : Int32) (l14 : Int32) (l15 : Int32) : Int32 := (if l14 = (own_at (2 : Int32) l4 l9 l7) then own_law_162 l0 l1 l2 l3 l4 l5 l6 l7 l8 l9 l10 l11 (1 : Int32) l12 l13 l14 l15 else own_law_162 l0 l1 l2 l3 l4 l5 l6 l7 l8 l9 l10 l11 (0 : Int32) l12 l13 l14 l15)
def own_law_114 (l0 : Int32) (l1 : Int32) (l2 : Int32) (l3 : Int32) (l4 : Int32) (l5 : Int32) (l6 : Int32) (l7 : Int32) (l8 : Int32) (l9 : Int32) (l10 : Int32) (l11 : Int32) (l12 : Int32) (l13 : Int32) (l14 : Int32) : Int32 := (if l12 = (own_at (1 : Int32) l4 l9 l6) then own_law_138 l0 l1 l2 l3 l4 l5 l6 l7 l8 l9 l10 (1 : Int32) l11 l12 l13 l14 else own_law_138 l0 l1 l2 l3 l4 l5 l6 l7 l8 l9 l10 (0 : Int32) l11 l12 l13 l14)
def own_law_16 (l0 : Int32) (l1 : Int32) (l2 : Int32) (l3 : Int32) (l4 : Int32) : Int32 := (if l4 = (0 : Int32) then (if (120 : Int32) = (own_at (0 : Int32) (0 : Int32) (own_flg l3) (nar .byte (l2.toInt8.toInt32))) then own_law_114 l0 l1 l2 l3 (0 : Int32) (nar .byte (l2.toInt8.toInt32)) (nar .byte ((l2 >>> ((8 : Int32) &&& 31)).toInt8.toInt32)) (nar .byte ((l2 >>> ((16 : Int32) &&& 31)).toInt8.toInt32)) (nar .byte ((l2 >>> ((24 : Int32) &&& 31)).toInt8.toInt32)) (own_flg l3) (1 : Int32) (120 : Int32) (own_hdr0 l3) (nar .byte ((l2 >>> ((16 : Int32) &&& 31)).toInt8.toInt32)) (nar .byte ((l2 >>> ((24 : Int32) &&& 31)).toInt8.toInt32)) else own_law_114 l0 l1 l2 l3 (0 : Int32) (nar .byte (l2.toInt8.toInt32)) (nar .byte ((l2 >>> ((8 : Int32) &&& 31)).toInt8.toInt32)) (nar .byte ((l2 >>> ((16 : Int32) &&& 31)).toInt8.toInt32)) (nar .byte ((l2 >>> ((24 : Int32) &&& 31)).toInt8.toInt32)) (own_flg l3) (0 : Int32) (120 : Int32) (own_hdr0 l3) (nar .byte ((l2 >>> ((16 : Int32) &&& 31)).toInt8.toInt32)) (nar .byte ((l2 >>> ((24 : Int32) &&& 31)).toInt8.toInt32))) else (if l4 = (1 : Int32) then (if (nar .byte (l2.toInt8.toInt32)) = (own_at (0 : Int32) (1 : Int32) (own_flg l3) (nar .byte (l2.toInt8.toInt32))) then own_law_114 l0 l1 l2 l3 (1 : Int32) (nar .byte (l2.toInt8.toInt32)) (nar .byte ((l2 >>> ((8 : Int32) &&& 31)).toInt8.toInt32)) (nar .byte ((l2 >>> ((16 : Int32) &&& 31)).toInt8.toInt32)) (nar .byte ((l2 >>> ((24 : Int32) &&& 31)).toInt8.toInt32)) (own_flg l3) (1 : Int32) (nar .byte (l2.toInt8.toInt32)) (120 : Int32) (own_hdr1 l3) (nar .byte ((l2 >>> ((24 : Int32) &&& 31)).toInt8.toInt32)) else own_law_114 l0 l1 l2 l3 (1 : Int32) (nar .byte (l2.toInt8.toInt32)) (nar .byte ((l2 >>> ((8 : Int32) &&& 31)).toInt8.toInt32)) (nar .byte ((l2 >>> ((16 : Int32) &&& 31)).toInt8.toInt32)) (nar .byte ((l2 >>> ((24 : Int32) &&& 31)).toInt8.toInt32)) (own_flg l3) (0 : Int32) (nar .byte (l2.toInt8.toInt32)) (120 : Int32) (own_hdr1 l3) (nar .byte ((l2 >>> ((24 : Int32) &&& 31)).toInt8.toInt32))) else (if (nar .byte (l2.toInt8.toInt32)) = (own_at (0 : Int32) (2 : Int32) (own_flg l3) (nar .byte (l2.toInt8.toInt32))) then own_law_114 l0 l1 l2 l3 (2 : Int32) (nar .byte (l2.toInt8.toInt32)) (nar .byte ((l2 >>> ((8 : Int32) &&& 31)).toInt8.toInt32)) (nar .byte ((l2 >>> ((16 : Int32) &&& 31)).toInt8.toInt32)) (nar .byte ((l2 >>> ((24 : Int32) &&& 31)).toInt8.toInt32)) (own_flg l3) (1 : Int32) (nar .byte (l2.toInt8.toInt32)) (nar .byte ((l2 >>> ((8 : Int32) &&& 31)).toInt8.toInt32)) (120 : Int32) (own_hdr2 l3) else own_law_114 l0 l1 l2 l3 (2 : Int32) (nar .byte (l2.toInt8.toInt32)) (nar .byte ((l2 >>> ((8 : Int32) &&& 31)).toInt8.toInt32)) (nar .byte ((l2 >>> ((16 : Int32) &&& 31)).toInt8.toInt32)) (nar .byte ((l2 >>> ((24 : Int32) &&& 31)).toInt8.toInt32)) (own_flg l3) (0 : Int32) (nar .byte (l2.toInt8.toInt32)) (nar .byte ((l2 >>> ((8 : Int32) &&& 31)).toInt8.toInt32)) (120 : Int32) (own_hdr2 l3))))
def own_law (x0 : Int32) (x1 : Int32) (x2 : Int32) : Int32 := own_law_16 x0 x1 x2 ((x0 &&& (2147483647 : Int32)) % (10 : Int32)) ((x1 &&& (2147483647 : Int32)) % (3 : Int32))
set_option maxRecDepth 65536 in
set_option maxHeartbeats 40000000 in
theorem m_0 (l : Launch) (Z : State) (a0 : Array Value) (hw : ∀ d ∈ tables_1, d.before a0 Z = true) (n0 : Nat) (ws : List Jvm.Cond) (x0 : Int32) (x1 : Int32) (x2 : Int32)  :
    Meth l Z a0 ws x code maxLocals ret room_1 16 128 n0 #[.int x0, .int x1, .int x2] ([] : AHeap) (fun r A' => r = some (.int (own_law x0 x1 x2)) ∧ True) := by
  refine Meth.of own_pn4 (Ls := [.val (.int x0), .val (.int x1), .val (.int x2), .unset, .unset, .unset, .unset, .unset, .unset, .unset, .unset, .unset, .unset, .unset, .unset]) (fun m => by first | (simp [entryFrame, mkF, argsToLocals, Value.category, maxLocals]; done) | rfl) ?_
  intro K G
  have J186 : ∀ (l0 : Int32) (l1 : Int32) (l2 : Int32) (l3 : Int32) (l4 : Int32) (l5 : Int32) (l6 : Int32) (l7 : Int32) (l8 : Int32) (l9 : Int32) (l10 : Int32) (l11 : Int32) (l12 : Int32) (l13 : Int32) (l14 : Int32) (l15 : Int32) (l16 : Int32) (l17 : Int32), own_law x0 x1 x2 = own_law_186 l0 l1 l2 l3 l4 l5 l6 l7 l8 l9 l10 l11 l12 l13 l14 l15 l16 l17 → K 186 [.val (.int l0), .val (.int l1), .val (.int l2), .val (.int l3), .val (.int l4), .val (.ref (ad n0 0)), .val (.int l5), .val (.int l6), .val (.int l7), .val (.int l8), .val (.int l9), .val (.int l10), .val (.int l11), .val (.int l12), .unset] [.int l13] ([.inr (.byte, [.int l14, .int l15, .int l16, .int l17])] : AHeap) 1 4 := by
    intro l0 l1 l2 l3 l4 l5 l6 l7 l8 l9 l10 l11 l12 l13 l14 l15 l16 l17 he
    refine G.istore14 at_186 rfl ?_
    refine G.iload at_188 rfl ?_
    refine G.if_eq 212 at_190 (by decide) rfl (fun h190 => ?_) (fun h190 => ?_)
    · replace he := he.trans (if_pos h190)
      refine G.iconst (0) at_212 rfl ?_
      exact G.zreturn rfl at_213 rfl (Nat.le_of_ble_eq_true rfl) (Nat.le_of_ble_eq_true rfl) ⟨congrArg (fun z => some (Value.int z)) he.symm, trivial⟩
    · replace he := he.trans (if_neg h190)
      refine G.iload at_193 rfl ?_
      refine G.if_eq 212 at_195 (by decide) rfl (fun h195 => ?_) (fun h195 => ?_)
      · replace he := he.trans (if_pos h195)
        refine G.iconst (0) at_212 rfl ?_
        exact G.zreturn rfl at_213 rfl (Nat.le_of_ble_eq_true rfl) (Nat.le_of_ble_eq_true rfl) ⟨congrArg (fun z => some (Value.int z)) he.symm, trivial⟩
      · replace he := he.trans (if_neg h195)
        refine G.iload at_198 rfl ?_
        refine G.if_eq 212 at_200 (by decide) rfl (fun h200 => ?_) (fun h200 => ?_)
        · replace he := he.trans (if_pos h200)
          refine G.iconst (0) at_212 rfl ?_
          exact G.zreturn rfl at_213 rfl (Nat.le_of_ble_eq_true rfl) (Nat.le_of_ble_eq_true rfl) ⟨congrArg (fun z => some (Value.int z)) he.symm, trivial⟩
        · replace he := he.trans (if_neg h200)
          refine G.iload at_203 rfl ?_
          refine G.if_eq 212 at_205 (by decide) rfl (fun h205 => ?_) (fun h205 => ?_)
          · replace he := he.trans (if_pos h205)
            refine G.iconst (0) at_212 rfl ?_
            exact G.zreturn rfl at_213 rfl (Nat.le_of_ble_eq_true rfl) (Nat.le_of_ble_eq_true rfl) ⟨congrArg (fun z => some (Value.int z)) he.symm, trivial⟩
          · replace he := he.trans (if_neg h205)
            refine G.iconst (1) at_208 rfl ?_
            refine G.goto 213 at_209 (by decide) rfl ?_
            exact G.zreturn rfl at_213 rfl (Nat.le_of_ble_eq_true rfl) (Nat.le_of_ble_eq_true rfl) ⟨congrArg (fun z => some (Value.int z)) he.symm, trivial⟩
  have J162 : ∀ (l0 : Int32) (l1 : Int32) (l2 : Int32) (l3 : Int32) (l4 : Int32) (l5 : Int32) (l6 : Int32) (l7 : Int32) (l8 : Int32) (l9 : Int32) (l10 : Int32) (l11 : Int32) (l12 : Int32) (l13 : Int32) (l14 : Int32) (l15 : Int32) (l16 : Int32), own_law x0 x1 x2 = own_law_162 l0 l1 l2 l3 l4 l5 l6 l7 l8 l9 l10 l11 l12 l13 l14 l15 l16 → K 162 [.val (.int l0), .val (.int l1), .val (.int l2), .val (.int l3), .val (.int l4), .val (.ref (ad n0 0)), .val (.int l5), .val (.int l6), .val (.int l7), .val (.int l8), .val (.int l9), .val (.int l10), .val (.int l11), .unset, .unset] [.int l12] ([.inr (.byte, [.int l13, .int l14, .int l15, .int l16])] : AHeap) 1 4 := by
    intro l0 l1 l2 l3 l4 l5 l6 l7 l8 l9 l10 l11 l12 l13 l14 l15 l16 he
    refine G.istore13 at_162 rfl ?_
    refine G.aload at_164 rfl rfl ?_
    refine G.iconst (3) at_166 rfl ?_
    refine G.bald (3) at_167 rfl (by decide) rfl ?_
    refine G.iconst (3) at_168 rfl ?_
    refine G.iload at_169 rfl ?_
    refine G.iload at_171 rfl ?_
    refine G.iload at_173 rfl ?_
    refine G.scall [_, _, _, _] rfl at_175 (hw _ (List.mem_of_getElem? (i := 10) rfl)) (hw _ (List.mem_of_getElem? (i := 11) rfl)) (hw _ (List.mem_of_getElem? (i := 8) rfl)) (hw _ (List.mem_of_getElem? (i := 12) rfl)) (by decide) (m_3 l Z a0 hw n0 [] _ _ _ _ _) own_pd2 rfl rfl (Nat.le_of_ble_eq_true rfl) (Nat.le_of_ble_eq_true rfl) (Nat.le_of_ble_eq_true rfl) (Nat.le_of_ble_eq_true rfl) (by rintro _ _ ⟨rfl, rfl⟩; rfl) ?_
    rintro _ _ ⟨rfl, rfl⟩
    refine G.icmp_ne 185 at_178 (by decide) rfl (fun h178 => ?_) (fun h178 => ?_)
    · replace he := he.trans (if_neg h178)
      refine G.iconst (0) at_185 rfl ?_
      exact J186 _ _ _ _ _ _ _ _ _ _ _ _ _ _ _ _ _ _ he
    · replace he := he.trans (if_pos h178)
      refine G.iconst (1) at_181 rfl ?_
      refine G.goto 186 at_182 (by decide) rfl ?_
      exact J186 _ _ _ _ _ _ _ _ _ _ _ _ _ _ _ _ _ _ he
  have J138 : ∀ (l0 : Int32) (l1 : Int32) (l2 : Int32) (l3 : Int32) (l4 : Int32) (l5 : Int32) (l6 : Int32) (l7 : Int32) (l8 : Int32) (l9 : Int32) (l10 : Int32) (l11 : Int32) (l12 : Int32) (l13 : Int32) (l14 : Int32) (l15 : Int32), own_law x0 x1 x2 = own_law_138 l0 l1 l2 l3 l4 l5 l6 l7 l8 l9 l10 l11 l12 l13 l14 l15 → K 138 [.val (.int l0), .val (.int l1), .val (.int l2), .val (.int l3), .val (.int l4), .val (.ref (ad n0 0)), .val (.int l5), .val (.int l6), .val (.int l7), .val (.int l8), .val (.int l9), .val (.int l10), .unset, .unset, .unset] [.int l11] ([.inr (.byte, [.int l12, .int l13, .int l14, .int l15])] : AHeap) 1 4 := by
    intro l0 l1 l2 l3 l4 l5 l6 l7 l8 l9 l10 l11 l12 l13 l14 l15 he
    refine G.istore12 at_138 rfl ?_
    refine G.aload at_140 rfl rfl ?_
    refine G.iconst (2) at_142 rfl ?_
    refine G.bald (2) at_143 rfl (by decide) rfl ?_
    refine G.iconst (2) at_144 rfl ?_
    refine G.iload at_145 rfl ?_
    refine G.iload at_147 rfl ?_
    refine G.iload at_149 rfl ?_
    refine G.scall [_, _, _, _] rfl at_151 (hw _ (List.mem_of_getElem? (i := 10) rfl)) (hw _ (List.mem_of_getElem? (i := 11) rfl)) (hw _ (List.mem_of_getElem? (i := 8) rfl)) (hw _ (List.mem_of_getElem? (i := 12) rfl)) (by decide) (m_3 l Z a0 hw n0 [] _ _ _ _ _) own_pd2 rfl rfl (Nat.le_of_ble_eq_true rfl) (Nat.le_of_ble_eq_true rfl) (Nat.le_of_ble_eq_true rfl) (Nat.le_of_ble_eq_true rfl) (by rintro _ _ ⟨rfl, rfl⟩; rfl) ?_
    rintro _ _ ⟨rfl, rfl⟩
    refine G.icmp_ne 161 at_154 (by decide) rfl (fun h154 => ?_) (fun h154 => ?_)
    · replace he := he.trans (if_neg h154)
      refine G.iconst (0) at_161 rfl ?_
      exact J162 _ _ _ _ _ _ _ _ _ _ _ _ _ _ _ _ _ he
    · replace he := he.trans (if_pos h154)
      refine G.iconst (1) at_157 rfl ?_
      refine G.goto 162 at_158 (by decide) rfl ?_
      exact J162 _ _ _ _ _ _ _ _ _ _ _ _ _ _ _ _ _ he
  have J114 : ∀ (l0 : Int32) (l1 : Int32) (l2 : Int32) (l3 : Int32) (l4 : Int32) (l5 : Int32) (l6 : Int32) (l7 : Int32) (l8 : Int32) (l9 : Int32) (l10 : Int32) (l11 : Int32) (l12 : Int32) (l13 : Int32) (l14 : Int32), own_law x0 x1 x2 = own_law_114 l0 l1 l2 l3 l4 l5 l6 l7 l8 l9 l10 l11 l12 l13 l14 → K 114 [.val (.int l0), .val (.int l1), .val (.int l2), .val (.int l3), .val (.int l4), .val (.ref (ad n0 0)), .val (.int l5), .val (.int l6), .val (.int l7), .val (.int l8), .val (.int l9), .unset, .unset, .unset, .unset] [.int l10] ([.inr (.byte, [.int l11, .int l12, .int l13, .int l14])] : AHeap) 1 4 := by
    intro l0 l1 l2 l3 l4 l5 l6 l7 l8 l9 l10 l11 l12 l13 l14 he
    refine G.istore11 at_114 rfl ?_
    refine G.aload at_116 rfl rfl ?_
    refine G.iconst (1) at_118 rfl ?_
    refine G.bald (1) at_119 rfl (by decide) rfl ?_
    refine G.iconst (1) at_120 rfl ?_
    refine G.iload at_121 rfl ?_
    refine G.iload at_123 rfl ?_
    refine G.iload at_125 rfl ?_
    refine G.scall [_, _, _, _] rfl at_127 (hw _ (List.mem_of_getElem? (i := 10) rfl)) (hw _ (List.mem_of_getElem? (i := 11) rfl)) (hw _ (List.mem_of_getElem? (i := 8) rfl)) (hw _ (List.mem_of_getElem? (i := 12) rfl)) (by decide) (m_3 l Z a0 hw n0 [] _ _ _ _ _) own_pd2 rfl rfl (Nat.le_of_ble_eq_true rfl) (Nat.le_of_ble_eq_true rfl) (Nat.le_of_ble_eq_true rfl) (Nat.le_of_ble_eq_true rfl) (by rintro _ _ ⟨rfl, rfl⟩; rfl) ?_
    rintro _ _ ⟨rfl, rfl⟩
    refine G.icmp_ne 137 at_130 (by decide) rfl (fun h130 => ?_) (fun h130 => ?_)
    · replace he := he.trans (if_neg h130)
      refine G.iconst (0) at_137 rfl ?_
      exact J138 _ _ _ _ _ _ _ _ _ _ _ _ _ _ _ _ he
    · replace he := he.trans (if_pos h130)
      refine G.iconst (1) at_133 rfl ?_
      refine G.goto 138 at_134 (by decide) rfl ?_
      exact J138 _ _ _ _ _ _ _ _ _ _ _ _ _ _ _ _ he
  have J16 : ∀ (l0 : Int32) (l1 : Int32) (l2 : Int32) (l3 : Int32) (l4 : Int32), (l4 = 0 ∨ l4 = 1 ∨ l4 = 2) → own_law x0 x1 x2 = own_law_16 l0 l1 l2 l3 l4 → K 16 [.val (.int l0), .val (.int l1), .val (.int l2), .val (.int l3), .val (.int l4), .unset, .unset, .unset, .unset, .unset, .unset, .unset, .unset, .unset, .unset] [] ([] : AHeap) 0 0 := by
    intro l0 l1 l2 l3 l4 hv he
    have hs4 := hv
    rcases hs4 with rfl | rfl | rfl
    · replace he := he.trans (if_pos rfl)
      refine G.iconst (4) at_16 rfl ?_
      refine G.newarr 4 4 at_17 (hw _ (List.mem_of_getElem? (i := 1) rfl)) (by decide) (Nat.le_of_ble_eq_true rfl) (by decide) (Nat.le_of_ble_eq_true rfl) (Nat.le_of_ble_eq_true rfl) rfl ?_
      try simp only [List.set_cons_zero, List.set_cons_succ, List.length_cons, List.length_nil, List.nil_append, List.cons_append, Nat.zero_add, Nat.reduceAdd]
      refine G.astore5 at_19 rfl rfl ?_
      refine G.aload at_21 rfl rfl ?_
      refine G.iconst (0) at_23 rfl ?_
      refine G.iloadN at_24 rfl ?_
      refine G.i2b at_25 ?_
      refine G.bast (0) at_26 rfl (by decide) (Nat.le_of_ble_eq_true rfl) rfl (fits_nar_byte _) ?_
      try simp only [List.set_cons_zero, List.set_cons_succ, List.length_cons, List.length_nil, List.nil_append, List.cons_append, Nat.zero_add, Nat.reduceAdd]
      refine G.aload at_27 rfl rfl ?_
      refine G.iconst (1) at_29 rfl ?_
      refine G.iloadN at_30 rfl ?_
      refine G.bipush (8) at_31 rfl ?_
      refine G.ishr at_33 ?_
      refine G.i2b at_34 ?_
      refine G.bast (1) at_35 rfl (by decide) (Nat.le_of_ble_eq_true rfl) rfl (fits_nar_byte _) ?_
      try simp only [List.set_cons_zero, List.set_cons_succ, List.length_cons, List.length_nil, List.nil_append, List.cons_append, Nat.zero_add, Nat.reduceAdd]
      refine G.aload at_36 rfl rfl ?_
      refine G.iconst (2) at_38 rfl ?_
      refine G.iloadN at_39 rfl ?_
      refine G.bipush (16) at_40 rfl ?_
      refine G.ishr at_42 ?_
      refine G.i2b at_43 ?_
      refine G.bast (2) at_44 rfl (by decide) (Nat.le_of_ble_eq_true rfl) rfl (fits_nar_byte _) ?_
      try simp only [List.set_cons_zero, List.set_cons_succ, List.length_cons, List.length_nil, List.nil_append, List.cons_append, Nat.zero_add, Nat.reduceAdd]
      refine G.aload at_45 rfl rfl ?_
      refine G.iconst (3) at_47 rfl ?_
      refine G.iloadN at_48 rfl ?_
      refine G.bipush (24) at_49 rfl ?_
      refine G.ishr at_51 ?_
      refine G.i2b at_52 ?_
      refine G.bast (3) at_53 rfl (by decide) (Nat.le_of_ble_eq_true rfl) rfl (fits_nar_byte _) ?_
      try simp only [List.set_cons_zero, List.set_cons_succ, List.length_cons, List.length_nil, List.nil_append, List.cons_append, Nat.zero_add, Nat.reduceAdd]
      refine G.aload at_54 rfl rfl ?_
      refine G.iconst (0) at_56 rfl ?_
      refine G.bald (0) at_57 rfl (by decide) rfl ?_
      refine G.istore6 at_58 rfl ?_
      refine G.aload at_60 rfl rfl ?_
      refine G.iconst (1) at_62 rfl ?_
      refine G.bald (1) at_63 rfl (by decide) rfl ?_
      refine G.istore7 at_64 rfl ?_
      refine G.aload at_66 rfl rfl ?_
      refine G.iconst (2) at_68 rfl ?_
      refine G.bald (2) at_69 rfl (by decide) rfl ?_
      refine G.istore8 at_70 rfl ?_
      refine G.aload at_72 rfl rfl ?_
      refine G.iconst (3) at_74 rfl ?_
      refine G.bald (3) at_75 rfl (by decide) rfl ?_
      refine G.istore9 at_76 rfl ?_
      refine G.iloadN at_78 rfl ?_
      refine G.aload at_79 rfl rfl ?_
      refine G.iload at_81 rfl ?_
      refine G.scall [_, _, _] rfl at_83 (hw _ (List.mem_of_getElem? (i := 2) rfl)) (hw _ (List.mem_of_getElem? (i := 3) rfl)) (hw _ (List.mem_of_getElem? (i := 4) rfl)) (hw _ (List.mem_of_getElem? (i := 5) rfl)) (by decide) (m_1_0 l Z a0 hw n0 [] _ _ _ _ _) own_pd0 rfl rfl (Nat.le_of_ble_eq_true rfl) (Nat.le_of_ble_eq_true rfl) (Nat.le_of_ble_eq_true rfl) (Nat.le_of_ble_eq_true rfl) (by rintro _ _ ⟨rfl, rfl⟩; rfl) ?_
      rintro _ _ ⟨rfl, rfl⟩
      refine G.iloadN at_86 rfl ?_
      refine G.scall [_] rfl at_87 (hw _ (List.mem_of_getElem? (i := 6) rfl)) (hw _ (List.mem_of_getElem? (i := 7) rfl)) (hw _ (List.mem_of_getElem? (i := 8) rfl)) (hw _ (List.mem_of_getElem? (i := 9) rfl)) (by decide) (m_2 l Z a0 hw n0 [] _ _) own_pd1 rfl rfl (Nat.le_of_ble_eq_true rfl) (Nat.le_of_ble_eq_true rfl) (Nat.le_of_ble_eq_true rfl) (Nat.le_of_ble_eq_true rfl) (by rintro _ _ ⟨rfl, rfl⟩; rfl) ?_
      rintro _ _ ⟨rfl, rfl⟩
      refine G.istore10 at_90 rfl ?_
      refine G.aload at_92 rfl rfl ?_
      refine G.iconst (0) at_94 rfl ?_
      refine G.bald (0) at_95 rfl (by decide) rfl ?_
      refine G.iconst (0) at_96 rfl ?_
      refine G.iload at_97 rfl ?_
      refine G.iload at_99 rfl ?_
      refine G.iload at_101 rfl ?_
      refine G.scall [_, _, _, _] rfl at_103 (hw _ (List.mem_of_getElem? (i := 10) rfl)) (hw _ (List.mem_of_getElem? (i := 11) rfl)) (hw _ (List.mem_of_getElem? (i := 8) rfl)) (hw _ (List.mem_of_getElem? (i := 12) rfl)) (by decide) (m_3 l Z a0 hw n0 [] _ _ _ _ _) own_pd2 rfl rfl (Nat.le_of_ble_eq_true rfl) (Nat.le_of_ble_eq_true rfl) (Nat.le_of_ble_eq_true rfl) (Nat.le_of_ble_eq_true rfl) (by rintro _ _ ⟨rfl, rfl⟩; rfl) ?_
      rintro _ _ ⟨rfl, rfl⟩
      refine G.icmp_ne 113 at_106 (by decide) rfl (fun h106 => ?_) (fun h106 => ?_)
      · replace he := he.trans (if_neg h106)
        refine G.iconst (0) at_113 rfl ?_
        exact J114 _ _ _ _ _ _ _ _ _ _ _ _ _ _ _ he
      · replace he := he.trans (if_pos h106)
        refine G.iconst (1) at_109 rfl ?_
        refine G.goto 114 at_110 (by decide) rfl ?_
        exact J114 _ _ _ _ _ _ _ _ _ _ _ _ _ _ _ he
    · replace he := he.trans ((if_neg (by decide)).trans (if_pos rfl))
      refine G.iconst (4) at_16 rfl ?_
      refine G.newarr 4 4 at_17 (hw _ (List.mem_of_getElem? (i := 1) rfl)) (by decide) (Nat.le_of_ble_eq_true rfl) (by decide) (Nat.le_of_ble_eq_true rfl) (Nat.le_of_ble_eq_true rfl) rfl ?_
      try simp only [List.set_cons_zero, List.set_cons_succ, List.length_cons, List.length_nil, List.nil_append, List.cons_append, Nat.zero_add, Nat.reduceAdd]
      refine G.astore5 at_19 rfl rfl ?_
      refine G.aload at_21 rfl rfl ?_
      refine G.iconst (0) at_23 rfl ?_
      refine G.iloadN at_24 rfl ?_
      refine G.i2b at_25 ?_
      refine G.bast (0) at_26 rfl (by decide) (Nat.le_of_ble_eq_true rfl) rfl (fits_nar_byte _) ?_
      try simp only [List.set_cons_zero, List.set_cons_succ, List.length_cons, List.length_nil, List.nil_append, List.cons_append, Nat.zero_add, Nat.reduceAdd]
      refine G.aload at_27 rfl rfl ?_
      refine G.iconst (1) at_29 rfl ?_
      refine G.iloadN at_30 rfl ?_
      refine G.bipush (8) at_31 rfl ?_
      refine G.ishr at_33 ?_
      refine G.i2b at_34 ?_
      refine G.bast (1) at_35 rfl (by decide) (Nat.le_of_ble_eq_true rfl) rfl (fits_nar_byte _) ?_
      try simp only [List.set_cons_zero, List.set_cons_succ, List.length_cons, List.length_nil, List.nil_append, List.cons_append, Nat.zero_add, Nat.reduceAdd]
      refine G.aload at_36 rfl rfl ?_
      refine G.iconst (2) at_38 rfl ?_
      refine G.iloadN at_39 rfl ?_
      refine G.bipush (16) at_40 rfl ?_
      refine G.ishr at_42 ?_
      refine G.i2b at_43 ?_
      refine G.bast (2) at_44 rfl (by decide) (Nat.le_of_ble_eq_true rfl) rfl (fits_nar_byte _) ?_
      try simp only [List.set_cons_zero, List.set_cons_succ, List.length_cons, List.length_nil, List.nil_append, List.cons_append, Nat.zero_add, Nat.reduceAdd]
      refine G.aload at_45 rfl rfl ?_
      refine G.iconst (3) at_47 rfl ?_
      refine G.iloadN at_48 rfl ?_
      refine G.bipush (24) at_49 rfl ?_
      refine G.ishr at_51 ?_
      refine G.i2b at_52 ?_
      refine G.bast (3) at_53 rfl (by decide) (Nat.le_of_ble_eq_true rfl) rfl (fits_nar_byte _) ?_
      try simp only [List.set_cons_zero, List.set_cons_succ, List.length_cons, List.length_nil, List.nil_append, List.cons_append, Nat.zero_add, Nat.reduceAdd]
      refine G.aload at_54 rfl rfl ?_
      refine G.iconst (0) at_56 rfl ?_
      refine G.bald (0) at_57 rfl (by decide) rfl ?_
      refine G.istore6 at_58 rfl ?_
      refine G.aload at_60 rfl rfl ?_
      refine G.iconst (1) at_62 rfl ?_
      refine G.bald (1) at_63 rfl (by decide) rfl ?_
      refine G.istore7 at_64 rfl ?_
      refine G.aload at_66 rfl rfl ?_
      refine G.iconst (2) at_68 rfl ?_
      refine G.bald (2) at_69 rfl (by decide) rfl ?_
      refine G.istore8 at_70 rfl ?_
      refine G.aload at_72 rfl rfl ?_
      refine G.iconst (3) at_74 rfl ?_
      refine G.bald (3) at_75 rfl (by decide) rfl ?_
      refine G.istore9 at_76 rfl ?_
      refine G.iloadN at_78 rfl ?_
      refine G.aload at_79 rfl rfl ?_
      refine G.iload at_81 rfl ?_
      refine G.scall [_, _, _] rfl at_83 (hw _ (List.mem_of_getElem? (i := 2) rfl)) (hw _ (List.mem_of_getElem? (i := 3) rfl)) (hw _ (List.mem_of_getElem? (i := 4) rfl)) (hw _ (List.mem_of_getElem? (i := 5) rfl)) (by decide) (m_1_1 l Z a0 hw n0 [] _ _ _ _ _) own_pd0 rfl rfl (Nat.le_of_ble_eq_true rfl) (Nat.le_of_ble_eq_true rfl) (Nat.le_of_ble_eq_true rfl) (Nat.le_of_ble_eq_true rfl) (by rintro _ _ ⟨rfl, rfl⟩; rfl) ?_
      rintro _ _ ⟨rfl, rfl⟩
      refine G.iloadN at_86 rfl ?_
      refine G.scall [_] rfl at_87 (hw _ (List.mem_of_getElem? (i := 6) rfl)) (hw _ (List.mem_of_getElem? (i := 7) rfl)) (hw _ (List.mem_of_getElem? (i := 8) rfl)) (hw _ (List.mem_of_getElem? (i := 9) rfl)) (by decide) (m_2 l Z a0 hw n0 [] _ _) own_pd1 rfl rfl (Nat.le_of_ble_eq_true rfl) (Nat.le_of_ble_eq_true rfl) (Nat.le_of_ble_eq_true rfl) (Nat.le_of_ble_eq_true rfl) (by rintro _ _ ⟨rfl, rfl⟩; rfl) ?_
      rintro _ _ ⟨rfl, rfl⟩
      refine G.istore10 at_90 rfl ?_
      refine G.aload at_92 rfl rfl ?_
      refine G.iconst (0) at_94 rfl ?_
      refine G.bald (0) at_95 rfl (by decide) rfl ?_
      refine G.iconst (0) at_96 rfl ?_
      refine G.iload at_97 rfl ?_
      refine G.iload at_99 rfl ?_
      refine G.iload at_101 rfl ?_
      refine G.scall [_, _, _, _] rfl at_103 (hw _ (List.mem_of_getElem? (i := 10) rfl)) (hw _ (List.mem_of_getElem? (i := 11) rfl)) (hw _ (List.mem_of_getElem? (i := 8) rfl)) (hw _ (List.mem_of_getElem? (i := 12) rfl)) (by decide) (m_3 l Z a0 hw n0 [] _ _ _ _ _) own_pd2 rfl rfl (Nat.le_of_ble_eq_true rfl) (Nat.le_of_ble_eq_true rfl) (Nat.le_of_ble_eq_true rfl) (Nat.le_of_ble_eq_true rfl) (by rintro _ _ ⟨rfl, rfl⟩; rfl) ?_
      rintro _ _ ⟨rfl, rfl⟩
      refine G.icmp_ne 113 at_106 (by decide) rfl (fun h106 => ?_) (fun h106 => ?_)
      · replace he := he.trans (if_neg h106)
        refine G.iconst (0) at_113 rfl ?_
        exact J114 _ _ _ _ _ _ _ _ _ _ _ _ _ _ _ he
      · replace he := he.trans (if_pos h106)
        refine G.iconst (1) at_109 rfl ?_
        refine G.goto 114 at_110 (by decide) rfl ?_
        exact J114 _ _ _ _ _ _ _ _ _ _ _ _ _ _ _ he
    · replace he := he.trans ((if_neg (by decide)).trans (if_neg (by decide)))
      refine G.iconst (4) at_16 rfl ?_
      refine G.newarr 4 4 at_17 (hw _ (List.mem_of_getElem? (i := 1) rfl)) (by decide) (Nat.le_of_ble_eq_true rfl) (by decide) (Nat.le_of_ble_eq_true rfl) (Nat.le_of_ble_eq_true rfl) rfl ?_
      try simp only [List.set_cons_zero, List.set_cons_succ, List.length_cons, List.length_nil, List.nil_append, List.cons_append, Nat.zero_add, Nat.reduceAdd]
      refine G.astore5 at_19 rfl rfl ?_
      refine G.aload at_21 rfl rfl ?_
      refine G.iconst (0) at_23 rfl ?_
      refine G.iloadN at_24 rfl ?_
      refine G.i2b at_25 ?_
      refine G.bast (0) at_26 rfl (by decide) (Nat.le_of_ble_eq_true rfl) rfl (fits_nar_byte _) ?_
      try simp only [List.set_cons_zero, List.set_cons_succ, List.length_cons, List.length_nil, List.nil_append, List.cons_append, Nat.zero_add, Nat.reduceAdd]
      refine G.aload at_27 rfl rfl ?_
      refine G.iconst (1) at_29 rfl ?_
      refine G.iloadN at_30 rfl ?_
      refine G.bipush (8) at_31 rfl ?_
      refine G.ishr at_33 ?_
      refine G.i2b at_34 ?_
      refine G.bast (1) at_35 rfl (by decide) (Nat.le_of_ble_eq_true rfl) rfl (fits_nar_byte _) ?_
      try simp only [List.set_cons_zero, List.set_cons_succ, List.length_cons, List.length_nil, List.nil_append, List.cons_append, Nat.zero_add, Nat.reduceAdd]
      refine G.aload at_36 rfl rfl ?_
      refine G.iconst (2) at_38 rfl ?_
      refine G.iloadN at_39 rfl ?_
      refine G.bipush (16) at_40 rfl ?_
      refine G.ishr at_42 ?_
      refine G.i2b at_43 ?_
      refine G.bast (2) at_44 rfl (by decide) (Nat.le_of_ble_eq_true rfl) rfl (fits_nar_byte _) ?_
      try simp only [List.set_cons_zero, List.set_cons_succ, List.length_cons, List.length_nil, List.nil_append, List.cons_append, Nat.zero_add, Nat.reduceAdd]
      refine G.aload at_45 rfl rfl ?_
      refine G.iconst (3) at_47 rfl ?_
      refine G.iloadN at_48 rfl ?_
      refine G.bipush (24) at_49 rfl ?_
      refine G.ishr at_51 ?_
      refine G.i2b at_52 ?_
      refine G.bast (3) at_53 rfl (by decide) (Nat.le_of_ble_eq_true rfl) rfl (fits_nar_byte _) ?_
      try simp only [List.set_cons_zero, List.set_cons_succ, List.length_cons, List.length_nil, List.nil_append, List.cons_append, Nat.zero_add, Nat.reduceAdd]
      refine G.aload at_54 rfl rfl ?_
      refine G.iconst (0) at_56 rfl ?_
      refine G.bald (0) at_57 rfl (by decide) rfl ?_
      refine G.istore6 at_58 rfl ?_
      refine G.aload at_60 rfl rfl ?_
      refine G.iconst (1) at_62 rfl ?_
      refine G.bald (1) at_63 rfl (by decide) rfl ?_
      refine G.istore7 at_64 rfl ?_
      refine G.aload at_66 rfl rfl ?_
      refine G.iconst (2) at_68 rfl ?_
      refine G.bald (2) at_69 rfl (by decide) rfl ?_
      refine G.istore8 at_70 rfl ?_
      refine G.aload at_72 rfl rfl ?_
      refine G.iconst (3) at_74 rfl ?_
      refine G.bald (3) at_75 rfl (by decide) rfl ?_
      refine G.istore9 at_76 rfl ?_
      refine G.iloadN at_78 rfl ?_
      refine G.aload at_79 rfl rfl ?_
      refine G.iload at_81 rfl ?_
      refine G.scall [_, _, _] rfl at_83 (hw _ (List.mem_of_getElem? (i := 2) rfl)) (hw _ (List.mem_of_getElem? (i := 3) rfl)) (hw _ (List.mem_of_getElem? (i := 4) rfl)) (hw _ (List.mem_of_getElem? (i := 5) rfl)) (by decide) (m_1_2 l Z a0 hw n0 [] _ _ _ _ _) own_pd0 rfl rfl (Nat.le_of_ble_eq_true rfl) (Nat.le_of_ble_eq_true rfl) (Nat.le_of_ble_eq_true rfl) (Nat.le_of_ble_eq_true rfl) (by rintro _ _ ⟨rfl, rfl⟩; rfl) ?_
      rintro _ _ ⟨rfl, rfl⟩
      refine G.iloadN at_86 rfl ?_
      refine G.scall [_] rfl at_87 (hw _ (List.mem_of_getElem? (i := 6) rfl)) (hw _ (List.mem_of_getElem? (i := 7) rfl)) (hw _ (List.mem_of_getElem? (i := 8) rfl)) (hw _ (List.mem_of_getElem? (i := 9) rfl)) (by decide) (m_2 l Z a0 hw n0 [] _ _) own_pd1 rfl rfl (Nat.le_of_ble_eq_true rfl) (Nat.le_of_ble_eq_true rfl) (Nat.le_of_ble_eq_true rfl) (Nat.le_of_ble_eq_true rfl) (by rintro _ _ ⟨rfl, rfl⟩; rfl) ?_
      rintro _ _ ⟨rfl, rfl⟩
      refine G.istore10 at_90 rfl ?_
      refine G.aload at_92 rfl rfl ?_
      refine G.iconst (0) at_94 rfl ?_
      refine G.bald (0) at_95 rfl (by decide) rfl ?_
      refine G.iconst (0) at_96 rfl ?_
      refine G.iload at_97 rfl ?_
      refine G.iload at_99 rfl ?_
      refine G.iload at_101 rfl ?_
      refine G.scall [_, _, _, _] rfl at_103 (hw _ (List.mem_of_getElem? (i := 10) rfl)) (hw _ (List.mem_of_getElem? (i := 11) rfl)) (hw _ (List.mem_of_getElem? (i := 8) rfl)) (hw _ (List.mem_of_getElem? (i := 12) rfl)) (by decide) (m_3 l Z a0 hw n0 [] _ _ _ _ _) own_pd2 rfl rfl (Nat.le_of_ble_eq_true rfl) (Nat.le_of_ble_eq_true rfl) (Nat.le_of_ble_eq_true rfl) (Nat.le_of_ble_eq_true rfl) (by rintro _ _ ⟨rfl, rfl⟩; rfl) ?_
      rintro _ _ ⟨rfl, rfl⟩
      refine G.icmp_ne 113 at_106 (by decide) rfl (fun h106 => ?_) (fun h106 => ?_)
      · replace he := he.trans (if_neg h106)
        refine G.iconst (0) at_113 rfl ?_
        exact J114 _ _ _ _ _ _ _ _ _ _ _ _ _ _ _ he
      · replace he := he.trans (if_pos h106)
        refine G.iconst (1) at_109 rfl ?_
        refine G.goto 114 at_110 (by decide) rfl ?_
        exact J114 _ _ _ _ _ _ _ _ _ _ _ _ _ _ _ he
  have he : own_law x0 x1 x2 = own_law x0 x1 x2 := rfl
  refine G.iloadN at_0 rfl ?_
  refine G.ldcI at_1 (hw _ (List.mem_of_getElem? (i := 0) rfl)) ?_
  refine G.iand at_3 ?_
  refine G.bipush (10) at_4 rfl ?_
  refine G.irem at_6 (by decide) ?_
  refine G.istoreN3 at_7 rfl ?_
  refine G.iloadN at_8 rfl ?_
  refine G.ldcI at_9 (hw _ (List.mem_of_getElem? (i := 0) rfl)) ?_
  refine G.iand at_11 ?_
  refine G.iconst (3) at_12 rfl ?_
  refine G.irem at_13 (by decide) ?_
  refine G.istore4 at_14 rfl ?_
  exact J16 _ _ _ _ _ (own_three _) he
theorem own_h0 (lv : Int32) : own_hdr0 lv = (own_flg lv).toInt8.toInt32 := by
  unfold own_hdr0 own_flg
  repeat' split
  all_goals decide
theorem own_h1 (lv : Int32) : own_hdr1 lv = (own_flg lv).toInt8.toInt32 := own_h0 lv
theorem own_h2 (lv : Int32) : own_hdr2 lv = (own_flg lv).toInt8.toInt32 := own_h0 lv
theorem own_at_same (i f o : Int32) : own_at i i f o = 120 := if_pos rfl
theorem own_at_next (i j f o : Int32) (h : ¬ i = j) (h' : i = j + 1) : own_at i j f o = f.toInt8.toInt32 := (if_neg h).trans (if_pos h')
theorem own_at_else (i j f o : Int32) (h : ¬ i = j) (h' : ¬ i = j + 1) : own_at i j f o = o := (if_neg h).trans (if_neg h')
theorem own_tail (l0 l1 l2 l3 l4 l5 l6 l7 l8 l9 h0 h1 h2 h3 : Int32) (e1 : h1 = own_at 1 l4 l9 l6) (e2 : h2 = own_at 2 l4 l9 l7) (e3 : h3 = own_at 3 l4 l9 l8) : own_law_114 l0 l1 l2 l3 l4 l5 l6 l7 l8 l9 1 h0 h1 h2 h3 = 1 := by
  unfold own_law_114 own_law_138 own_law_162 own_law_186
  rw [if_pos e1, if_pos e2, if_pos e3]
  decide
theorem own_law_one (a b c : Int32) : own_law a b c = 1 := by
  unfold own_law
  rcases own_three b with h | h | h
  all_goals
    rw [h]
    generalize (a &&& 2147483647) % 10 = lv
    unfold own_law_16
  · rw [if_pos rfl, own_at_same, if_pos rfl]
    exact own_tail _ _ _ _ _ _ _ _ _ _ _ _ _ _ ((own_h0 lv).trans (own_at_next _ _ _ _ (by decide) (by decide)).symm) (own_at_else _ _ _ _ (by decide) (by decide)).symm (own_at_else _ _ _ _ (by decide) (by decide)).symm
  · rw [if_neg (by decide), if_pos rfl, own_at_else _ _ _ _ (by decide) (by decide), if_pos rfl]
    exact own_tail _ _ _ _ _ _ _ _ _ _ _ _ _ _ (own_at_same _ _ _).symm ((own_h1 lv).trans (own_at_next _ _ _ _ (by decide) (by decide)).symm) (own_at_else _ _ _ _ (by decide) (by decide)).symm
  · rw [if_neg (by decide), if_neg (by decide), own_at_else _ _ _ _ (by decide) (by decide), if_pos rfl]
    exact own_tail _ _ _ _ _ _ _ _ _ _ _ _ _ _ (own_at_else _ _ _ _ (by decide) (by decide)).symm (own_at_same _ _ _).symm ((own_h2 lv).trans (own_at_next _ _ _ _ (by decide) (by decide)).symm)
set_option maxRecDepth 65536 in
set_option maxHeartbeats 40000000 in
theorem comes_1 {Post : Tables → Env → Array Value → State → Outcome → State → Prop} (hpost : ∀ tb e args s v u, (limb_1_1.after args s (.returned v) u = true ∧ limb_1_2.after args s (.returned v) u = true ∧ True) → FrameEnd s (.returned v) u (Jvm.fieldLocs frame_1_writes args s ++ Jvm.arrayLocs frame_1_arrays args s ++ Jvm.staticLocs frame_1_statics s) 16 128 → Post tb e args s (.returned v) u) :
    ArmFor flags0 classFile x code maxLocals ret World_1 tables_1 room_1 Calls_1 rest_1 Pre_1 Post := by
  intro l hfl _ _ p e ha hc hk s m args below hf hA hF happ hP
  obtain ⟨hcalls, hrest, hpre⟩ := hP
  obtain ⟨-, -, -, hnamed, -, -, -, hat⟩ := (Spec.applies_iff hf).mp happ
  obtain ⟨hg, hn⟩ := and_e (Cond.before_iff.mp (show (Jvm.Cond.and given_1 narrow_1).before args s = true from hpre))
  obtain ⟨hcnt, g0⟩ := and_e hg
  obtain ⟨w0, w1, w2, rfl⟩ : ∃ w0 w1 w2 : Value, args = #[w0, w1, w2] := by
    have hs : args.size = 3 := by simpa [Cond.value, given_1] using hcnt
    obtain ⟨L⟩ := args
    match L, hs with
    | [w0, w1, w2], _ => exact ⟨w0, w1, w2, rfl⟩
  have hw := fun d (hd : d ∈ tables_1) => atoms_spec (ws := Jvm.Cond.code x code maxLocals ret :: tables_1) hat d (List.mem_cons_of_mem _ hd)
  obtain ⟨t0, g1⟩ := and_e g0
  obtain ⟨i0, ei0⟩ := is_v t0
  obtain rfl : w0 = (.int i0) := Option.some.inj ei0
  obtain ⟨t1, g2⟩ := and_e g1
  obtain ⟨i1, ei1⟩ := is_v t1
  obtain rfl : w1 = (.int i1) := Option.some.inj ei1
  have t2 := g2
  obtain ⟨i2, ei2⟩ := is_v t2
  obtain rfl : w2 = (.int i2) := Option.some.inj ei2
  obtain ⟨n, o, h1, h2, h3, _, L, rfl, ⟨N, A', ⟨e1, -⟩, -⟩, hq⟩ := (m_0 l s _ hw s.heap.size tables_1 i0 i1 i2 ) s.heap (Rep.nil _ _ _) p e ha hc hk s m _ below hf ((Spec.applies_iff_loose hf).mp happ).1 ⟨rfl, State.Warmed39.refl s, rfl⟩ trivial
  rw [own_law_one] at e1
  subst e1
  refine ⟨n, _, h1, h2, h3, hpost _ _ _ _ _ _ ⟨Cond.after_iff.mpr rfl, Cond.after_iff.mpr (eq_i res_at (Term.int_eval (1)) rfl), trivial⟩ ⟨hq.1, hq.2.1, (hq.2.2.sift fun y hy => Or.inr (N y hy)).mono (by decide) (by decide)⟩⟩
theorem main_1_1 : Claimed_1_1 := comes_1 fun _ _ _ _ _ _ h hF => ⟨h.1, hF⟩
theorem main_1_2 : Claimed_1_2 := comes_1 fun _ _ _ _ _ _ h hF => ⟨h.2.1, hF⟩
end Jvm.Pilot.@@N@@
namespace Jvm.Pilot.@@N@@
open Jvm Jvm.ClassFile Sem Op Lib Jvm.Free Jvm.Stand Jvm.Pilot.@@N@@.Jvm.D
/-! MADE BY PROGRAM (witnessworld.py) out of the Statement's table words and the real class files: 9 classes; the members and pool entries that the words name. The judged class is class 1, her method 3. -/
namespace start1
open Jvm.ClassFile
def u (s : String) : CpInfo := .utf8 (stringToUtf16 s)
/-- a pool by its gaps: so many unusable entries, then the entry; so many at the end -/
def gap : Nat → List CpInfo → List CpInfo
  | 0, r => r
  | n + 1, r => .unusable :: gap n r
def poolList (es : List (Nat × CpInfo)) (last : Nat) : List CpInfo := es.foldr (fun e r => gap e.1 (e.2 :: r)) (gap last [])
def pool (es : List (Nat × CpInfo)) (last : Nat) : Array CpInfo := ⟨poolList es last⟩
def fileOf (pool : Array CpInfo) (this : Nat) (attrs : Array Attribute := #[]) (ms : Array MethodInfo := #[]) (fl : Nat := 33) (sup : Nat := 0) (ifs : Array Nat := #[]) (fds : Array FieldInfo := #[]) : ClassFile where
  minorVersion := 0
  majorVersion := 65
  constantPool := pool
  accessFlags := fl
  thisClass := this
  superClass := sup
  interfaces := ifs
  fields := fds
  methods := ms
  attributes := attrs
def plain (name : String) (sup : Option ClassId) : Class where
  name := name
  kind := .ordinary
  loader := none
  accessFlags := 33
  super := sup
  interfaces := #[]
  cf := none
  fields := #[]
  methods := #[]
  instanceTypes := #[]
  staticTypes := #[]
  resolved := #[]
  callSites := []
  init := .initialized
  statics := none
  mirror := none

def pool0 : Array CpInfo := pool [(5, u "<init>"), (0, u "()V"), (1, .class_ 10), (1, u "java/lang/Object")] 113

def k0m0 : Method := { name := "<init>", desc := "()V", sig := { parameters := [], returnType := none }, accessFlags := 1, code := none }
/-- java/lang/Object -/
def k0 : Class := { plain "java/lang/Object" none with
  accessFlags := 33
  interfaces := #[]
  cf := some (fileOf pool0 8 #[] #[{ accessFlags := 1, nameIndex := 5, descriptorIndex := 6, attributes := #[] }] 33 0 #[] #[])
  fields := #[]
  methods := #[k0m0]
  instanceTypes := #[]
  staticTypes := #[]
  resolved := Array.replicate 124 none
  statics := none }

def pool1 : Array CpInfo := pool [(2, .class_ 4), (1, u "java/lang/Object"), (0, u "<init>"), (0, u "()V"), (0, .integer 2147483647), (0, .methodref 9 10), (0, .class_ 11), (0, .nameAndType 12 13), (0, u "org/glasspane/ZlibStream"), (0, u "putHeader"), (0, u "(I[BI)V"), (0, .methodref 15 16), (0, .class_ 17), (0, .nameAndType 18 19), (0, u "org/glasspane/ZlibStreamPutHeaderPinLaw"), (0, u "expectedFlg"), (0, u "(I)I"), (0, .methodref 15 21), (0, .nameAndType 22 23), (0, u "expectedAt"), (0, u "(IIII)I"), (3, u "law"), (0, u "(III)Z")] 4

def k1m0 : Method := { name := "<init>", desc := "()V", sig := { parameters := [], returnType := none }, accessFlags := 1, code := none }
def k1c1 : Code := { maxStack := 2, maxLocals := 1, code := method_2_code, exceptionTable := #[], attributes := #[] }
def k1m1 : Method := { name := "expectedFlg", desc := "(I)I", sig := { parameters := [.int], returnType := some .int }, accessFlags := 10, code := some k1c1 }
def k1c2 : Code := { maxStack := 3, maxLocals := 4, code := method_3_code, exceptionTable := #[], attributes := #[] }
def k1m2 : Method := { name := "expectedAt", desc := "(IIII)I", sig := { parameters := [.int, .int, .int, .int], returnType := some .int }, accessFlags := 10, code := some k1c2 }
def k1c3 : Code := { maxStack := 5, maxLocals := 15, code := code, exceptionTable := #[], attributes := #[] }
def k1m3 : Method := { name := "law", desc := "(III)Z", sig := { parameters := [.int, .int, .int], returnType := some .boolean }, accessFlags := 9, code := some k1c3 }
/-- org/glasspane/ZlibStreamPutHeaderPinLaw -/
def k1 : Class := { plain "org/glasspane/ZlibStreamPutHeaderPinLaw" (some 0) with
  accessFlags := 49
  interfaces := #[]
  cf := some (fileOf pool1 15 #[] #[{ accessFlags := 1, nameIndex := 5, descriptorIndex := 6, attributes := #[] }, { accessFlags := 10, nameIndex := 18, descriptorIndex := 19, attributes := #[] }, { accessFlags := 10, nameIndex := 22, descriptorIndex := 23, attributes := #[] }, { accessFlags := 9, nameIndex := 27, descriptorIndex := 28, attributes := #[] }] 49 2 #[] #[])
  fields := #[]
  methods := #[k1m0, k1m1, k1m2, k1m3]
  instanceTypes := #[]
  staticTypes := #[]
  resolved := Array.replicate 33 none
  statics := none }

def pool2 : Array CpInfo := pool [(2, .class_ 4), (1, u "java/lang/Object"), (0, u "<init>"), (0, u "()V"), (1, .class_ 10), (1, u "org/glasspane/ZlibStream"), (0, u "kept"), (0, u "Lorg/glasspane/ZlibStream$Version;"), (0, .class_ 14), (0, u "org/glasspane/ZlibStream$Version"), (1, .class_ 17), (0, u "org/glasspane/ZlibStream$Window"), (3, u "history"), (0, u "Lorg/glasspane/ZlibStream$Window;"), (6, u "writing"), (6, u "other"), (3, u "I"), (35, u "headerSent"), (0, u "Z"), (2, u "putHeader"), (0, u "(I[BI)V"), (8, u "WINDOW"), (2, u "CMF")] 16

def k2m0 : Method := { name := "<init>", desc := "()V", sig := { parameters := [], returnType := none }, accessFlags := 0, code := none }
def k2c1 : Code := { maxStack := 5, maxLocals := 5, code := prog_62_method_9_code, exceptionTable := #[], attributes := #[] }
def k2m1 : Method := { name := "putHeader", desc := "(I[BI)V", sig := { parameters := [.int, (.array .byte), .int], returnType := none }, accessFlags := 8, code := some k2c1 }
/-- org/glasspane/ZlibStream -/
def k2 : Class := { plain "org/glasspane/ZlibStream" (some 0) with
  accessFlags := 48
  interfaces := #[]
  cf := some (fileOf pool2 8 #[.nestMembers #[16, 13]] #[{ accessFlags := 0, nameIndex := 5, descriptorIndex := 6, attributes := #[] }, { accessFlags := 8, nameIndex := 80, descriptorIndex := 81, attributes := #[] }] 48 2 #[] #[{ accessFlags := 26, nameIndex := 90, descriptorIndex := 40, attributes := #[] }, { accessFlags := 26, nameIndex := 93, descriptorIndex := 40, attributes := #[] }, { accessFlags := 2, nameIndex := 11, descriptorIndex := 12, attributes := #[] }, { accessFlags := 2, nameIndex := 36, descriptorIndex := 12, attributes := #[] }, { accessFlags := 2, nameIndex := 29, descriptorIndex := 12, attributes := #[] }, { accessFlags := 2, nameIndex := 21, descriptorIndex := 22, attributes := #[] }, { accessFlags := 2, nameIndex := 76, descriptorIndex := 77, attributes := #[] }])
  fields := #[{ name := "WINDOW", type := .int, accessFlags := 26, slot := 0, constantValue := 0 }, { name := "CMF", type := .int, accessFlags := 26, slot := 1, constantValue := 0 }, { name := "kept", type := (.object "org/glasspane/ZlibStream$Version"), accessFlags := 2, slot := 0, constantValue := 0 }, { name := "other", type := (.object "org/glasspane/ZlibStream$Version"), accessFlags := 2, slot := 1, constantValue := 0 }, { name := "writing", type := (.object "org/glasspane/ZlibStream$Version"), accessFlags := 2, slot := 2, constantValue := 0 }, { name := "history", type := (.object "org/glasspane/ZlibStream$Window"), accessFlags := 2, slot := 3, constantValue := 0 }, { name := "headerSent", type := .boolean, accessFlags := 2, slot := 4, constantValue := 0 }]
  methods := #[k2m0, k2m1]
  instanceTypes := #[(.object "org/glasspane/ZlibStream$Version"), (.object "org/glasspane/ZlibStream$Version"), (.object "org/glasspane/ZlibStream$Version"), (.object "org/glasspane/ZlibStream$Window"), .boolean]
  staticTypes := #[.int, .int]
  resolved := Array.replicate 110 none
  statics := none }

def pool3 : Array CpInfo := pool [(1, u "java/lang/Cloneable"), (0, .class_ 1), (0, u "java/lang/Object"), (0, .class_ 3)] 3

/-- java/lang/Cloneable -/
def k3 : Class := { plain "java/lang/Cloneable" (some 0) with
  accessFlags := 1537
  interfaces := #[]
  cf := some (fileOf pool3 2 #[] #[] 1537 4 #[] #[])
  fields := #[]
  methods := #[]
  instanceTypes := #[]
  staticTypes := #[]
  resolved := Array.replicate 8 none
  statics := none }

def pool4 : Array CpInfo := pool [(1, u "java/io/Serializable"), (0, .class_ 1), (0, u "java/lang/Object"), (0, .class_ 3)] 3

/-- java/io/Serializable -/
def k4 : Class := { plain "java/io/Serializable" (some 0) with
  accessFlags := 1537
  interfaces := #[]
  cf := some (fileOf pool4 2 #[] #[] 1537 4 #[] #[])
  fields := #[]
  methods := #[]
  instanceTypes := #[]
  staticTypes := #[]
  resolved := Array.replicate 8 none
  statics := none }

/-- the primitive byte -/
def k5 : Class := { plain "byte" none with kind := .primitive 'B', accessFlags := 0x411 }
/-- [B -/
def k6 : Class := { plain "[B" (some 0) with kind := .array 5 .byte, interfaces := #[3, 4], accessFlags := 1041 }

/-- the primitive int -/
def k7 : Class := { plain "int" none with kind := .primitive 'I', accessFlags := 0x411 }
/-- [I -/
def k8 : Class := { plain "[I" (some 0) with kind := .array 7 .int, interfaces := #[3, 4], accessFlags := 1041 }

def heap : Heap := #[]
def classes : Array Class := #[k0, k1, k2, k3, k4, k5, k6, k7, k8]
def interned : List (Array UInt16 × Addr) := []
def slotsUsed : Nat := 0
def theMethod : MethodId := ⟨1, 3⟩
def args0 : Array Value := #[.int 5, .int 6, .int 7]
def aboutOver (below : List Frame) : State where
  vm := { classes := classes, interned := interned.toArray }
  heap := heap
  slotsUsed := slotsUsed
  threads := #[{ frames := .invoking theMethod args0 :: below }]
def below0 : List Frame := [.native { method := ⟨0, 0⟩, args := #[] }]
def about1 : State := aboutOver below0
def p0 : Program := .bare "" "" ""
def e0 : Env := launch0.env 0 0 0
theorem w_frames : about1.frames = Frame.invoking theMethod args0 :: below0 := rfl
set_option maxRecDepth 65536 in
theorem w_args : argsFit about1.vm theMethod args0 = true := by decide +kernel
set_option maxRecDepth 65536 in
theorem w_heap : heapFits about1 = true := by decide +kernel
set_option maxRecDepth 65536 in
theorem w_runnable : about1.curStatus? = some .runnable := by decide +kernel
set_option maxRecDepth 65536 in
theorem w_alone : about1.alone = true := by decide +kernel
set_option maxRecDepth 65536 in
theorem w_named : about1.methodNamed? x = some theMethod := by decide +kernel
set_option maxRecDepth 65536 in
theorem w_hears : about1.hears theMethod below0 = true := by decide +kernel
set_option maxRecDepth 65536 in
theorem w_ripe : about1.ripe theMethod args0 below0 = true := by decide +kernel
theorem w_running : about1.status = .running := rfl
set_option maxRecDepth 65536 in
theorem w_room : about1.hasRoom e0.platform room_1 = true :=
  launch0.hasRoom_least _ room_1 (by decide +kernel) (by decide +kernel) (by decide +kernel) (by decide +kernel) (by decide +kernel) (by decide +kernel)
theorem allAtoms_all (ts : List Jvm.Cond) (a : Array Jvm.Value) (st : Jvm.State) : (allAtoms ts).before a st = ts.all (fun c => c.before a st) := by
  induction ts with
  | nil => rfl
  | cons c t ih =>
    show (Jvm.Cond.and c (allAtoms t)).before a st = _
    rw [Jvm.Cond.before_and, ih, List.all_cons]
def words1 : List Jvm.Cond := Jvm.Cond.code x code maxLocals ret :: tables_1
/-- a 'code' word, met by the world's own term for the bytes: nothing is compared byte by byte -/
theorem code_word {y : MethodName} {bytes : ByteArray} {mx : Nat} {rt : Option FieldType} {a : Array Value} {s : State} {m : MethodId} {meth : Method} {c : Code} (h1 : s.methodNamed? y = some m) (h2 : s.vm.method? m = some meth) (h3 : meth.code = some c) (h4 : c.code = bytes)
    (h5 : (c.maxLocals == mx && c.exceptionTable.isEmpty && decide (c.maxStack ≤ mostOperands) && decide (meth.sig.returnType = rt) && !meth.locks && decide (parseMethodDescriptor y.desc = some meth.sig)) = true) : (Jvm.Cond.code y bytes mx rt).before a s = true := by
  simp only [Bool.and_eq_true, beq_iff_eq, Bool.not_eq_true', decide_eq_true_eq] at h5
  obtain ⟨⟨⟨⟨⟨g1, g2⟩, g3⟩, g4⟩, g5⟩, g6⟩ := h5
  simp [Cond.before, Cond.holds, Cond.value, h1, h2, h3, h4, g1, g2, g3, g4, g5, g6]
def isCode : Jvm.Cond → Bool
  | .code _ _ _ _ => true
  | _ => false
theorem all_split {L : List Jvm.Cond} {P : Jvm.Cond → Bool} (h1 : L.all (fun c => isCode c || P c) = true) (h2 : ∀ c ∈ L.filter isCode, P c = true) : L.all P = true := by
  refine List.all_eq_true.mpr fun c hc => ?_
  have h := List.all_eq_true.mp h1 c hc
  rcases Bool.eq_false_or_eq_true (isCode c) with hi | hi
  · exact h2 c (List.mem_filter.mpr ⟨hc, hi⟩)
  · simpa [hi] using h
set_option maxRecDepth 65536 in
theorem w_c0 : (Jvm.Cond.code x code maxLocals ret).before args0 about1 = true := code_word (m := ⟨1, 3⟩) (meth := k1m3) (c := k1c3) (by decide +kernel) rfl rfl rfl (by decide +kernel)
set_option maxRecDepth 65536 in
theorem w_c1 : (Jvm.Cond.code ({ cls := "org/glasspane/ZlibStream", name := "putHeader", desc := "(I[BI)V" } : Jvm.MethodName) prog_62_method_9_code (5 : Nat) (Option.none : Option Jvm.ClassFile.FieldType)).before args0 about1 = true := code_word (m := ⟨2, 1⟩) (meth := k2m1) (c := k2c1) (by decide +kernel) rfl rfl rfl (by decide +kernel)
set_option maxRecDepth 65536 in
theorem w_c2 : (Jvm.Cond.code ({ cls := "org/glasspane/ZlibStreamPutHeaderPinLaw", name := "expectedFlg", desc := "(I)I" } : Jvm.MethodName) method_2_code (1 : Nat) (Option.some Jvm.ClassFile.FieldType.int)).before args0 about1 = true := code_word (m := ⟨1, 1⟩) (meth := k1m1) (c := k1c1) (by decide +kernel) rfl rfl rfl (by decide +kernel)
set_option maxRecDepth 65536 in
theorem w_c3 : (Jvm.Cond.code ({ cls := "org/glasspane/ZlibStreamPutHeaderPinLaw", name := "expectedAt", desc := "(IIII)I" } : Jvm.MethodName) method_3_code (4 : Nat) (Option.some Jvm.ClassFile.FieldType.int)).before args0 about1 = true := code_word (m := ⟨1, 2⟩) (meth := k1m2) (c := k1c2) (by decide +kernel) rfl rfl rfl (by decide +kernel)
def codes1 : List Jvm.Cond := [Jvm.Cond.code x code maxLocals ret, Jvm.Cond.code ({ cls := "org/glasspane/ZlibStream", name := "putHeader", desc := "(I[BI)V" } : Jvm.MethodName) prog_62_method_9_code (5 : Nat) (Option.none : Option Jvm.ClassFile.FieldType), Jvm.Cond.code ({ cls := "org/glasspane/ZlibStreamPutHeaderPinLaw", name := "expectedFlg", desc := "(I)I" } : Jvm.MethodName) method_2_code (1 : Nat) (Option.some Jvm.ClassFile.FieldType.int), Jvm.Cond.code ({ cls := "org/glasspane/ZlibStreamPutHeaderPinLaw", name := "expectedAt", desc := "(IIII)I" } : Jvm.MethodName) method_3_code (4 : Nat) (Option.some Jvm.ClassFile.FieldType.int)]
set_option maxRecDepth 65536 in
theorem codes_eq : words1.filter isCode = codes1 := rfl
theorem w_codes : ∀ c ∈ words1.filter isCode, c.before args0 about1 = true := by
  rw [codes_eq]
  intro c hc
  simp only [codes1, List.mem_cons, List.not_mem_nil, or_false] at hc
  rcases hc with rfl | rfl | rfl | rfl
  · exact w_c0
  · exact w_c1
  · exact w_c2
  · exact w_c3
set_option maxRecDepth 65536 in
theorem w_t1 : words1.all (fun c => isCode c || c.before args0 about1) = true := by decide +kernel
theorem w_tables : (allAtoms (Jvm.Cond.code x code maxLocals ret :: tables_1)).before args0 about1 = true := by
  rw [allAtoms_all]
  show words1.all (fun c => c.before args0 about1) = true
  refine all_split ?_ w_codes
  rw [w_t1]
set_option maxRecDepth 65536 in
theorem w_case : (Jvm.Cond.and given_1 narrow_1).before args0 about1 = true := by decide +kernel
theorem w_applies : (headSpec (Jvm.Cond.code x code maxLocals ret :: tables_1) room_1).applies x e0.platform about1 = true :=
  (Spec.applies_iff w_frames).mpr ⟨w_running, w_runnable, w_alone, w_named, w_hears, w_ripe, w_room, w_tables⟩
theorem atStart : AtStart classFile x code maxLocals ret World_1 tables_1 room_1 Calls_1 rest_1 Pre_1 launch0 p0 e0 about1 theMethod args0 below0 :=
  ⟨lists_1, trivial, launch0.admits_env _ _ _, launch0.least_env, fairChoices_fair.cas, fairChoices_fair.clock, w_frames, w_args, w_heap, w_applies, trivial, trivial, w_case⟩
end start1
theorem witness_1 : WitnessClaimed_1 := ⟨start1.p0, start1.e0, start1.about1, start1.theMethod, start1.args0, start1.below0, start1.atStart⟩
end Jvm.Pilot.@@N@@
