import JvmDerived
import JvmDerived.Pilot.@@N@@Statement
import JvmDerived.Pilot.@@N@@Code
set_option linter.unusedVariables false
set_option linter.unusedSimpArgs false
@@BLOCK:NumsL.lean.txt@@
namespace Jvm.Pilot.@@N@@
open Jvm Jvm.ClassFile Sem Op Lib Jvm.Free Jvm.Stand Jvm.LawKit Jvm.RoadKit Bundle Jvm.Pilot.@@N@@.Jvm.D
/-! A small calculus over the library's laws: the cells that the walk itself has made stand in a list (an object: its class and fields; an array: its kind and elements); K pc locals stack cells .. says that the run from there ends as the contract says. -/
abbrev ACell := (String × List (String × String × Value)) ⊕ (FieldType × List Value)
abbrev AHeap := List ACell
def ad (n0 i : Nat) : Addr := n0 + i
theorem ad_le (n0 i : Nat) : n0 ≤ ad n0 i := Nat.le_add_right _ _
theorem ad_ne {n0 i j : Nat} (h : i ≠ j) : ad n0 i ≠ ad n0 j := fun e => h (Nat.add_left_cancel e)
def COk (Z : State) (a0 : Array Value) (h : Heap) (a : Addr) : ACell → Prop
  | .inl (C, fs) => Exa Z h a C ∧ (fs.map Prod.fst).Nodup ∧ ∀ (j : Nat) (n d : String) (v : Value), fs[j]? = some (n, d, v) → Fld Z h a C n d v ∧ Laid Z a0 C C n d ∧ ∃ t, parseFieldDescriptor d = some t
  | .inr (ty, vs) => Exa Z h a ("[" ++ ty.toString) ∧ ∃ c : Cell, Arr Z h a c ty ∧ c.slots = vs.toArray ∧ vs.length < 2147483648 ∧ ∀ v ∈ vs, fits ty v = true
def Rep (Z : State) (a0 : Array Value) (n0 : Nat) (h : Heap) (A : AHeap) : Prop := h.size = n0 + A.length ∧ ∀ (i : Nat) (c : ACell), A[i]? = some c → COk Z a0 h (ad n0 i) c
section Reps
variable {Z : State} {a0 : Array Value} {n0 : Nat} {h h' : Heap} {A : AHeap}
theorem COk.ext {a : Addr} {c : ACell} (E : Ext h h') (H : COk Z a0 h a c) : COk Z a0 h' a c := by
  match c, H with
  | .inl (C, fs), ⟨h1, h2, h3⟩ => exact ⟨h1.ext E, h2, fun j n d v hj => ⟨(h3 j n d v hj).1.ext E, (h3 j n d v hj).2⟩⟩
  | .inr (ty, vs), ⟨h0, c, h1, h2⟩ => exact ⟨h0.ext E, c, h1.ext E, h2⟩
theorem COk.other {a b : Addr} {sl : Nat} {v : Value} {c : ACell} (W : Wr h h' a sl v) (ne : b ≠ a) (H : COk Z a0 h b c) : COk Z a0 h' b c := by
  match c, H with
  | .inl (C, fs), ⟨h1, h2, h3⟩ => exact ⟨h1.wr W, h2, fun j n d v hj => ⟨(h3 j n d v hj).1.other W (Or.inl ne), (h3 j n d v hj).2⟩⟩
  | .inr (ty, vs), ⟨h0, c, h1, h2⟩ => exact ⟨h0.wr W, c, h1.other W ne, h2⟩
theorem Rep.nil (Z : State) (a0 : Array Value) (h : Heap) : Rep Z a0 h.size h [] := ⟨rfl, fun i c hi => by simp at hi⟩
theorem Rep.push {c : ACell} (H : Rep Z a0 n0 h A) (E : Ext h h') (hs : h'.size = h.size + 1) (hc : COk Z a0 h' h.size c) : Rep Z a0 n0 h' (A ++ [c]) := by
  refine ⟨by rw [hs, H.1]; simp [Nat.add_assoc], fun i d hi => ?_⟩
  rcases Nat.lt_or_ge i A.length with q | q
  · rw [List.getElem?_append_left q] at hi
    exact (H.2 i d hi).ext E
  · rw [List.getElem?_append_right q] at hi
    have hz : i - A.length = 0 := by
      rcases Nat.eq_zero_or_pos (i - A.length) with z | z
      · exact z
      · rw [List.getElem?_eq_none (by simp; omega)] at hi; cases hi
    rw [hz] at hi
    cases hi
    have : ad n0 i = h.size := by rw [H.1]; show n0 + i = _; omega
    rw [this]; exact hc
theorem Rep.wr {i : Nat} {sl : Nat} {v : Value} {c : ACell} (H : Rep Z a0 n0 h A) (W : Wr h h' (ad n0 i) sl v) (hc : COk Z a0 h' (ad n0 i) c) : Rep Z a0 n0 h' (A.set i c) := by
  refine ⟨by rw [W.size, H.1]; simp, fun j d hj => ?_⟩
  rw [List.getElem?_set] at hj
  split at hj
  · rename_i e
    subst e
    split at hj
    · cases hj; exact hc
    · cases hj
  · rename_i ne
    exact (H.2 j d hj).other W (ad_ne fun e => ne e.symm)
theorem nodup_at {L : List String} {i j : Nat} {x : String} (hn : L.Nodup) (hi : L[i]? = some x) (hj : L[j]? = some x) : i = j :=
  (List.getElem?_inj (List.getElem?_eq_some_iff.mp hi).1 hn).mp (hi.trans hj.symm)
theorem COk.put {a : Addr} {C n d : String} {v old : Value} {fs : List (String × String × Value)} {j : Nat} (H : COk Z a0 h a (.inl (C, fs))) (hj : fs[j]? = some (n, d, old)) (W : Wr h h' a (Jvm.RoadKit.slotOf Z C n d) v) : COk Z a0 h' a (.inl (C, fs.set j (n, d, v))) := by
  obtain ⟨h1, h2, h3⟩ := H
  have hm : (fs.set j (n, d, v)).map Prod.fst = fs.map Prod.fst := by
    rw [List.map_set]
    obtain ⟨hl, e⟩ := List.getElem?_eq_some_iff.mp hj
    apply List.ext_getElem?
    intro k
    rw [List.getElem?_set]
    split
    · rename_i e2; subst e2; simp [hl, e]
    · rfl
  refine ⟨h1.wr W, by rw [hm]; exact h2, fun k n' d' v' hk => ?_⟩
  rw [List.getElem?_set] at hk
  split at hk
  · rename_i e; subst e
    split at hk
    · cases hk; exact ⟨(h3 j n d old hj).1.same W, (h3 j n d old hj).2⟩
    · cases hk
  · rename_i ne
    have q := h3 k n' d' v' hk
    obtain ⟨q1, q2, t', q3⟩ := q
    obtain ⟨-, p2, t, p3⟩ := h3 j n d old hj
    refine ⟨q1.other W (Or.inr (slot_ne q2 p2 ?_ q3 p3)), q2, t', q3⟩
    intro e
    subst e
    exact ne (nodup_at h2 (i := j) (j := k) (x := n') (by simp [hj]) (by simp [hk]))
theorem COk.store {a : Addr} {ty : FieldType} {vs : List Value} {v : Value} {j : Nat} (H : COk Z a0 h a (.inr (ty, vs))) (hf : fits ty v = true) (W : Wr h h' a j v) : COk Z a0 h' a (.inr (ty, vs.set j v)) := by
  obtain ⟨h0, c, h1, h2, h3, h4⟩ := H
  refine ⟨h0.wr W, _, h1.same W, ?_, by simpa using h3, fun w hw => ?_⟩
  · show c.slots.setIfInBounds j v = _
    rw [h2]; simp
  · rcases List.mem_or_eq_of_mem_set hw with q | rfl
    · exact h4 w q
    · exact hf
def FOk (Z : State) (a0 : Array Value) (C : String) (fs : List (String × String × Value)) : Prop := (fs.map Prod.fst).Nodup ∧ ∀ f ∈ fs, Laid Z a0 C C f.1 f.2.1 ∧ ∃ t, parseFieldDescriptor f.2.1 = some t ∧ defaultValue t = f.2.2
theorem FOk.nil (C : String) : FOk Z a0 C [] := ⟨List.nodup_nil, fun f hf => nomatch hf⟩
theorem FOk.cons {C n d : String} {t : FieldType} {fs : List (String × String × Value)} (H : FOk Z a0 C fs) (L : Laid Z a0 C C n d) (ht : parseFieldDescriptor d = some t) (hn : n ∉ fs.map Prod.fst) : FOk Z a0 C ((n, d, defaultValue t) :: fs) := by
  refine ⟨by simp only [List.map_cons]; exact List.nodup_cons.mpr ⟨hn, H.1⟩, fun f hf => ?_⟩
  rcases List.mem_cons.mp hf with rfl | q
  · exact ⟨L, t, ht, rfl⟩
  · exact H.2 f q
theorem set_at {i : Nat} {c X : ACell} (h : A[i]? = some c) : (A.set i X)[i]? = some X := by
  obtain ⟨hl, -⟩ := List.getElem?_eq_some_iff.mp h
  simp [hl]
theorem set_ne {i j : Nat} {c X : ACell} (ne : i ≠ j) (h : A[j]? = some c) : (A.set i X)[j]? = some c := by
  rw [List.getElem?_set_ne ne]; exact h
end Reps
/-- Java's x >>> y -/
def ushr (x y : Int32) : Int32 := (x.toUInt32 >>> (y &&& 31).toUInt32).toInt32
def ushrL (x : Int64) (y : Int32) : Int64 := (x.toUInt64 >>> (y &&& 0x3f).toInt64.toUInt64).toInt64
abbrev KK := Nat → List Slot → List Value → AHeap → Nat → Nat → Prop
def Gd (l : Launch) (Z : State) (a0 : Array Value) (n0 b : Nat) (R : Room) (cs ss : Nat) (own nm : String) (code : ByteArray) (ml : Nat) (ret : Option FieldType) (Q : Option Value → AHeap → Prop) (K : KK) : Prop :=
  ∃ (p : Program) (e : Env) (s : State) (m : MethodId) (args : Array Value) (below : List Frame) (meth : Method) (c : Code),
    p.tables.exec = Jvm.exec ∧ c.code = code ∧ c.maxLocals = ml ∧ s.vm.findClass own = some m.cls ∧ meth.name = nm ∧ Z.Warmed39 s.vm ∧ meth.sig.returnType = ret ∧ meth.locks = false ∧ s.heap.size = n0 + b ∧
    K = fun pc Ls st A k n => ∀ (T : State) (locs : List Loc), Stand p l e R s m args below meth c T locs k n → Fr n0 locs → A.length = b + k → Rep Z a0 n0 T.heap A →
      ∃ s₂ o, Steps p.tables e below (T.setTop (mkF m pc Ls.toArray st)) s₂ ∧ s₂.status = .running ∧ Ended s₂ below o ∧ ∃ v L, o = .returned v ∧ (Fr n0 L ∧ ∃ A', Q v A' ∧ Rep Z a0 n0 s₂.heap A') ∧ FrameEnd s o s₂ L cs ss
def Meth (l : Launch) (Z : State) (a0 : Array Value) (ws : List Jvm.Cond) (y : MethodName) (bytes : ByteArray) (maxL : Nat) (ret : Option FieldType) (rm : Room) (cs ss : Nat) (n0 : Nat) (as : Array Value) (A : AHeap) (Q : Option Value → AHeap → Prop) : Prop :=
  ∀ h0, Rep Z a0 n0 h0 A → MetFree l y (head1 (Jvm.Cond.code y bytes maxL ret :: ws) rm) (fun a U => a = as ∧ Z.Warmed39 U.vm ∧ U.heap = h0) (fun _ _ _ _ _ => True)
    (fun _ U o U' => ∃ v L, o = .returned v ∧ (Fr n0 L ∧ ∃ A', Q v A' ∧ Rep Z a0 n0 U'.heap A') ∧ FrameEnd U o U' L cs ss)
section Rules
variable {l : Launch} {Z : State} {a0 : Array Value} {n0 b : Nat} {R : Room} {cs ss : Nat} {own nm : String} {code : ByteArray} {ml : Nat} {ret : Option FieldType} {Q : Option Value → AHeap → Prop} {K : KK} {pc pc' : Nat} {Ls Ls' : List Slot} {st st' : List Value} {A A' : AHeap} {k n k' n' : Nat}
theorem Meth.of {ws : List Jvm.Cond} {y : MethodName} {as : Array Value} (hp : plainName y.cls = true) (he : ∀ m : MethodId, entryFrame m as ml = mkF m 0 Ls.toArray []) (body : ∀ K, Gd l Z a0 n0 A.length R cs ss y.cls y.name code ml ret Q K → K 0 Ls [] A 0 0) : Meth l Z a0 ws y code ml ret R cs ss n0 as A Q := by
  intro h0 hR
  refine MetFree.of_bodySF (plainFor_of_name hp) hisR ?_
  intro p e s m args below meth c s₁ Bd hml0 hP hK
  obtain ⟨rfl, hZ, hh⟩ := hP
  have X0 : Stand p l e R s m args below meth c s₁ [] 0 0 := Stand.of_body Bd
  have e0 : s₁.heap = h0 := by rw [← hh, Bd.state]; rfl
  have q := body _ ⟨p, e, s, m, args, below, meth, c, Bd.exec, Bd.bytes, hml0, findClass_of_methodNamed Bd.named, (name_of_methodNamed Bd.named Bd.method).1, hZ, Bd.returns, Bd.notSynchronized, by rw [hh]; exact hR.1, rfl⟩ s₁ [] X0 (Fr.nil n0) rfl (by rw [e0]; exact hR)
  obtain ⟨s₂, o, h1, h2, h3, h4⟩ := q
  exact ⟨s₂, o, castTop (he m) h1, h2, h3, h4⟩
theorem Gd.run1 (G : Gd l Z a0 n0 b R cs ss own nm code ml ret Q K) (hst : ∀ (p : Program) (e : Env) (below : List Frame) (T target : State) (m : MethodId) (c : Code), p.tables.exec = Jvm.exec → c.code = code → At T m c below → Steps p.tables e below (T.setTop (mkF m pc' Ls'.toArray st')) target → Steps p.tables e below (T.setTop (mkF m pc Ls.toArray st)) target) (h : K pc' Ls' st' A k n) : K pc Ls st A k n := by
  obtain ⟨p, e, s, m, args, below, meth, c, hx, hby, -, -, -, -, -, -, -, rfl⟩ := G
  intro T locs X N hA RP
  obtain ⟨s₂, o, hs, r⟩ := h T locs X N hA RP
  exact ⟨s₂, o, hst p e below T s₂ m c hx hby X.here hs, r⟩
/-- the count of slots may grow -/
theorem Gd.more (G : Gd l Z a0 n0 b R cs ss own nm code ml ret Q K) (hn : n ≤ n') (h : K pc Ls st A k n') : K pc Ls st A k n := by
  obtain ⟨p, e, s, m, args, below, meth, c, hx, hby, -, -, -, -, -, -, -, rfl⟩ := G
  intro T locs X N hA RP
  exact h T locs (X.more (Nat.le_refl _) hn) N hA RP
theorem lat {L : List Slot} {i : Nat} {o : Slot} (h : L[i]? = some o) : L.toArray[i]? = some o := by simpa using h
theorem Gd.iloadN (G : Gd l Z a0 n0 b R cs ss own nm code ml ret Q K) {i : Fin 4} {v : Int32} (hd : decode code pc = .ok (.iload_n i, 1)) (hl : Ls[i.val]? = some (.val (.int v))) (h : K (pc + 1) Ls (.int v :: st) A k n) : K pc Ls st A k n :=
  G.run1 (fun _ _ _ _ _ _ _ hx hby hA r => XS.iloadN hA hx rfl (hb hby hd) (lat hl) r) h
theorem Gd.iload (G : Gd l Z a0 n0 b R cs ss own nm code ml ret Q K) {i : Nat} {v : Int32} (hd : decode code pc = .ok (.iload i, 2)) (hl : Ls[i]? = some (.val (.int v))) (h : K (pc + 2) Ls (.int v :: st) A k n) : K pc Ls st A k n :=
  G.run1 (fun _ _ _ _ _ _ _ hx hby hA r => XS.iload hA hx rfl (hb hby hd) (lat hl) r) h
theorem Gd.lloadN (G : Gd l Z a0 n0 b R cs ss own nm code ml ret Q K) {i : Fin 4} {v : Int64} (hd : decode code pc = .ok (.lload_n i, 1)) (hl : Ls[i.val]? = some (.val (.long v))) (h : K (pc + 1) Ls (.long v :: st) A k n) : K pc Ls st A k n :=
  G.run1 (fun _ _ _ _ _ _ _ hx hby hA r => XS.lloadN hA hx rfl (hb hby hd) (lat hl) r) h
theorem Gd.lload (G : Gd l Z a0 n0 b R cs ss own nm code ml ret Q K) {i : Nat} {v : Int64} (hd : decode code pc = .ok (.lload i, 2)) (hl : Ls[i]? = some (.val (.long v))) (h : K (pc + 2) Ls (.long v :: st) A k n) : K pc Ls st A k n :=
  G.run1 (fun _ _ _ _ _ _ _ hx hby hA r => XS.lload hA hx rfl (hb hby hd) (lat hl) r) h
theorem Gd.aloadN (G : Gd l Z a0 n0 b R cs ss own nm code ml ret Q K) {i : Fin 4} {v : Value} (hd : decode code pc = .ok (.aload_n i, 1)) (hl : Ls[i.val]? = some (.val v)) (hv : v.isRef = true) (h : K (pc + 1) Ls (v :: st) A k n) : K pc Ls st A k n :=
  G.run1 (fun _ _ _ _ _ _ _ hx hby hA r => XS.aloadN hA hx rfl (hb hby hd) (lat hl) hv r) h
theorem Gd.aload (G : Gd l Z a0 n0 b R cs ss own nm code ml ret Q K) {i : Nat} {v : Value} (hd : decode code pc = .ok (.aload i, 2)) (hl : Ls[i]? = some (.val v)) (hv : v.isRef = true) (h : K (pc + 2) Ls (v :: st) A k n) : K pc Ls st A k n :=
  G.run1 (fun _ _ _ _ _ _ _ hx hby hA r => XS.aload hA hx rfl (hb hby hd) (lat hl) hv r) h
theorem Gd.iconst (G : Gd l Z a0 n0 b R cs ss own nm code ml ret Q K) {i : Int} (z : Int32) (hd : decode code pc = .ok (.iconst i, 1)) (hz : Int32.ofInt i = z) (h : K (pc + 1) Ls (.int z :: st) A k n) : K pc Ls st A k n :=
  G.run1 (fun _ _ _ _ _ _ _ hx hby hA r => XS.iconst hA hx rfl (hb hby hd) (by rw [hz]; exact r)) h
theorem Gd.bipush (G : Gd l Z a0 n0 b R cs ss own nm code ml ret Q K) {i : Int} (z : Int32) (hd : decode code pc = .ok (.bipush i, 2)) (hz : (Int8.ofInt i).toInt32 = z) (h : K (pc + 2) Ls (.int z :: st) A k n) : K pc Ls st A k n :=
  G.run1 (fun _ _ _ _ _ _ _ hx hby hA r => XS.bipush hA hx rfl (hb hby hd) (by rw [hz]; exact r)) h
theorem Gd.sipush (G : Gd l Z a0 n0 b R cs ss own nm code ml ret Q K) {i : Int} (z : Int32) (hd : decode code pc = .ok (.sipush i, 3)) (hz : (Int16.ofInt i).toInt32 = z) (h : K (pc + 3) Ls (.int z :: st) A k n) : K pc Ls st A k n :=
  G.run1 (fun _ _ _ _ _ _ _ hx hby hA r => XS.sipush hA hx rfl (hb hby hd) (by rw [hz]; exact r)) h
theorem Gd.lconst (G : Gd l Z a0 n0 b R cs ss own nm code ml ret Q K) {i : Fin 2} (z : Int64) (hd : decode code pc = .ok (.lconst i, 1)) (hz : Int64.ofNat i = z) (h : K (pc + 1) Ls (.long z :: st) A k n) : K pc Ls st A k n :=
  G.run1 (fun _ _ _ _ _ _ _ hx hby hA r => XS.lconst hA hx rfl (hb hby hd) (by rw [hz]; exact r)) h
theorem Gd.aconstNull (G : Gd l Z a0 n0 b R cs ss own nm code ml ret Q K) (hd : decode code pc = .ok (.aconst_null, 1)) (h : K (pc + 1) Ls (.null :: st) A k n) : K pc Ls st A k n :=
  G.run1 (fun _ _ _ _ _ _ _ hx hby hA r => XS.aconstNull hA hx rfl (hb hby hd) r) h
theorem Gd.iadd (G : Gd l Z a0 n0 b R cs ss own nm code ml ret Q K) {x y : Int32} (hd : decode code pc = .ok (.iadd, 1)) (h : K (pc + 1) Ls (.int (x + y) :: st) A k n) : K pc Ls (.int y :: .int x :: st) A k n :=
  G.run1 (fun _ _ _ _ _ _ _ hx hby hA r => XS.iadd hA hx rfl (hb hby hd) rfl r) h
theorem Gd.isub (G : Gd l Z a0 n0 b R cs ss own nm code ml ret Q K) {x y : Int32} (hd : decode code pc = .ok (.isub, 1)) (h : K (pc + 1) Ls (.int (x - y) :: st) A k n) : K pc Ls (.int y :: .int x :: st) A k n :=
  G.run1 (fun _ _ _ _ _ _ _ hx hby hA r => XS.isub hA hx rfl (hb hby hd) rfl r) h
theorem Gd.imul (G : Gd l Z a0 n0 b R cs ss own nm code ml ret Q K) {x y : Int32} (hd : decode code pc = .ok (.imul, 1)) (h : K (pc + 1) Ls (.int (x * y) :: st) A k n) : K pc Ls (.int y :: .int x :: st) A k n :=
  G.run1 (fun _ _ _ _ _ _ _ hx hby hA r => XS.imul hA hx rfl (hb hby hd) rfl r) h
theorem Gd.iand (G : Gd l Z a0 n0 b R cs ss own nm code ml ret Q K) {x y : Int32} (hd : decode code pc = .ok (.iand, 1)) (h : K (pc + 1) Ls (.int (x &&& y) :: st) A k n) : K pc Ls (.int y :: .int x :: st) A k n :=
  G.run1 (fun _ _ _ _ _ _ _ hx hby hA r => XS.iand hA hx rfl (hb hby hd) rfl r) h
theorem Gd.ior (G : Gd l Z a0 n0 b R cs ss own nm code ml ret Q K) {x y : Int32} (hd : decode code pc = .ok (.ior, 1)) (h : K (pc + 1) Ls (.int (x ||| y) :: st) A k n) : K pc Ls (.int y :: .int x :: st) A k n :=
  G.run1 (fun _ _ _ _ _ _ _ hx hby hA r => XS.ior hA hx rfl (hb hby hd) rfl r) h
theorem Gd.ixor (G : Gd l Z a0 n0 b R cs ss own nm code ml ret Q K) {x y : Int32} (hd : decode code pc = .ok (.ixor, 1)) (h : K (pc + 1) Ls (.int (x ^^^ y) :: st) A k n) : K pc Ls (.int y :: .int x :: st) A k n :=
  G.run1 (fun _ _ _ _ _ _ _ hx hby hA r => XS.ixor hA hx rfl (hb hby hd) rfl r) h
theorem Gd.ishl (G : Gd l Z a0 n0 b R cs ss own nm code ml ret Q K) {x y : Int32} (hd : decode code pc = .ok (.ishl, 1)) (h : K (pc + 1) Ls (.int (x <<< (y &&& 31)) :: st) A k n) : K pc Ls (.int y :: .int x :: st) A k n :=
  G.run1 (fun _ _ _ _ _ _ _ hx hby hA r => XS.ishl hA hx rfl (hb hby hd) rfl r) h
theorem Gd.ishr (G : Gd l Z a0 n0 b R cs ss own nm code ml ret Q K) {x y : Int32} (hd : decode code pc = .ok (.ishr, 1)) (h : K (pc + 1) Ls (.int (x >>> (y &&& 31)) :: st) A k n) : K pc Ls (.int y :: .int x :: st) A k n :=
  G.run1 (fun _ _ _ _ _ _ _ hx hby hA r => XS.ishr hA hx rfl (hb hby hd) rfl r) h
theorem Gd.iushr (G : Gd l Z a0 n0 b R cs ss own nm code ml ret Q K) {x y : Int32} (hd : decode code pc = .ok (.iushr, 1)) (h : K (pc + 1) Ls (.int (ushr x y) :: st) A k n) : K pc Ls (.int y :: .int x :: st) A k n :=
  G.run1 (fun _ _ _ _ _ _ _ hx hby hA r => XS.iushr hA hx rfl (hb hby hd) rfl r) h
theorem Gd.ladd (G : Gd l Z a0 n0 b R cs ss own nm code ml ret Q K) {x y : Int64} (hd : decode code pc = .ok (.ladd, 1)) (h : K (pc + 1) Ls (.long (x + y) :: st) A k n) : K pc Ls (.long y :: .long x :: st) A k n :=
  G.run1 (fun _ _ _ _ _ _ _ hx hby hA r => XS.ladd hA hx rfl (hb hby hd) rfl r) h
theorem Gd.lsub (G : Gd l Z a0 n0 b R cs ss own nm code ml ret Q K) {x y : Int64} (hd : decode code pc = .ok (.lsub, 1)) (h : K (pc + 1) Ls (.long (x - y) :: st) A k n) : K pc Ls (.long y :: .long x :: st) A k n :=
  G.run1 (fun _ _ _ _ _ _ _ hx hby hA r => XS.lsub hA hx rfl (hb hby hd) rfl r) h
theorem Gd.lmul (G : Gd l Z a0 n0 b R cs ss own nm code ml ret Q K) {x y : Int64} (hd : decode code pc = .ok (.lmul, 1)) (h : K (pc + 1) Ls (.long (x * y) :: st) A k n) : K pc Ls (.long y :: .long x :: st) A k n :=
  G.run1 (fun _ _ _ _ _ _ _ hx hby hA r => XS.lmul hA hx rfl (hb hby hd) rfl r) h
theorem Gd.land (G : Gd l Z a0 n0 b R cs ss own nm code ml ret Q K) {x y : Int64} (hd : decode code pc = .ok (.land, 1)) (h : K (pc + 1) Ls (.long (x &&& y) :: st) A k n) : K pc Ls (.long y :: .long x :: st) A k n :=
  G.run1 (fun _ _ _ _ _ _ _ hx hby hA r => XS.land hA hx rfl (hb hby hd) rfl r) h
theorem Gd.lor (G : Gd l Z a0 n0 b R cs ss own nm code ml ret Q K) {x y : Int64} (hd : decode code pc = .ok (.lor, 1)) (h : K (pc + 1) Ls (.long (x ||| y) :: st) A k n) : K pc Ls (.long y :: .long x :: st) A k n :=
  G.run1 (fun _ _ _ _ _ _ _ hx hby hA r => XS.lor hA hx rfl (hb hby hd) rfl r) h
theorem Gd.lxor (G : Gd l Z a0 n0 b R cs ss own nm code ml ret Q K) {x y : Int64} (hd : decode code pc = .ok (.lxor, 1)) (h : K (pc + 1) Ls (.long (x ^^^ y) :: st) A k n) : K pc Ls (.long y :: .long x :: st) A k n :=
  G.run1 (fun _ _ _ _ _ _ _ hx hby hA r => XS.lxor hA hx rfl (hb hby hd) rfl r) h
theorem Gd.lshl (G : Gd l Z a0 n0 b R cs ss own nm code ml ret Q K) {x : Int64} {y : Int32} (hd : decode code pc = .ok (.lshl, 1)) (h : K (pc + 1) Ls (.long (x <<< (y &&& 0x3f).toInt64) :: st) A k n) : K pc Ls (.int y :: .long x :: st) A k n :=
  G.run1 (fun _ _ _ _ _ _ _ hx hby hA r => XS.lshl hA hx rfl (hb hby hd) rfl r) h
theorem Gd.lshr (G : Gd l Z a0 n0 b R cs ss own nm code ml ret Q K) {x : Int64} {y : Int32} (hd : decode code pc = .ok (.lshr, 1)) (h : K (pc + 1) Ls (.long (x >>> (y &&& 0x3f).toInt64) :: st) A k n) : K pc Ls (.int y :: .long x :: st) A k n :=
  G.run1 (fun _ _ _ _ _ _ _ hx hby hA r => XS.lshr hA hx rfl (hb hby hd) rfl r) h
theorem Gd.lushr (G : Gd l Z a0 n0 b R cs ss own nm code ml ret Q K) {x : Int64} {y : Int32} (hd : decode code pc = .ok (.lushr, 1)) (h : K (pc + 1) Ls (.long (ushrL x y) :: st) A k n) : K pc Ls (.int y :: .long x :: st) A k n :=
  G.run1 (fun _ _ _ _ _ _ _ hx hby hA r => XS.lushr hA hx rfl (hb hby hd) rfl r) h
theorem Gd.ineg (G : Gd l Z a0 n0 b R cs ss own nm code ml ret Q K) {x : Int32} (hd : decode code pc = .ok (.ineg, 1)) (h : K (pc + 1) Ls (.int (-x) :: st) A k n) : K pc Ls (.int x :: st) A k n :=
  G.run1 (fun _ _ _ _ _ _ _ hx hby hA r => XS.ineg hA hx rfl (hb hby hd) rfl r) h
theorem Gd.lneg (G : Gd l Z a0 n0 b R cs ss own nm code ml ret Q K) {x : Int64} (hd : decode code pc = .ok (.lneg, 1)) (h : K (pc + 1) Ls (.long (-x) :: st) A k n) : K pc Ls (.long x :: st) A k n :=
  G.run1 (fun _ _ _ _ _ _ _ hx hby hA r => XS.lneg hA hx rfl (hb hby hd) rfl r) h
theorem Gd.i2l (G : Gd l Z a0 n0 b R cs ss own nm code ml ret Q K) {x : Int32} (hd : decode code pc = .ok (.i2l, 1)) (h : K (pc + 1) Ls (.long (x.toInt64) :: st) A k n) : K pc Ls (.int x :: st) A k n :=
  G.run1 (fun _ _ _ _ _ _ _ hx hby hA r => XS.i2l hA hx rfl (hb hby hd) rfl r) h
theorem Gd.l2i (G : Gd l Z a0 n0 b R cs ss own nm code ml ret Q K) {x : Int64} (hd : decode code pc = .ok (.l2i, 1)) (h : K (pc + 1) Ls (.int (x.toInt32) :: st) A k n) : K pc Ls (.long x :: st) A k n :=
  G.run1 (fun _ _ _ _ _ _ _ hx hby hA r => XS.l2i hA hx rfl (hb hby hd) rfl r) h
theorem Gd.i2b (G : Gd l Z a0 n0 b R cs ss own nm code ml ret Q K) {x : Int32} (hd : decode code pc = .ok (.i2b, 1)) (h : K (pc + 1) Ls (.int (x.toInt8.toInt32) :: st) A k n) : K pc Ls (.int x :: st) A k n :=
  G.run1 (fun _ _ _ _ _ _ _ hx hby hA r => XS.i2b hA hx rfl (hb hby hd) rfl r) h
theorem Gd.i2c (G : Gd l Z a0 n0 b R cs ss own nm code ml ret Q K) {x : Int32} (hd : decode code pc = .ok (.i2c, 1)) (h : K (pc + 1) Ls (.int (x.toUInt32.toUInt16.toUInt32.toInt32) :: st) A k n) : K pc Ls (.int x :: st) A k n :=
  G.run1 (fun _ _ _ _ _ _ _ hx hby hA r => XS.i2c hA hx rfl (hb hby hd) rfl r) h
theorem Gd.i2s (G : Gd l Z a0 n0 b R cs ss own nm code ml ret Q K) {x : Int32} (hd : decode code pc = .ok (.i2s, 1)) (h : K (pc + 1) Ls (.int (x.toInt16.toInt32) :: st) A k n) : K pc Ls (.int x :: st) A k n :=
  G.run1 (fun _ _ _ _ _ _ _ hx hby hA r => XS.i2s hA hx rfl (hb hby hd) rfl r) h
theorem Gd.irem (G : Gd l Z a0 n0 b R cs ss own nm code ml ret Q K) {x y : Int32} (hd : decode code pc = .ok (.irem, 1)) (hy : y ≠ 0) (h : K (pc + 1) Ls (.int (x % y) :: st) A k n) : K pc Ls (.int y :: .int x :: st) A k n :=
  G.run1 (fun _ _ _ _ _ _ _ hx hby hA r => XS.irem hA hx rfl (hb hby hd) rfl hy (by have q : x - x / y * y = x % y := irem_eq_mod x y; rw [q]; exact r)) h
theorem Gd.lcmp (G : Gd l Z a0 n0 b R cs ss own nm code ml ret Q K) {x y : Int64} (hd : decode code pc = .ok (.lcmp, 1)) (h : K (pc + 1) Ls (.int (lcmpW x y) :: st) A k n) : K pc Ls (.long y :: .long x :: st) A k n :=
  G.run1 (fun _ _ _ _ _ _ _ hx hby hA r => XS.lcmp hA hx rfl (hb hby hd) rfl r) h
theorem Gd.dup (G : Gd l Z a0 n0 b R cs ss own nm code ml ret Q K) {x : Value} (hd : decode code pc = .ok (.dup, 1)) (hc : x.category = 1) (h : K (pc + 1) Ls (x :: x :: st) A k n) : K pc Ls (x :: st) A k n :=
  G.run1 (fun _ _ _ _ _ _ _ hx hby hA r => XS.dup hA hx rfl (hb hby hd) rfl hc r) h
theorem Gd.pop (G : Gd l Z a0 n0 b R cs ss own nm code ml ret Q K) {x : Value} (hd : decode code pc = .ok (.pop, 1)) (hc : x.category = 1) (h : K (pc + 1) Ls st A k n) : K pc Ls (x :: st) A k n :=
  G.run1 (fun _ _ _ _ _ _ _ hx hby hA r => XS.pop hA hx rfl (hb hby hd) rfl hc r) h
theorem Gd.dupX1 (G : Gd l Z a0 n0 b R cs ss own nm code ml ret Q K) {x y : Value} (hd : decode code pc = .ok (.dup_x1, 1)) (hc : x.category = 1) (hc' : y.category = 1) (h : K (pc + 1) Ls (x :: y :: x :: st) A k n) : K pc Ls (x :: y :: st) A k n :=
  G.run1 (fun _ _ _ _ _ _ _ hx hby hA r => XS.dupX1 hA hx rfl (hb hby hd) rfl hc hc' r) h
theorem Gd.dup2 (G : Gd l Z a0 n0 b R cs ss own nm code ml ret Q K) {x y : Value} (hd : decode code pc = .ok (.dup2, 1)) (hc : x.category = 1) (hc' : y.category = 1) (h : K (pc + 1) Ls (x :: y :: x :: y :: st) A k n) : K pc Ls (x :: y :: st) A k n :=
  G.run1 (fun _ _ _ _ _ _ _ hx hby hA r => Jvm.Free.XT.dup2 hA hx rfl (hb hby hd) rfl hc hc' r) h
theorem Gd.astoreN3 (G : Gd l Z a0 n0 b R cs ss own nm code ml ret Q K) {u0 u1 u2 o : Slot} {r : List Slot} {x : Value} (hd : decode code pc = .ok (.astore_n ⟨3, by decide⟩, 1)) (hv : x.isRef = true) (hl : storeLocals (u0 :: u1 :: u2 :: o :: r).toArray 3 (x) = some (u0 :: u1 :: u2 :: .val x :: r).toArray) (h : K (pc + 1) (u0 :: u1 :: u2 :: .val x :: r) st A k n) : K pc (u0 :: u1 :: u2 :: o :: r) (x :: st) A k n :=
  G.run1 (fun _ _ _ _ _ _ _ hx hby hA r => XS.astoreN hA hx rfl (hb hby hd) rfl hv hl r) h
theorem Gd.istore4 (G : Gd l Z a0 n0 b R cs ss own nm code ml ret Q K) {u0 u1 u2 u3 o : Slot} {r : List Slot} {x : Int32} (hd : decode code pc = .ok (.istore 4, 2)) (hl : storeLocals (u0 :: u1 :: u2 :: u3 :: o :: r).toArray 4 (.int x) = some (u0 :: u1 :: u2 :: u3 :: .val (.int x) :: r).toArray) (h : K (pc + 2) (u0 :: u1 :: u2 :: u3 :: .val (.int x) :: r) st A k n) : K pc (u0 :: u1 :: u2 :: u3 :: o :: r) (.int x :: st) A k n :=
  G.run1 (fun _ _ _ _ _ _ _ hx hby hA r => XS.istore hA hx rfl (hb hby hd) rfl hl r) h
theorem Gd.istore5 (G : Gd l Z a0 n0 b R cs ss own nm code ml ret Q K) {u0 u1 u2 u3 u4 o : Slot} {r : List Slot} {x : Int32} (hd : decode code pc = .ok (.istore 5, 2)) (hl : storeLocals (u0 :: u1 :: u2 :: u3 :: u4 :: o :: r).toArray 5 (.int x) = some (u0 :: u1 :: u2 :: u3 :: u4 :: .val (.int x) :: r).toArray) (h : K (pc + 2) (u0 :: u1 :: u2 :: u3 :: u4 :: .val (.int x) :: r) st A k n) : K pc (u0 :: u1 :: u2 :: u3 :: u4 :: o :: r) (.int x :: st) A k n :=
  G.run1 (fun _ _ _ _ _ _ _ hx hby hA r => XS.istore hA hx rfl (hb hby hd) rfl hl r) h
theorem Gd.istore6 (G : Gd l Z a0 n0 b R cs ss own nm code ml ret Q K) {u0 u1 u2 u3 u4 u5 o : Slot} {r : List Slot} {x : Int32} (hd : decode code pc = .ok (.istore 6, 2)) (hl : storeLocals (u0 :: u1 :: u2 :: u3 :: u4 :: u5 :: o :: r).toArray 6 (.int x) = some (u0 :: u1 :: u2 :: u3 :: u4 :: u5 :: .val (.int x) :: r).toArray) (h : K (pc + 2) (u0 :: u1 :: u2 :: u3 :: u4 :: u5 :: .val (.int x) :: r) st A k n) : K pc (u0 :: u1 :: u2 :: u3 :: u4 :: u5 :: o :: r) (.int x :: st) A k n :=
  G.run1 (fun _ _ _ _ _ _ _ hx hby hA r => XS.istore hA hx rfl (hb hby hd) rfl hl r) h
theorem Gd.istore7 (G : Gd l Z a0 n0 b R cs ss own nm code ml ret Q K) {u0 u1 u2 u3 u4 u5 u6 o : Slot} {r : List Slot} {x : Int32} (hd : decode code pc = .ok (.istore 7, 2)) (hl : storeLocals (u0 :: u1 :: u2 :: u3 :: u4 :: u5 :: u6 :: o :: r).toArray 7 (.int x) = some (u0 :: u1 :: u2 :: u3 :: u4 :: u5 :: u6 :: .val (.int x) :: r).toArray) (h : K (pc + 2) (u0 :: u1 :: u2 :: u3 :: u4 :: u5 :: u6 :: .val (.int x) :: r) st A k n) : K pc (u0 :: u1 :: u2 :: u3 :: u4 :: u5 :: u6 :: o :: r) (.int x :: st) A k n :=
  G.run1 (fun _ _ _ _ _ _ _ hx hby hA r => XS.istore hA hx rfl (hb hby hd) rfl hl r) h
theorem Gd.goto (G : Gd l Z a0 n0 b R cs ss own nm code ml ret Q K) {o : Int} (pc' : Nat) (hd : decode code pc = .ok (.goto o, 3)) (ho : 0 ≤ (pc : Int) + o) (hp : ((pc : Int) + o).toNat = pc') (h : K pc' Ls st A k n) : K pc Ls st A k n :=
  G.run1 (fun _ _ _ _ _ _ _ hx hby hA r => XS.goto hA hx rfl rfl (hb hby hd) ho hp r) h
theorem Gd.icmp (G : Gd l Z a0 n0 b R cs ss own nm code ml ret Q K) {cd : ClassFile.Cond} {o : Int} {x y : Int32} (pc' : Nat) (hd : decode code pc = .ok (.if_icmp cd o, 3)) (ho : 0 ≤ (pc : Int) + o) (hp : ((pc : Int) + o).toNat = pc') (h1 : if_icmp.holds cd x y = true → K pc' Ls st A k n) (h2 : if_icmp.holds cd x y = false → K (pc + 3) Ls st A k n) : K pc Ls (.int y :: .int x :: st) A k n := by
  cases q : if_icmp.holds cd x y with
  | true => exact G.run1 (fun _ _ _ _ _ _ _ hx hby hA r => XS.icmpYes hA hx rfl rfl (hb hby hd) rfl q ho hp r) (h1 q)
  | false => exact G.run1 (fun _ _ _ _ _ _ _ hx hby hA r => XS.icmpNo hA hx rfl (hb hby hd) rfl q r) (h2 q)
theorem Gd.ifc (G : Gd l Z a0 n0 b R cs ss own nm code ml ret Q K) {cd : ClassFile.Cond} {o : Int} {x : Int32} (pc' : Nat) (hd : decode code pc = .ok (.ifCond cd o, 3)) (ho : 0 ≤ (pc : Int) + o) (hp : ((pc : Int) + o).toNat = pc') (h1 : if_icmp.holds cd x 0 = true → K pc' Ls st A k n) (h2 : if_icmp.holds cd x 0 = false → K (pc + 3) Ls st A k n) : K pc Ls (.int x :: st) A k n := by
  cases q : if_icmp.holds cd x 0 with
  | true => exact G.run1 (fun _ _ _ _ _ _ _ hx hby hA r => XS.ifYes hA hx rfl rfl (hb hby hd) rfl ((if0 _ _).trans q) ho hp r) (h1 q)
  | false => exact G.run1 (fun _ _ _ _ _ _ _ hx hby hA r => XS.ifNo hA hx rfl (hb hby hd) rfl ((if0 _ _).trans q) r) (h2 q)
theorem hI_eq {x y : Int32} : (if_icmp.holds .eq x y = true → x = y) ∧ (if_icmp.holds .eq x y = false → ¬ x = y) := by simp [if_icmp.holds, Int32.not_lt, Int32.not_le]
theorem Gd.icmp_eq (G : Gd l Z a0 n0 b R cs ss own nm code ml ret Q K) {o : Int} {x y : Int32} (pc' : Nat) (hd : decode code pc = .ok (.if_icmp .eq o, 3)) (ho : 0 ≤ (pc : Int) + o) (hp : ((pc : Int) + o).toNat = pc') (h1 : x = y → K pc' Ls st A k n) (h2 : ¬ x = y → K (pc + 3) Ls st A k n) : K pc Ls (.int y :: .int x :: st) A k n :=
  G.icmp pc' hd ho hp (fun q => h1 (hI_eq.1 q)) (fun q => h2 (hI_eq.2 q))
theorem Gd.if_eq (G : Gd l Z a0 n0 b R cs ss own nm code ml ret Q K) {o : Int} {x : Int32} (pc' : Nat) (hd : decode code pc = .ok (.ifCond .eq o, 3)) (ho : 0 ≤ (pc : Int) + o) (hp : ((pc : Int) + o).toNat = pc') (h1 : x = 0 → K pc' Ls st A k n) (h2 : ¬ x = 0 → K (pc + 3) Ls st A k n) : K pc Ls (.int x :: st) A k n :=
  G.ifc pc' hd ho hp (fun q => h1 (hI_eq.1 q)) (fun q => h2 (hI_eq.2 q))
theorem hI_ne {x y : Int32} : (if_icmp.holds .ne x y = true → ¬ x = y) ∧ (if_icmp.holds .ne x y = false → x = y) := by simp [if_icmp.holds, Int32.not_lt, Int32.not_le]
theorem Gd.icmp_ne (G : Gd l Z a0 n0 b R cs ss own nm code ml ret Q K) {o : Int} {x y : Int32} (pc' : Nat) (hd : decode code pc = .ok (.if_icmp .ne o, 3)) (ho : 0 ≤ (pc : Int) + o) (hp : ((pc : Int) + o).toNat = pc') (h1 : ¬ x = y → K pc' Ls st A k n) (h2 : x = y → K (pc + 3) Ls st A k n) : K pc Ls (.int y :: .int x :: st) A k n :=
  G.icmp pc' hd ho hp (fun q => h1 (hI_ne.1 q)) (fun q => h2 (hI_ne.2 q))
theorem Gd.if_ne (G : Gd l Z a0 n0 b R cs ss own nm code ml ret Q K) {o : Int} {x : Int32} (pc' : Nat) (hd : decode code pc = .ok (.ifCond .ne o, 3)) (ho : 0 ≤ (pc : Int) + o) (hp : ((pc : Int) + o).toNat = pc') (h1 : ¬ x = 0 → K pc' Ls st A k n) (h2 : x = 0 → K (pc + 3) Ls st A k n) : K pc Ls (.int x :: st) A k n :=
  G.ifc pc' hd ho hp (fun q => h1 (hI_ne.1 q)) (fun q => h2 (hI_ne.2 q))
theorem hI_lt {x y : Int32} : (if_icmp.holds .lt x y = true → x < y) ∧ (if_icmp.holds .lt x y = false → ¬ x < y) := by simp [if_icmp.holds, Int32.not_lt, Int32.not_le]
theorem Gd.icmp_lt (G : Gd l Z a0 n0 b R cs ss own nm code ml ret Q K) {o : Int} {x y : Int32} (pc' : Nat) (hd : decode code pc = .ok (.if_icmp .lt o, 3)) (ho : 0 ≤ (pc : Int) + o) (hp : ((pc : Int) + o).toNat = pc') (h1 : x < y → K pc' Ls st A k n) (h2 : ¬ x < y → K (pc + 3) Ls st A k n) : K pc Ls (.int y :: .int x :: st) A k n :=
  G.icmp pc' hd ho hp (fun q => h1 (hI_lt.1 q)) (fun q => h2 (hI_lt.2 q))
theorem Gd.if_lt (G : Gd l Z a0 n0 b R cs ss own nm code ml ret Q K) {o : Int} {x : Int32} (pc' : Nat) (hd : decode code pc = .ok (.ifCond .lt o, 3)) (ho : 0 ≤ (pc : Int) + o) (hp : ((pc : Int) + o).toNat = pc') (h1 : x < 0 → K pc' Ls st A k n) (h2 : ¬ x < 0 → K (pc + 3) Ls st A k n) : K pc Ls (.int x :: st) A k n :=
  G.ifc pc' hd ho hp (fun q => h1 (hI_lt.1 q)) (fun q => h2 (hI_lt.2 q))
theorem hI_ge {x y : Int32} : (if_icmp.holds .ge x y = true → ¬ x < y) ∧ (if_icmp.holds .ge x y = false → x < y) := by simp [if_icmp.holds, Int32.not_lt, Int32.not_le]
theorem Gd.icmp_ge (G : Gd l Z a0 n0 b R cs ss own nm code ml ret Q K) {o : Int} {x y : Int32} (pc' : Nat) (hd : decode code pc = .ok (.if_icmp .ge o, 3)) (ho : 0 ≤ (pc : Int) + o) (hp : ((pc : Int) + o).toNat = pc') (h1 : ¬ x < y → K pc' Ls st A k n) (h2 : x < y → K (pc + 3) Ls st A k n) : K pc Ls (.int y :: .int x :: st) A k n :=
  G.icmp pc' hd ho hp (fun q => h1 (hI_ge.1 q)) (fun q => h2 (hI_ge.2 q))
theorem Gd.if_ge (G : Gd l Z a0 n0 b R cs ss own nm code ml ret Q K) {o : Int} {x : Int32} (pc' : Nat) (hd : decode code pc = .ok (.ifCond .ge o, 3)) (ho : 0 ≤ (pc : Int) + o) (hp : ((pc : Int) + o).toNat = pc') (h1 : ¬ x < 0 → K pc' Ls st A k n) (h2 : x < 0 → K (pc + 3) Ls st A k n) : K pc Ls (.int x :: st) A k n :=
  G.ifc pc' hd ho hp (fun q => h1 (hI_ge.1 q)) (fun q => h2 (hI_ge.2 q))
theorem hI_gt {x y : Int32} : (if_icmp.holds .gt x y = true → y < x) ∧ (if_icmp.holds .gt x y = false → ¬ y < x) := by simp [if_icmp.holds, Int32.not_lt, Int32.not_le]
theorem Gd.icmp_gt (G : Gd l Z a0 n0 b R cs ss own nm code ml ret Q K) {o : Int} {x y : Int32} (pc' : Nat) (hd : decode code pc = .ok (.if_icmp .gt o, 3)) (ho : 0 ≤ (pc : Int) + o) (hp : ((pc : Int) + o).toNat = pc') (h1 : y < x → K pc' Ls st A k n) (h2 : ¬ y < x → K (pc + 3) Ls st A k n) : K pc Ls (.int y :: .int x :: st) A k n :=
  G.icmp pc' hd ho hp (fun q => h1 (hI_gt.1 q)) (fun q => h2 (hI_gt.2 q))
theorem Gd.if_gt (G : Gd l Z a0 n0 b R cs ss own nm code ml ret Q K) {o : Int} {x : Int32} (pc' : Nat) (hd : decode code pc = .ok (.ifCond .gt o, 3)) (ho : 0 ≤ (pc : Int) + o) (hp : ((pc : Int) + o).toNat = pc') (h1 : 0 < x → K pc' Ls st A k n) (h2 : ¬ 0 < x → K (pc + 3) Ls st A k n) : K pc Ls (.int x :: st) A k n :=
  G.ifc pc' hd ho hp (fun q => h1 (hI_gt.1 q)) (fun q => h2 (hI_gt.2 q))
theorem hI_le {x y : Int32} : (if_icmp.holds .le x y = true → ¬ y < x) ∧ (if_icmp.holds .le x y = false → y < x) := by simp [if_icmp.holds, Int32.not_lt, Int32.not_le]
theorem Gd.icmp_le (G : Gd l Z a0 n0 b R cs ss own nm code ml ret Q K) {o : Int} {x y : Int32} (pc' : Nat) (hd : decode code pc = .ok (.if_icmp .le o, 3)) (ho : 0 ≤ (pc : Int) + o) (hp : ((pc : Int) + o).toNat = pc') (h1 : ¬ y < x → K pc' Ls st A k n) (h2 : y < x → K (pc + 3) Ls st A k n) : K pc Ls (.int y :: .int x :: st) A k n :=
  G.icmp pc' hd ho hp (fun q => h1 (hI_le.1 q)) (fun q => h2 (hI_le.2 q))
theorem Gd.if_le (G : Gd l Z a0 n0 b R cs ss own nm code ml ret Q K) {o : Int} {x : Int32} (pc' : Nat) (hd : decode code pc = .ok (.ifCond .le o, 3)) (ho : 0 ≤ (pc : Int) + o) (hp : ((pc : Int) + o).toNat = pc') (h1 : ¬ 0 < x → K pc' Ls st A k n) (h2 : 0 < x → K (pc + 3) Ls st A k n) : K pc Ls (.int x :: st) A k n :=
  G.ifc pc' hd ho hp (fun q => h1 (hI_le.1 q)) (fun q => h2 (hI_le.2 q))
theorem Gd.ifnonnullR (G : Gd l Z a0 n0 b R cs ss own nm code ml ret Q K) {o : Int} {b : Addr} (pc' : Nat) (hd : decode code pc = .ok (.ifnonnull o, 3)) (ho : 0 ≤ (pc : Int) + o) (hp : ((pc : Int) + o).toNat = pc') (h : K pc' Ls st A k n) : K pc Ls (.ref b :: st) A k n :=
  G.run1 (fun _ _ _ _ _ _ _ hx hby hA r => XS.ifnonnullYes hA hx rfl rfl (hb hby hd) rfl ho hp r) h
theorem idxOk {c : Cell} {vs : List Value} {j : Int32} {jn : Nat} (e : c.slots = vs.toArray) (hj : j.toInt = (jn : Int)) (hl : jn < vs.length) : ¬ (j < 0 ∨ c.slots.size ≤ j.toNatClampNeg) ∧ j.toNatClampNeg = jn := by
  have h1 : j.toNatClampNeg = jn := by
    show j.toInt.toNat = jn
    rw [hj]; rfl
  refine ⟨?_, h1⟩
  rintro (q | q)
  · rw [Int32.lt_iff_toInt_lt] at q
    have : (0 : Int32).toInt = 0 := by decide
    omega
  · rw [h1, e] at q
    simp at q
    omega
theorem Gd.getf (G : Gd l Z a0 n0 b R cs ss own nm code ml ret Q K) {idx i j : Nat} {C fn d host : String} {fs : List (String × String × Value)} {v : Value} (hd : decode code pc = .ok (.getfield idx, 3)) (w : (Jvm.Cond.fieldLink own idx C fn d).before a0 Z = true ∨ (Jvm.Cond.fieldLinkNest own idx C fn d host).before a0 Z = true) (hA : A[i]? = some (.inl (C, fs))) (hf : fs[j]? = some (fn, d, v)) (h : K (pc + 3) Ls (v :: st) A k n) : K pc Ls (.ref (ad n0 i) :: st) A k n := by
  obtain ⟨p, e, s, m, args, below, meth, c, hx, hby, -, hown, -, hZ, -, -, -, rfl⟩ := G
  intro T locs X N hAl RP
  obtain ⟨T', X', e', stp⟩ := getF X hx hZ hown w Via.refl rfl ((RP.2 i _ hA).2.2 j _ _ _ hf).1 (g := mkF m pc Ls.toArray (.ref (ad n0 i) :: st)) rfl rfl (hb hby hd)
  obtain ⟨s₂, o, hs, r⟩ := h T' locs X' N hAl (by rw [e']; exact RP)
  exact ⟨s₂, o, stp _ hs, r⟩
theorem Gd.putf (G : Gd l Z a0 n0 b R cs ss own nm code ml ret Q K) {idx i j kk : Nat} {C fn d host : String} {fs : List (String × String × Value)} {v old : Value} {ty : FieldType} (hd : decode code pc = .ok (.putfield idx, 3)) (w : (Jvm.Cond.fieldLink own idx C fn d).before a0 Z = true ∨ (Jvm.Cond.fieldLinkNest own idx C fn d host).before a0 Z = true) (L : (Jvm.Cond.lays C C fn d).before a0 Z = true ∨ ((Jvm.Cond.laysFinal C C fn d).before a0 Z = true ∧ own = C ∧ nm = "<init>")) (wi : (Jvm.Cond.instantiable C kk).before a0 Z = true)
    (hty : parseFieldDescriptor d = some ty) (hn : narrow ty v = v) (hv : fits ty v = true) (hA : A[i]? = some (.inl (C, fs))) (hf : fs[j]? = some (fn, d, old)) (h : K (pc + 3) Ls st (A.set i (.inl (C, fs.set j (fn, d, v)))) k n) : K pc Ls (v :: .ref (ad n0 i) :: st) A k n := by
  obtain ⟨p, e, s, m, args, below, meth, c, hx, hby, -, hown, hnm, hZ, -, -, -, rfl⟩ := G
  intro T locs X N hAl RP
  have F := ((RP.2 i _ hA).2.2 j _ _ _ hf).1
  obtain ⟨T', h', X', e', W, stp⟩ := putF X hx hZ hown w Via.refl rfl F (RP.2 i _ hA).1 (by rcases L with L | ⟨L1, L2, L3⟩; exact Or.inl L; exact Or.inr ⟨L1, L2, hnm.trans L3⟩) wi hty hn hv (g := mkF m pc Ls.toArray (v :: .ref (ad n0 i) :: st)) rfl rfl (hb hby hd)
  obtain ⟨s₂, o, hs, r⟩ := h T' _ X' (Fr.snoc X' N (ad_le _ _)) (by rw [List.length_set]; exact hAl) (by rw [e']; exact RP.wr W ((RP.2 i _ hA).put hf W))
  exact ⟨s₂, o, stp _ hs, r⟩
theorem Gd.newo (G : Gd l Z a0 n0 b R cs ss own nm code ml ret Q K) {idx sl : Nat} {C : String} {fs : List (String × String × Value)} (hd : decode code pc = .ok (.new idx, 3)) (w : (Jvm.Cond.classLink own idx C).before a0 Z = true) (wi : (Jvm.Cond.instantiable C sl).before a0 Z = true) (wz : (Jvm.Cond.initialized C).before a0 Z = true) (hf : FOk Z a0 C fs) (hc : k + 1 ≤ R.cells) (hl : n + sl ≤ R.slots) (h : K (pc + 3) Ls (.ref (ad n0 A.length) :: st) (A ++ [.inl (C, fs)]) (k + 1) (n + sl)) : K pc Ls st A k n := by
  obtain ⟨p, e, s, m, args, below, meth, c, hx, hby, -, hown, hnm, hZ, -, -, hb0, rfl⟩ := G
  intro T locs X N hAl RP
  obtain ⟨T', h', X', e', E, Ex, D, -, stp⟩ := newO X hx hZ hown w wi wz rfl (g := mkF m pc Ls.toArray st) rfl (hb hby hd) hc hl
  have hsz : h'.size = T.heap.size + 1 := by
    have q1 := X'.heapSize
    have q2 : T.heap.size < h'.size := Ex.lt
    rw [e'] at q1
    have q3 := RP.1
    omega
  have R' : Rep Z a0 n0 h' (A ++ [.inl (C, fs)]) := RP.push E hsz ⟨Ex, hf.1, fun j fn d v hj => by
    obtain ⟨L, t, ht, hv⟩ := hf.2 _ (List.mem_of_getElem? hj)
    exact ⟨by have := D L ht; rw [hv] at this; exact this, L, t, ht⟩⟩
  have ea : ad n0 A.length = T.heap.size := RP.1.symm
  obtain ⟨s₂, o, hs, r⟩ := h T' locs X' N (by simp; omega) (by rw [e']; exact R')
  rw [ea] at hs
  exact ⟨s₂, o, stp _ hs, r⟩
theorem Gd.newarr (G : Gd l Z a0 n0 b R cs ss own nm code ml ret Q K) {aty : ArrayType} {z : Int32} (zn cap : Nat) (hd : decode code pc = .ok (.newarray aty, 2)) (w : (Jvm.Cond.arrayClass (newarray.typeOf aty)).before a0 Z = true) (hz : z.toInt = (zn : Int)) (hcap : zn ≤ cap) (hb0 : cap * 8 ≤ 536870912) (hc : k + 1 ≤ R.cells) (hl : n + cap ≤ R.slots) (hfit : fits (newarray.typeOf aty) (defaultValue (newarray.typeOf aty)) = true) (h : K (pc + 2) Ls (.ref (ad n0 A.length) :: st) (A ++ [.inr (newarray.typeOf aty, List.replicate zn (defaultValue (newarray.typeOf aty)))]) (k + 1) (n + cap)) : K pc Ls (.int z :: st) A k n := by
  obtain ⟨p, e, s, m, args, below, meth, c, hx, hby, -, hown, hnm, hZ, -, -, hsb, rfl⟩ := G
  intro T locs X N hAl RP
  have hz0 : ¬ z < 0 := by
    rw [Int32.lt_iff_toInt_lt]
    have : (0 : Int32).toInt = 0 := by decide
    omega
  have hzn : z.toNatClampNeg = zn := by show z.toInt.toNat = zn; rw [hz]; rfl
  obtain ⟨T', h', cA, X', e', E, Ar, Ex, stp⟩ := newPE X hx hZ w rfl (g := mkF m pc Ls.toArray (.int z :: st)) rfl (hb hby hd) rfl hz0 (cap := cap) (by rw [hzn]; exact hcap) hb0 hc hl (ad := "[" ++ (newarray.typeOf aty).toString) rfl
  have hsz : h'.size = T.heap.size + 1 := by
    have q1 := X'.heapSize
    have q2 : T.heap.size < h'.size := Ex.lt
    rw [e'] at q1
    have q3 := RP.1
    omega
  have R' : Rep Z a0 n0 h' (A ++ [.inr (newarray.typeOf aty, List.replicate zn (defaultValue (newarray.typeOf aty)))]) := RP.push E hsz ⟨Ex, _, Ar, by simp [newA, hzn], by simp; have := z.toInt_lt; omega, fun v hv => by rw [List.eq_of_mem_replicate hv]; exact hfit⟩
  have ea : ad n0 A.length = T.heap.size := RP.1.symm
  obtain ⟨s₂, o, hs, r⟩ := h T' locs X' N (by simp; omega) (by rw [e']; exact R')
  rw [ea] at hs
  exact ⟨s₂, o, stp _ hs, r⟩
theorem Gd.alen (G : Gd l Z a0 n0 b R cs ss own nm code ml ret Q K) {i : Nat} {ty : FieldType} {vs : List Value} (z : Int32) (hd : decode code pc = .ok (.arraylength, 1)) (hA : A[i]? = some (.inr (ty, vs))) (hz : vs.length.toInt32 = z) (h : K (pc + 1) Ls (.int z :: st) A k n) : K pc Ls (.ref (ad n0 i) :: st) A k n := by
  obtain ⟨p, e, s, m, args, below, meth, c, hx, hby, -, hown, -, hZ, -, -, -, rfl⟩ := G
  intro T locs X N hAl RP
  obtain ⟨-, cl, Ar, es, -, -⟩ := RP.2 i _ hA
  obtain ⟨s₂, o, hs, r⟩ := h T locs X N hAl RP
  refine ⟨s₂, o, X.arraylength hx Ar.1 (State.isArrayOf_alike hZ.alike Ar.2.1) (g := mkF m pc Ls.toArray (.ref (ad n0 i) :: st)) rfl rfl (hb hby hd) _ ?_, r⟩
  have q : cl.slots.size.toInt32 = z := by rw [es]; exact hz
  rw [q]; exact hs
theorem Gd.iald (G : Gd l Z a0 n0 b R cs ss own nm code ml ret Q K) {i : Nat} {vs : List Value} {j : Int32} {x : Int32} (jn : Nat) (hd : decode code pc = .ok (.iaload, 1)) (hA : A[i]? = some (.inr (.int, vs))) (hj : j.toInt = (jn : Int)) (hv : vs[jn]? = some (.int x)) (h : K (pc + 1) Ls (.int x :: st) A k n) : K pc Ls (.int j :: .ref (ad n0 i) :: st) A k n := by
  obtain ⟨p, e, s, m, args, below, meth, c, hx, hby, -, hown, -, hZ, -, -, -, rfl⟩ := G
  intro T locs X N hAl RP
  obtain ⟨-, cl, Ar, es, -, -⟩ := RP.2 i _ hA
  obtain ⟨q1, q2⟩ := idxOk es hj (List.getElem?_eq_some_iff.mp hv).1
  obtain ⟨s₂, o, hs, r⟩ := h T locs X N hAl RP
  exact ⟨s₂, o, X.iaload hx (j := j) (v := .int x) Ar.1 (State.isArrayOf_alike hZ.alike Ar.2.1) Ar.2.2 q1 (by rw [q2, es]; simpa using hv) (g := mkF m pc Ls.toArray (.int j :: .ref (ad n0 i) :: st)) rfl rfl (hb hby hd) _ hs, r⟩
theorem Gd.lald (G : Gd l Z a0 n0 b R cs ss own nm code ml ret Q K) {i : Nat} {vs : List Value} {j : Int32} {x : Int64} (jn : Nat) (hd : decode code pc = .ok (.laload, 1)) (hA : A[i]? = some (.inr (.long, vs))) (hj : j.toInt = (jn : Int)) (hv : vs[jn]? = some (.long x)) (h : K (pc + 1) Ls (.long x :: st) A k n) : K pc Ls (.int j :: .ref (ad n0 i) :: st) A k n := by
  obtain ⟨p, e, s, m, args, below, meth, c, hx, hby, -, hown, -, hZ, -, -, -, rfl⟩ := G
  intro T locs X N hAl RP
  obtain ⟨-, cl, Ar, es, -, -⟩ := RP.2 i _ hA
  obtain ⟨q1, q2⟩ := idxOk es hj (List.getElem?_eq_some_iff.mp hv).1
  obtain ⟨s₂, o, hs, r⟩ := h T locs X N hAl RP
  exact ⟨s₂, o, X.laload hx (j := j) (v := .long x) Ar.1 (State.isArrayOf_alike hZ.alike Ar.2.1) Ar.2.2 q1 (by rw [q2, es]; simpa using hv) (g := mkF m pc Ls.toArray (.int j :: .ref (ad n0 i) :: st)) rfl rfl (hb hby hd) _ hs, r⟩
theorem Gd.bald (G : Gd l Z a0 n0 b R cs ss own nm code ml ret Q K) {i : Nat} {vs : List Value} {j : Int32} {x : Int32} (jn : Nat) (hd : decode code pc = .ok (.baload, 1)) (hA : A[i]? = some (.inr (.byte, vs))) (hj : j.toInt = (jn : Int)) (hv : vs[jn]? = some (.int x)) (h : K (pc + 1) Ls (.int x :: st) A k n) : K pc Ls (.int j :: .ref (ad n0 i) :: st) A k n := by
  obtain ⟨p, e, s, m, args, below, meth, c, hx, hby, -, hown, -, hZ, -, -, -, rfl⟩ := G
  intro T locs X N hAl RP
  obtain ⟨-, cl, Ar, es, -, -⟩ := RP.2 i _ hA
  obtain ⟨q1, q2⟩ := idxOk es hj (List.getElem?_eq_some_iff.mp hv).1
  obtain ⟨s₂, o, hs, r⟩ := h T locs X N hAl RP
  exact ⟨s₂, o, X.baloadBytes hx (j := j) (v := .int x) Ar.1 (State.isArrayOf_alike hZ.alike Ar.2.1) Ar.2.2 q1 (by rw [q2, es]; simpa using hv) (g := mkF m pc Ls.toArray (.int j :: .ref (ad n0 i) :: st)) rfl rfl (hb hby hd) _ hs, r⟩
theorem Gd.zald (G : Gd l Z a0 n0 b R cs ss own nm code ml ret Q K) {i : Nat} {vs : List Value} {j : Int32} {x : Int32} (jn : Nat) (hd : decode code pc = .ok (.baload, 1)) (hA : A[i]? = some (.inr (.boolean, vs))) (hj : j.toInt = (jn : Int)) (hv : vs[jn]? = some (.int x)) (h : K (pc + 1) Ls (.int x :: st) A k n) : K pc Ls (.int j :: .ref (ad n0 i) :: st) A k n := by
  obtain ⟨p, e, s, m, args, below, meth, c, hx, hby, -, hown, -, hZ, -, -, -, rfl⟩ := G
  intro T locs X N hAl RP
  obtain ⟨-, cl, Ar, es, -, -⟩ := RP.2 i _ hA
  obtain ⟨q1, q2⟩ := idxOk es hj (List.getElem?_eq_some_iff.mp hv).1
  obtain ⟨s₂, o, hs, r⟩ := h T locs X N hAl RP
  exact ⟨s₂, o, X.baloadBooleans hx (j := j) (v := .int x) Ar.1 (State.isArrayOf_alike hZ.alike Ar.2.1) Ar.2.2 q1 (by rw [q2, es]; simpa using hv) (g := mkF m pc Ls.toArray (.int j :: .ref (ad n0 i) :: st)) rfl rfl (hb hby hd) _ hs, r⟩
theorem Gd.iast (G : Gd l Z a0 n0 b R cs ss own nm code ml ret Q K) {i : Nat} {vs : List Value} {j : Int32} {x : Int32} (jn : Nat) (hd : decode code pc = .ok (.iastore, 1)) (hA : A[i]? = some (.inr (.int, vs))) (hj : j.toInt = (jn : Int)) (hl : jn < vs.length) (h : K (pc + 1) Ls st (A.set i (.inr (.int, vs.set jn (.int x)))) k n) : K pc Ls (.int x :: .int j :: .ref (ad n0 i) :: st) A k n := by
  obtain ⟨p, e, s, m, args, below, meth, c, hx, hby, -, hown, -, hZ, -, -, -, rfl⟩ := G
  intro T locs X N hAl RP
  obtain ⟨-, cl, Ar, es, -, -⟩ := RP.2 i _ hA
  obtain ⟨q1, q2⟩ := idxOk es hj hl
  obtain ⟨T', h', X', e', W, stp⟩ := stI X hx hZ rfl Ar q1 (g := mkF m pc Ls.toArray (.int x :: .int j :: .ref (ad n0 i) :: st)) rfl rfl (hb hby hd)
  have W' : Wr T.heap h' (ad n0 i) jn (.int x) := by rw [← q2]; exact W
  obtain ⟨s₂, o, hs, r⟩ := h T' _ X' (Fr.snoc X' N (ad_le _ _)) (by rw [List.length_set]; exact hAl) (by rw [e']; exact RP.wr W' ((RP.2 i _ hA).store rfl W'))
  exact ⟨s₂, o, stp _ hs, r⟩
theorem Gd.last (G : Gd l Z a0 n0 b R cs ss own nm code ml ret Q K) {i : Nat} {vs : List Value} {j : Int32} {x : Int64} (jn : Nat) (hd : decode code pc = .ok (.lastore, 1)) (hA : A[i]? = some (.inr (.long, vs))) (hj : j.toInt = (jn : Int)) (hl : jn < vs.length) (h : K (pc + 1) Ls st (A.set i (.inr (.long, vs.set jn (.long x)))) k n) : K pc Ls (.long x :: .int j :: .ref (ad n0 i) :: st) A k n := by
  obtain ⟨p, e, s, m, args, below, meth, c, hx, hby, -, hown, -, hZ, -, -, -, rfl⟩ := G
  intro T locs X N hAl RP
  obtain ⟨-, cl, Ar, es, -, -⟩ := RP.2 i _ hA
  obtain ⟨q1, q2⟩ := idxOk es hj hl
  obtain ⟨T', h', X', e', W, stp⟩ := stJ X hx hZ rfl Ar q1 (g := mkF m pc Ls.toArray (.long x :: .int j :: .ref (ad n0 i) :: st)) rfl rfl (hb hby hd)
  have W' : Wr T.heap h' (ad n0 i) jn (.long x) := by rw [← q2]; exact W
  obtain ⟨s₂, o, hs, r⟩ := h T' _ X' (Fr.snoc X' N (ad_le _ _)) (by rw [List.length_set]; exact hAl) (by rw [e']; exact RP.wr W' ((RP.2 i _ hA).store rfl W'))
  exact ⟨s₂, o, stp _ hs, r⟩
theorem Gd.bast (G : Gd l Z a0 n0 b R cs ss own nm code ml ret Q K) {i : Nat} {vs : List Value} {j : Int32} {x : Int32} (jn : Nat) (hd : decode code pc = .ok (.bastore, 1)) (hA : A[i]? = some (.inr (.byte, vs))) (hj : j.toInt = (jn : Int)) (hl : jn < vs.length) {x8 : Int32} (hx8 : nar .byte x = x8) (hfit : fits .byte (.int x8) = true) (h : K (pc + 1) Ls st (A.set i (.inr (.byte, vs.set jn (.int x8)))) k n) : K pc Ls (.int x :: .int j :: .ref (ad n0 i) :: st) A k n := by
  obtain ⟨p, e, s, m, args, below, meth, c, hx, hby, -, hown, -, hZ, -, -, -, rfl⟩ := G
  intro T locs X N hAl RP
  obtain ⟨-, cl, Ar, es, -, -⟩ := RP.2 i _ hA
  obtain ⟨q1, q2⟩ := idxOk es hj hl
  obtain ⟨T', h', X', e', W, stp⟩ := stB X hx hZ rfl Ar q1 (g := mkF m pc Ls.toArray (.int x :: .int j :: .ref (ad n0 i) :: st)) rfl rfl (hb hby hd)
  have W' : Wr T.heap h' (ad n0 i) jn (.int x8) := by rw [← q2, ← hx8]; exact W
  obtain ⟨s₂, o, hs, r⟩ := h T' _ X' (Fr.snoc X' N (ad_le _ _)) (by rw [List.length_set]; exact hAl) (by rw [e']; exact RP.wr W' ((RP.2 i _ hA).store hfit W'))
  exact ⟨s₂, o, stp _ hs, r⟩
theorem Gd.zast (G : Gd l Z a0 n0 b R cs ss own nm code ml ret Q K) {i : Nat} {vs : List Value} {j : Int32} {x : Int32} (jn : Nat) (hd : decode code pc = .ok (.bastore, 1)) (hA : A[i]? = some (.inr (.boolean, vs))) (hj : j.toInt = (jn : Int)) (hl : jn < vs.length) {x8 : Int32} (hx8 : nar .boolean x = x8) (hfit : fits .boolean (.int x8) = true) (h : K (pc + 1) Ls st (A.set i (.inr (.boolean, vs.set jn (.int x8)))) k n) : K pc Ls (.int x :: .int j :: .ref (ad n0 i) :: st) A k n := by
  obtain ⟨p, e, s, m, args, below, meth, c, hx, hby, -, hown, -, hZ, -, -, -, rfl⟩ := G
  intro T locs X N hAl RP
  obtain ⟨-, cl, Ar, es, -, -⟩ := RP.2 i _ hA
  obtain ⟨q1, q2⟩ := idxOk es hj hl
  obtain ⟨T', h', X', e', W, stp⟩ := stZ X hx hZ rfl Ar q1 (g := mkF m pc Ls.toArray (.int x :: .int j :: .ref (ad n0 i) :: st)) rfl rfl (hb hby hd)
  have W' : Wr T.heap h' (ad n0 i) jn (.int x8) := by rw [← q2, ← hx8]; exact W
  obtain ⟨s₂, o, hs, r⟩ := h T' _ X' (Fr.snoc X' N (ad_le _ _)) (by rw [List.length_set]; exact hAl) (by rw [e']; exact RP.wr W' ((RP.2 i _ hA).store hfit W'))
  exact ⟨s₂, o, stp _ hs, r⟩
def AI (N : Nat) (vs : List Value) : Prop := vs.length = N ∧ ∀ v ∈ vs, ∃ x : Int32, v = .int x
theorem AI.rep (N : Nat) : AI N (List.replicate N (.int 0)) := ⟨by simp, fun v hv => ⟨0, List.eq_of_mem_replicate hv⟩⟩
theorem AI.at {N j : Nat} {vs : List Value} (h : AI N vs) (hj : j < N) : ∃ x : Int32, vs[j]? = some (.int x) := by
  have hl : j < vs.length := by rw [h.1]; exact hj
  obtain ⟨x, e⟩ := h.2 _ (List.getElem_mem hl)
  exact ⟨x, by rw [List.getElem?_eq_getElem hl, e]⟩
theorem AI.set {N : Nat} {vs : List Value} (h : AI N vs) (j : Nat) (x : Int32) : AI N (vs.set j (.int x)) :=
  ⟨by rw [List.length_set]; exact h.1, fun v hv => by
    rcases List.mem_or_eq_of_mem_set hv with q | rfl
    · exact h.2 v q
    · exact ⟨x, rfl⟩⟩
/-- a store into the only cell, an int[] of which no more is kept in mind than that it holds ints -/
theorem Gd.iastA (G : Gd l Z a0 n0 b R cs ss own nm code ml ret Q K) {N : Nat} {vs : List Value} {j x : Int32} (jn : Nat) (hd : decode code pc = .ok (.iastore, 1)) (hv : AI N vs) (hj : j.toInt = (jn : Int)) (hl : jn < N) (h : ∀ vs', AI N vs' → K (pc + 1) Ls st [.inr (.int, vs')] k n) : K pc Ls (.int x :: .int j :: .ref (ad n0 0) :: st) [.inr (.int, vs)] k n :=
  G.iast jn hd rfl hj (by rw [hv.1]; exact hl) (h _ (hv.set jn x))
theorem Gd.ldcI (G : Gd l Z a0 n0 b R cs ss own nm code ml ret Q K) {idx : Nat} {v : Int32} (hd : decode code pc = .ok (.ldc idx, 2)) (w : (Jvm.Cond.constant own idx v).before a0 Z = true) (h : K (pc + 2) Ls (.int v :: st) A k n) : K pc Ls st A k n := by
  obtain ⟨p, e, s, m, args, below, meth, c, hx, hby, -, hown, -, hZ, -, -, -, rfl⟩ := G
  intro T locs X N hAl RP
  obtain ⟨s₂, o, hs, r⟩ := h T locs X N hAl RP
  exact ⟨s₂, o, X.ldcInt hx hown (mvT hZ w) (g := mkF m pc Ls.toArray st) rfl (hb hby hd) _ hs, r⟩
theorem Gd.ldcwI (G : Gd l Z a0 n0 b R cs ss own nm code ml ret Q K) {idx : Nat} {v : Int32} (hd : decode code pc = .ok (.ldc_w idx, 3)) (w : (Jvm.Cond.constant own idx v).before a0 Z = true) (h : K (pc + 3) Ls (.int v :: st) A k n) : K pc Ls st A k n := by
  obtain ⟨p, e, s, m, args, below, meth, c, hx, hby, -, hown, -, hZ, -, -, -, rfl⟩ := G
  intro T locs X N hAl RP
  obtain ⟨s₂, o, hs, r⟩ := h T locs X N hAl RP
  exact ⟨s₂, o, X.ldcwInt hx hown (mvT hZ w) (g := mkF m pc Ls.toArray st) rfl (hb hby hd) _ hs, r⟩
theorem Gd.ldcL (G : Gd l Z a0 n0 b R cs ss own nm code ml ret Q K) {idx : Nat} {v : Int64} (hd : decode code pc = .ok (.ldc2_w idx, 3)) (w : (Jvm.Cond.constantLong own idx v).before a0 Z = true) (h : K (pc + 3) Ls (.long v :: st) A k n) : K pc Ls st A k n := by
  obtain ⟨p, e, s, m, args, below, meth, c, hx, hby, -, hown, -, hZ, -, -, -, rfl⟩ := G
  intro T locs X N hAl RP
  obtain ⟨s₂, o, hs, r⟩ := h T locs X N hAl RP
  exact ⟨s₂, o, X.ldc2Long hx hown (mvT hZ w) (g := mkF m pc Ls.toArray st) rfl (hb hby hd) _ hs, r⟩
theorem Gd.retV (G : Gd l Z a0 n0 b R cs ss own nm code ml ret Q K) {t : FieldType} {i : Instr} {w : Value} (hret : ret = some t) (hd : decode code pc = .ok (i, 1)) (hn : narrow t w = w)
    (hi : (i = .ireturn ∧ (t = .int ∨ t = .boolean ∨ t = .byte ∨ t = .char ∨ t = .short) ∧ ∃ z, w = .int z) ∨ (i = .lreturn ∧ t = .long ∧ ∃ z, w = .long z) ∨ (i = .dreturn ∧ t = .double ∧ ∃ z, w = .double z) ∨ (i = .freturn ∧ t = .float ∧ ∃ z, w = .float z) ∨ (i = .areturn ∧ t.isReference = true ∧ w.isRef = true))
    (hk : k ≤ cs) (hs : n ≤ ss) (hQ : Q (some w) A) : K pc Ls (w :: st) A k n := by
  obtain ⟨p, e, s, m, args, below, meth, c, hx, hby, -, hown, -, hZ, hrt, hlk, -, rfl⟩ := G
  intro T locs X N hAl RP
  obtain ⟨fs, hr, hrun, hended, hW, hsame⟩ := X.leave (v := some w) (fun q => by rw [hrt, hret] at q; cases q) hlk
  exact ⟨_, _, retOut X hx (hrt.trans hret) hn hi (hb hby hd) hr, hrun, hended, _, locs, rfl, ⟨N, A, hQ, RP⟩, ⟨_, rfl⟩, hW, hsame.mono hk hs⟩
theorem Gd.ireturn (G : Gd l Z a0 n0 b R cs ss own nm code ml ret Q K) {z : Int32} (hret : ret = some .int) (hd : decode code pc = .ok (.ireturn, 1)) (hk : k ≤ cs) (hs : n ≤ ss) (hQ : Q (some (.int z)) A) : K pc Ls (.int z :: st) A k n :=
  G.retV hret hd rfl (Or.inl ⟨rfl, Or.inl rfl, _, rfl⟩) hk hs hQ
theorem Gd.zreturn (G : Gd l Z a0 n0 b R cs ss own nm code ml ret Q K) {z : Int32} (hret : ret = some .boolean) (hd : decode code pc = .ok (.ireturn, 1)) (hz : narrow .boolean (.int z) = .int z) (hk : k ≤ cs) (hs : n ≤ ss) (hQ : Q (some (.int z)) A) : K pc Ls (.int z :: st) A k n :=
  G.retV hret hd hz (Or.inl ⟨rfl, Or.inr (Or.inl rfl), _, rfl⟩) hk hs hQ
theorem Gd.lreturn (G : Gd l Z a0 n0 b R cs ss own nm code ml ret Q K) {z : Int64} (hret : ret = some .long) (hd : decode code pc = .ok (.lreturn, 1)) (hk : k ≤ cs) (hs : n ≤ ss) (hQ : Q (some (.long z)) A) : K pc Ls (.long z :: st) A k n :=
  G.retV hret hd rfl (Or.inr (Or.inl ⟨rfl, rfl, _, rfl⟩)) hk hs hQ
theorem Gd.areturn (G : Gd l Z a0 n0 b R cs ss own nm code ml ret Q K) {t : FieldType} {w : Value} (hret : ret = some t) (hd : decode code pc = .ok (.areturn, 1)) (ht : t.isReference = true) (hw : w.isRef = true) (hn : narrow t w = w) (hk : k ≤ cs) (hs : n ≤ ss) (hQ : Q (some w) A) : K pc Ls (w :: st) A k n :=
  G.retV hret hd hn (Or.inr (Or.inr (Or.inr (Or.inr ⟨rfl, ht, hw⟩)))) hk hs hQ
theorem Gd.vreturn (G : Gd l Z a0 n0 b R cs ss own nm code ml ret Q K) (hret : ret = none) (hd : decode code pc = .ok (.return_, 1)) (hk : k ≤ cs) (hs : n ≤ ss) (hQ : Q none A) : K pc Ls [] A k n := by
  obtain ⟨p, e, s, m, args, below, meth, c, hx, hby, -, hown, -, hZ, hrt, hlk, -, rfl⟩ := G
  intro T locs X N hAl RP
  obtain ⟨fs, hr, hrun, hended, hW, hsame⟩ := X.leave (v := none) (fun _ => rfl) hlk
  exact ⟨_, _, X.returnOut hx (hrt.trans hret) (hb hby hd) hr, hrun, hended, _, locs, rfl, ⟨N, A, hQ, RP⟩, ⟨_, rfl⟩, hW, hsame.mono hk hs⟩
/-- Object's own constructor -/
theorem Gd.initObj (G : Gd l Z a0 n0 b R cs ss own nm code ml ret Q K) {idx : Nat} {a : Addr} (hd : decode code pc = .ok (.invokespecial idx, 3)) (w1 : (Jvm.Cond.methodLink own idx Lib.objectInit).before a0 Z = true) (w2 : (Jvm.Cond.instanceMethod Lib.objectInit).before a0 Z = true) (w3 : (Jvm.Cond.code Lib.objectInit ⟨#[0xb1]⟩ 1 none).before a0 Z = true) (hL : Ls.length = ml) (hf : 1 ≤ R.frames) (hl : (st.map fun v => v.category).sum + 12 ≤ R.locals) (h : K (pc + 3) Ls st A k n) : K pc Ls (.ref a :: st) A k n := by
  obtain ⟨p, e, s, m, args, below, meth, c, hx, hby, hml, hown, -, hZ, -, -, -, rfl⟩ := G
  intro T locs X N hAl RP
  obtain ⟨T', X', e', stp⟩ := initO X hx hZ hown w1 w2 w3 rfl (g := mkF m pc Ls.toArray (.ref a :: st)) rfl (by rw [hml]; simpa using hL) rfl (hb hby hd) hf (W := (st.map fun v => v.category).sum) (by show 2 * 0 + _ ≤ _; omega) hl
  obtain ⟨s₂, o, hs, r⟩ := h T' locs X' N hAl (by rw [e']; exact RP)
  exact ⟨s₂, o, stp _ hs, r⟩
/-- a static method by its contract -/
theorem Gd.scall (G : Gd l Z a0 n0 b R cs ss own nm code ml ret Q K) {idx maxL : Nat} {y : MethodName} {bytes : ByteArray} {rt : Option FieldType} {rm : Room} {Q' : Option Value → AHeap → Prop} {ps : List FieldType} (argsL : List Value) (hst : st' = argsL.reverse ++ st) (hd : decode code pc = .ok (.invokestatic idx, 3)) (w1 : (Jvm.Cond.methodLink own idx y).before a0 Z = true) (w2 : (Jvm.Cond.static y).before a0 Z = true) (w3 : (Jvm.Cond.initialized y.cls).before a0 Z = true) (w4 : (Jvm.Cond.code y bytes maxL rt).before a0 Z = true) (hy : y.cls ≠ "java/lang/invoke/MethodHandle" ∧ y.cls ≠ "java/lang/invoke/VarHandle")
    (hM : Meth l Z a0 [] y bytes maxL rt rm rm.cells rm.slots n0 argsL.toArray A Q') (hpd : parseMethodDescriptor y.desc = some ⟨ps, rt⟩) (hal : argsL.length = ps.length) (hL : Ls.length = ml) (hf : rm.frames + 1 ≤ R.frames) (hl : (st.map fun v => v.category).sum + (maxL + 11) + rm.locals ≤ R.locals) (hc : k + rm.cells ≤ R.cells) (hsl : n + rm.slots ≤ R.slots) (hlen' : ∀ v A', Q' v A' → A'.length = A.length + rm.cells)
    (h : ∀ v A', Q' v A' → K (pc + 3) Ls (v.toList ++ st) A' (k + rm.cells) (n + rm.slots)) : K pc Ls st' A k n := by
  subst hst
  obtain ⟨p, e, s, m, args, below, meth, c, hx, hby, hml, hown, -, hZ, -, -, -, rfl⟩ := G
  intro T locs X N hAl RP
  obtain ⟨v, _, ⟨TB, LB, kB, nB⟩, -, XB, ⟨Lc, hQB, l1, y1, z1⟩, stp⟩ := Jvm.LawKit.callS X hx (y := y) hown (mvT hZ w1) (mvT hZ w2) (mvT hZ w3) (mvT hZ w4) hy (backOf (W := (st.map fun v => v.category).sum) (Q := fun v h L => Fr n0 L ∧ ∃ A', Q' v A' ∧ Rep Z a0 n0 h A') (hM T.heap RP) hZ w4 w3 hf hl) (g := mkF m pc Ls.toArray (argsL.reverse ++ st)) rfl (by rw [hml]; simpa using hL) (argsL := argsL) (rest := st) (lenOf hpd hal) rfl (by show 2 * 0 + _ ≤ _; omega) (hb hby hd) (fun _ _ => ⟨rfl, rfl, hc, hsl⟩)
  dsimp only [Pt.U, Pt.locs, Pt.cells, Pt.slots] at XB l1 y1 z1 stp hQB
  subst l1 y1 z1
  obtain ⟨NB, A', hq, RB⟩ := hQB
  obtain ⟨s₂, o, hs, r⟩ := h _ A' hq TB _ XB (Fr.app N NB) (by rw [hlen' _ _ hq, hAl]; omega) RB
  exact ⟨s₂, o, stp _ hs, r⟩
/-- a constructor by its contract -/
theorem Gd.ncall (G : Gd l Z a0 n0 b R cs ss own nm code ml ret Q K) {idx maxL : Nat} {y : MethodName} {bytes : ByteArray} {rm : Room} {Q' : Option Value → AHeap → Prop} {ps : List FieldType} {a : Addr} (argsL : List Value) (hst : st' = argsL.reverse ++ .ref a :: st) (hd : decode code pc = .ok (.invokespecial idx, 3)) (hy1 : y.name = "<init>") (w1 : (Jvm.Cond.methodLink own idx y).before a0 Z = true) (w2 : (Jvm.Cond.instanceMethod y).before a0 Z = true) (w3 : (Jvm.Cond.initialized y.cls).before a0 Z = true) (w4 : (Jvm.Cond.code y bytes maxL none).before a0 Z = true) (hy : y.cls ≠ "java/lang/invoke/MethodHandle" ∧ y.cls ≠ "java/lang/invoke/VarHandle")
    (hM : Meth l Z a0 [] y bytes maxL none rm rm.cells rm.slots n0 (.ref a :: argsL).toArray A Q') (hpd : parseMethodDescriptor y.desc = some ⟨ps, none⟩) (hal : argsL.length = ps.length) (hL : Ls.length = ml) (hf : rm.frames + 1 ≤ R.frames) (hl : (st.map fun v => v.category).sum + (maxL + 11) + rm.locals ≤ R.locals) (hc : k + rm.cells ≤ R.cells) (hsl : n + rm.slots ≤ R.slots) (hlen' : ∀ v A', Q' v A' → A'.length = A.length + rm.cells)
    (h : ∀ v A', Q' v A' → K (pc + 3) Ls (v.toList ++ st) A' (k + rm.cells) (n + rm.slots)) : K pc Ls st' A k n := by
  subst hst
  obtain ⟨p, e, s, m, args, below, meth, c, hx, hby, hml, hown, -, hZ, -, -, -, rfl⟩ := G
  intro T locs X N hAl RP
  obtain ⟨v, _, ⟨TB, LB, kB, nB⟩, -, XB, ⟨Lc, hQB, l1, y1, z1⟩, stp⟩ := X.specialBack hx (y := y) hy1 hown (mvT hZ w1) (mvT hZ w2) (mvT hZ w4) hy (backOf (W := (st.map fun v => v.category).sum) (Q := fun v h L => Fr n0 L ∧ ∃ A', Q' v A' ∧ Rep Z a0 n0 h A') (hM T.heap RP) hZ w4 w3 hf hl) (g := mkF m pc Ls.toArray (argsL.reverse ++ .ref a :: st)) rfl (by rw [hml]; simpa using hL) (Steps.refl _) (a := a) (argsL := argsL) (rest := st) (lenOf hpd hal) rfl (by show 2 * 0 + _ ≤ _; omega) (hb hby hd) (fun _ _ => ⟨rfl, rfl, hc, hsl⟩)
  dsimp only [Pt.U, Pt.locs, Pt.cells, Pt.slots] at XB l1 y1 z1 stp hQB
  subst l1 y1 z1
  obtain ⟨NB, A', hq, RB⟩ := hQB
  obtain ⟨s₂, o, hs, r⟩ := h _ A' hq TB _ XB (Fr.app N NB) (by rw [hlen' _ _ hq, hAl]; omega) RB
  exact ⟨s₂, o, stp.trans hs, r⟩
/-- an instance method by its contract -/
theorem Gd.vcall (G : Gd l Z a0 n0 b R cs ss own nm code ml ret Q K) {idx maxL i : Nat} {y : MethodName} {bytes : ByteArray} {rt : Option FieldType} {rm : Room} {Q' : Option Value → AHeap → Prop} {ps : List FieldType} {fs : List (String × String × Value)} (argsL : List Value) (hst : st' = argsL.reverse ++ .ref (ad n0 i) :: st) (hd : decode code pc = .ok (.invokevirtual idx, 3)) (w1 : (Jvm.Cond.methodLink own idx y).before a0 Z = true) (w2 : (Jvm.Cond.declares y).before a0 Z = true) (ws : (Jvm.Cond.selects y.cls y y).before a0 Z = true) (wm : (Jvm.Cond.instanceMethod y).before a0 Z = true) (w3 : (Jvm.Cond.initialized y.cls).before a0 Z = true) (w4 : (Jvm.Cond.code y bytes maxL rt).before a0 Z = true) (hy : y.cls ≠ "java/lang/invoke/MethodHandle" ∧ y.cls ≠ "java/lang/invoke/VarHandle") (hA : A[i]? = some (.inl (y.cls, fs)))
    (hM : Meth l Z a0 [] y bytes maxL rt rm rm.cells rm.slots n0 (.ref (ad n0 i) :: argsL).toArray A Q') (hpd : parseMethodDescriptor y.desc = some ⟨ps, rt⟩) (hal : argsL.length = ps.length) (hL : Ls.length = ml) (hf : rm.frames + 1 ≤ R.frames) (hl : (st.map fun v => v.category).sum + (maxL + 11) + rm.locals ≤ R.locals) (hc : k + rm.cells ≤ R.cells) (hsl : n + rm.slots ≤ R.slots) (hlen' : ∀ v A', Q' v A' → A'.length = A.length + rm.cells)
    (h : ∀ v A', Q' v A' → K (pc + 3) Ls (v.toList ++ st) A' (k + rm.cells) (n + rm.slots)) : K pc Ls st' A k n := by
  subst hst
  obtain ⟨p, e, s, m, args, below, meth, c, hx, hby, hml, hown, -, hZ, -, -, -, rfl⟩ := G
  intro T locs X N hAl RP
  obtain ⟨cq, kq, qa, qb, qc⟩ := isOf hZ rfl (RP.2 i _ hA).1
  obtain ⟨v, _, ⟨TB, LB, kB, nB⟩, -, XB, ⟨Lc, hQB, l1, y1, z1⟩, stp⟩ := X.virtualBack hx (y := y) (z := y) hown (mvT hZ w1) (mvT hZ w2) (notFace_of_selects (args := #[]) (mvT hZ ws)) (mvT hZ ws) (mvT hZ wm) hy (backOf (W := (st.map fun v => v.category).sum) (Q := fun v h L => Fr n0 L ∧ ∃ A', Q' v A' ∧ Rep Z a0 n0 h A') (hM T.heap RP) hZ w4 w3 hf hl) qa qc (g := mkF m pc Ls.toArray (argsL.reverse ++ .ref (ad n0 i) :: st)) rfl (by rw [hml]; simpa using hL) (Steps.refl _) (argsL := argsL) (rest := st) (lenOf hpd hal) rfl (by show 2 * 0 + _ ≤ _; omega) (hb hby hd) (fun _ _ => ⟨rfl, rfl, hc, hsl⟩)
  dsimp only [Pt.U, Pt.locs, Pt.cells, Pt.slots] at XB l1 y1 z1 stp hQB
  subst l1 y1 z1
  obtain ⟨NB, A', hq, RB⟩ := hQB
  obtain ⟨s₂, o, hs, r⟩ := h _ A' hq TB _ XB (Fr.app N NB) (by rw [hlen' _ _ hq, hAl]; omega) RB
  exact ⟨s₂, o, stp.trans hs, r⟩
/-- a private instance method by its contract -/
theorem Gd.pcall (G : Gd l Z a0 n0 b R cs ss own nm code ml ret Q K) {idx maxL i : Nat} {y : MethodName} {bytes : ByteArray} {rt : Option FieldType} {rm : Room} {Q' : Option Value → AHeap → Prop} {ps : List FieldType} {fs : List (String × String × Value)} {C : String} (argsL : List Value) (hst : st' = argsL.reverse ++ .ref (ad n0 i) :: st) (hd : decode code pc = .ok (.invokevirtual idx, 3)) (w1 : (Jvm.Cond.methodLink own idx y).before a0 Z = true) (wp : (Jvm.Cond.privateMethod y).before a0 Z = true) (ws : (Jvm.Cond.selects y.cls y y).before a0 Z = true) (wm : (Jvm.Cond.instanceMethod y).before a0 Z = true) (w3 : (Jvm.Cond.initialized y.cls).before a0 Z = true) (w4 : (Jvm.Cond.code y bytes maxL rt).before a0 Z = true) (hy : y.cls ≠ "java/lang/invoke/MethodHandle" ∧ y.cls ≠ "java/lang/invoke/VarHandle") (hA : A[i]? = some (.inl (C, fs)))
    (hM : Meth l Z a0 [] y bytes maxL rt rm rm.cells rm.slots n0 (.ref (ad n0 i) :: argsL).toArray A Q') (hpd : parseMethodDescriptor y.desc = some ⟨ps, rt⟩) (hal : argsL.length = ps.length) (hL : Ls.length = ml) (hf : rm.frames + 1 ≤ R.frames) (hl : (st.map fun v => v.category).sum + (maxL + 11) + rm.locals ≤ R.locals) (hc : k + rm.cells ≤ R.cells) (hsl : n + rm.slots ≤ R.slots) (hlen' : ∀ v A', Q' v A' → A'.length = A.length + rm.cells)
    (h : ∀ v A', Q' v A' → K (pc + 3) Ls (v.toList ++ st) A' (k + rm.cells) (n + rm.slots)) : K pc Ls st' A k n := by
  subst hst
  obtain ⟨p, e, s, m, args, below, meth, c, hx, hby, hml, hown, -, hZ, -, -, -, rfl⟩ := G
  intro T locs X N hAl RP
  obtain ⟨cq, q1, q2⟩ := (RP.2 i _ hA).1.cell
  obtain ⟨v, _, ⟨TB, LB, kB, nB⟩, -, XB, ⟨Lc, hQB, l1, y1, z1⟩, stp⟩ := X.privateBack hx (y := y) hown (mvT hZ w1) (mvT hZ wm) (mvT hZ ws) (Cond.privateMethod_at (mvP hZ wp (args := #[]))) (mvT hZ w4) hy (backOf (W := (st.map fun v => v.category).sum) (Q := fun v h L => Fr n0 L ∧ ∃ A', Q' v A' ∧ Rep Z a0 n0 h A') (hM T.heap RP) hZ w4 w3 hf hl) (g := mkF m pc Ls.toArray (argsL.reverse ++ .ref (ad n0 i) :: st)) rfl (by rw [hml]; simpa using hL) (Steps.refl _) (a := ad n0 i) q1 q2 (argsL := argsL) (rest := st) (lenOf hpd hal) rfl (by show 2 * 0 + _ ≤ _; omega) (hb hby hd) (fun _ _ => ⟨rfl, rfl, hc, hsl⟩)
  dsimp only [Pt.U, Pt.locs, Pt.cells, Pt.slots] at XB l1 y1 z1 stp hQB
  subst l1 y1 z1
  obtain ⟨NB, A', hq, RB⟩ := hQB
  obtain ⟨s₂, o, hs, r⟩ := h _ A' hq TB _ XB (Fr.app N NB) (by rw [hlen' _ _ hq, hAl]; omega) RB
  exact ⟨s₂, o, stp.trans hs, r⟩
end Rules
end Jvm.Pilot.@@N@@
namespace Jvm.Pilot.@@N@@
open Jvm Jvm.ClassFile Sem Op Lib Jvm.Free Jvm.Stand Jvm.LawKit Jvm.RoadKit Bundle Jvm.Pilot.@@N@@.Jvm.D
theorem own_pd0 : parseMethodDescriptor "(I)Z" = some ⟨[.int], some (.boolean)⟩ := by decide +kernel
theorem own_pd1 : parseMethodDescriptor "(III)Z" = some ⟨[.int, .int, .int], some (.boolean)⟩ := by decide +kernel
theorem d2_0 : decode prog_13_method_5_code 0 = .ok (.iload_n 0, 1) := by decide +kernel
theorem d2_1 : decode prog_13_method_5_code 1 = .ok (.bipush 97, 2) := by decide +kernel
theorem d2_3 : decode prog_13_method_5_code 3 = .ok (.if_icmp .lt 9, 3) := by decide +kernel
theorem d2_6 : decode prog_13_method_5_code 6 = .ok (.iload_n 0, 1) := by decide +kernel
theorem d2_7 : decode prog_13_method_5_code 7 = .ok (.bipush 122, 2) := by decide +kernel
theorem d2_9 : decode prog_13_method_5_code 9 = .ok (.if_icmp .le 182, 3) := by decide +kernel
theorem d2_12 : decode prog_13_method_5_code 12 = .ok (.iload_n 0, 1) := by decide +kernel
theorem d2_13 : decode prog_13_method_5_code 13 = .ok (.bipush 65, 2) := by decide +kernel
theorem d2_15 : decode prog_13_method_5_code 15 = .ok (.if_icmp .lt 9, 3) := by decide +kernel
theorem d2_18 : decode prog_13_method_5_code 18 = .ok (.iload_n 0, 1) := by decide +kernel
theorem d2_19 : decode prog_13_method_5_code 19 = .ok (.bipush 90, 2) := by decide +kernel
theorem d2_21 : decode prog_13_method_5_code 21 = .ok (.if_icmp .le 170, 3) := by decide +kernel
theorem d2_24 : decode prog_13_method_5_code 24 = .ok (.iload_n 0, 1) := by decide +kernel
theorem d2_25 : decode prog_13_method_5_code 25 = .ok (.bipush 95, 2) := by decide +kernel
theorem d2_27 : decode prog_13_method_5_code 27 = .ok (.if_icmp .eq 164, 3) := by decide +kernel
theorem d2_30 : decode prog_13_method_5_code 30 = .ok (.iload_n 0, 1) := by decide +kernel
theorem d2_31 : decode prog_13_method_5_code 31 = .ok (.sipush 192, 3) := by decide +kernel
theorem d2_34 : decode prog_13_method_5_code 34 = .ok (.if_icmp .lt 10, 3) := by decide +kernel
theorem d2_37 : decode prog_13_method_5_code 37 = .ok (.iload_n 0, 1) := by decide +kernel
theorem d2_38 : decode prog_13_method_5_code 38 = .ok (.sipush 214, 3) := by decide +kernel
theorem d2_41 : decode prog_13_method_5_code 41 = .ok (.if_icmp .le 150, 3) := by decide +kernel
theorem d2_44 : decode prog_13_method_5_code 44 = .ok (.iload_n 0, 1) := by decide +kernel
theorem d2_45 : decode prog_13_method_5_code 45 = .ok (.sipush 216, 3) := by decide +kernel
theorem d2_48 : decode prog_13_method_5_code 48 = .ok (.if_icmp .lt 10, 3) := by decide +kernel
theorem d2_51 : decode prog_13_method_5_code 51 = .ok (.iload_n 0, 1) := by decide +kernel
theorem d2_52 : decode prog_13_method_5_code 52 = .ok (.sipush 246, 3) := by decide +kernel
theorem d2_55 : decode prog_13_method_5_code 55 = .ok (.if_icmp .le 136, 3) := by decide +kernel
theorem d2_58 : decode prog_13_method_5_code 58 = .ok (.iload_n 0, 1) := by decide +kernel
theorem d2_59 : decode prog_13_method_5_code 59 = .ok (.sipush 248, 3) := by decide +kernel
theorem d2_62 : decode prog_13_method_5_code 62 = .ok (.if_icmp .lt 10, 3) := by decide +kernel
theorem d2_65 : decode prog_13_method_5_code 65 = .ok (.iload_n 0, 1) := by decide +kernel
theorem d2_66 : decode prog_13_method_5_code 66 = .ok (.sipush 767, 3) := by decide +kernel
theorem d2_69 : decode prog_13_method_5_code 69 = .ok (.if_icmp .le 122, 3) := by decide +kernel
theorem d2_72 : decode prog_13_method_5_code 72 = .ok (.iload_n 0, 1) := by decide +kernel
theorem d2_73 : decode prog_13_method_5_code 73 = .ok (.sipush 880, 3) := by decide +kernel
theorem d2_76 : decode prog_13_method_5_code 76 = .ok (.if_icmp .lt 10, 3) := by decide +kernel
theorem d2_79 : decode prog_13_method_5_code 79 = .ok (.iload_n 0, 1) := by decide +kernel
theorem d2_80 : decode prog_13_method_5_code 80 = .ok (.sipush 893, 3) := by decide +kernel
theorem d2_83 : decode prog_13_method_5_code 83 = .ok (.if_icmp .le 108, 3) := by decide +kernel
theorem d2_86 : decode prog_13_method_5_code 86 = .ok (.iload_n 0, 1) := by decide +kernel
theorem d2_87 : decode prog_13_method_5_code 87 = .ok (.sipush 895, 3) := by decide +kernel
theorem d2_90 : decode prog_13_method_5_code 90 = .ok (.if_icmp .lt 10, 3) := by decide +kernel
theorem d2_93 : decode prog_13_method_5_code 93 = .ok (.iload_n 0, 1) := by decide +kernel
theorem d2_94 : decode prog_13_method_5_code 94 = .ok (.sipush 8191, 3) := by decide +kernel
theorem d2_97 : decode prog_13_method_5_code 97 = .ok (.if_icmp .le 94, 3) := by decide +kernel
theorem d2_100 : decode prog_13_method_5_code 100 = .ok (.iload_n 0, 1) := by decide +kernel
theorem d2_101 : decode prog_13_method_5_code 101 = .ok (.sipush 8204, 3) := by decide +kernel
theorem d2_104 : decode prog_13_method_5_code 104 = .ok (.if_icmp .lt 10, 3) := by decide +kernel
theorem d2_107 : decode prog_13_method_5_code 107 = .ok (.iload_n 0, 1) := by decide +kernel
theorem d2_108 : decode prog_13_method_5_code 108 = .ok (.sipush 8205, 3) := by decide +kernel
theorem d2_111 : decode prog_13_method_5_code 111 = .ok (.if_icmp .le 80, 3) := by decide +kernel
theorem d2_114 : decode prog_13_method_5_code 114 = .ok (.iload_n 0, 1) := by decide +kernel
theorem d2_115 : decode prog_13_method_5_code 115 = .ok (.sipush 8304, 3) := by decide +kernel
theorem d2_118 : decode prog_13_method_5_code 118 = .ok (.if_icmp .lt 10, 3) := by decide +kernel
theorem d2_121 : decode prog_13_method_5_code 121 = .ok (.iload_n 0, 1) := by decide +kernel
theorem d2_122 : decode prog_13_method_5_code 122 = .ok (.sipush 8591, 3) := by decide +kernel
theorem d2_125 : decode prog_13_method_5_code 125 = .ok (.if_icmp .le 66, 3) := by decide +kernel
theorem d2_128 : decode prog_13_method_5_code 128 = .ok (.iload_n 0, 1) := by decide +kernel
theorem d2_129 : decode prog_13_method_5_code 129 = .ok (.sipush 11264, 3) := by decide +kernel
theorem d2_132 : decode prog_13_method_5_code 132 = .ok (.if_icmp .lt 10, 3) := by decide +kernel
theorem d2_135 : decode prog_13_method_5_code 135 = .ok (.iload_n 0, 1) := by decide +kernel
theorem d2_136 : decode prog_13_method_5_code 136 = .ok (.sipush 12271, 3) := by decide +kernel
theorem d2_139 : decode prog_13_method_5_code 139 = .ok (.if_icmp .le 52, 3) := by decide +kernel
theorem d2_142 : decode prog_13_method_5_code 142 = .ok (.iload_n 0, 1) := by decide +kernel
theorem d2_143 : decode prog_13_method_5_code 143 = .ok (.sipush 12289, 3) := by decide +kernel
theorem d2_146 : decode prog_13_method_5_code 146 = .ok (.if_icmp .lt 9, 3) := by decide +kernel
theorem d2_149 : decode prog_13_method_5_code 149 = .ok (.iload_n 0, 1) := by decide +kernel
theorem d2_150 : decode prog_13_method_5_code 150 = .ok (.ldc 59, 2) := by decide +kernel
theorem d2_152 : decode prog_13_method_5_code 152 = .ok (.if_icmp .le 39, 3) := by decide +kernel
theorem d2_155 : decode prog_13_method_5_code 155 = .ok (.iload_n 0, 1) := by decide +kernel
theorem d2_156 : decode prog_13_method_5_code 156 = .ok (.ldc 60, 2) := by decide +kernel
theorem d2_158 : decode prog_13_method_5_code 158 = .ok (.if_icmp .lt 9, 3) := by decide +kernel
theorem d2_161 : decode prog_13_method_5_code 161 = .ok (.iload_n 0, 1) := by decide +kernel
theorem d2_162 : decode prog_13_method_5_code 162 = .ok (.ldc 61, 2) := by decide +kernel
theorem d2_164 : decode prog_13_method_5_code 164 = .ok (.if_icmp .le 27, 3) := by decide +kernel
theorem d2_167 : decode prog_13_method_5_code 167 = .ok (.iload_n 0, 1) := by decide +kernel
theorem d2_168 : decode prog_13_method_5_code 168 = .ok (.ldc 62, 2) := by decide +kernel
theorem d2_170 : decode prog_13_method_5_code 170 = .ok (.if_icmp .lt 9, 3) := by decide +kernel
theorem d2_173 : decode prog_13_method_5_code 173 = .ok (.iload_n 0, 1) := by decide +kernel
theorem d2_174 : decode prog_13_method_5_code 174 = .ok (.ldc 63, 2) := by decide +kernel
theorem d2_176 : decode prog_13_method_5_code 176 = .ok (.if_icmp .le 15, 3) := by decide +kernel
theorem d2_179 : decode prog_13_method_5_code 179 = .ok (.iload_n 0, 1) := by decide +kernel
theorem d2_180 : decode prog_13_method_5_code 180 = .ok (.ldc 64, 2) := by decide +kernel
theorem d2_182 : decode prog_13_method_5_code 182 = .ok (.if_icmp .lt 13, 3) := by decide +kernel
theorem d2_185 : decode prog_13_method_5_code 185 = .ok (.iload_n 0, 1) := by decide +kernel
theorem d2_186 : decode prog_13_method_5_code 186 = .ok (.ldc 65, 2) := by decide +kernel
theorem d2_188 : decode prog_13_method_5_code 188 = .ok (.if_icmp .gt 7, 3) := by decide +kernel
theorem d2_191 : decode prog_13_method_5_code 191 = .ok (.iconst 1, 1) := by decide +kernel
theorem d2_192 : decode prog_13_method_5_code 192 = .ok (.goto 4, 3) := by decide +kernel
theorem d2_195 : decode prog_13_method_5_code 195 = .ok (.iconst 0, 1) := by decide +kernel
theorem d2_196 : decode prog_13_method_5_code 196 = .ok (.ireturn, 1) := by decide +kernel
def own_st_179 (l0 : Int32) : Int32 := (if l0 < (65536 : Int32) then (0 : Int32) else (if (983039 : Int32) < l0 then (0 : Int32) else (1 : Int32)))
def own_st_167 (l0 : Int32) : Int32 := (if l0 < (65008 : Int32) then own_st_179 l0 else (if (65533 : Int32) < l0 then own_st_179 l0 else (1 : Int32)))
def own_st_155 (l0 : Int32) : Int32 := (if l0 < (63744 : Int32) then own_st_167 l0 else (if (64975 : Int32) < l0 then own_st_167 l0 else (1 : Int32)))
def own_st_142 (l0 : Int32) : Int32 := (if l0 < (12289 : Int32) then own_st_155 l0 else (if (55295 : Int32) < l0 then own_st_155 l0 else (1 : Int32)))
def own_st_128 (l0 : Int32) : Int32 := (if l0 < (11264 : Int32) then own_st_142 l0 else (if (12271 : Int32) < l0 then own_st_142 l0 else (1 : Int32)))
def own_st_114 (l0 : Int32) : Int32 := (if l0 < (8304 : Int32) then own_st_128 l0 else (if (8591 : Int32) < l0 then own_st_128 l0 else (1 : Int32)))
def own_st_100 (l0 : Int32) : Int32 := (if l0 < (8204 : Int32) then own_st_114 l0 else (if (8205 : Int32) < l0 then own_st_114 l0 else (1 : Int32)))
def own_st_86 (l0 : Int32) : Int32 := (if l0 < (895 : Int32) then own_st_100 l0 else (if (8191 : Int32) < l0 then own_st_100 l0 else (1 : Int32)))
def own_st_72 (l0 : Int32) : Int32 := (if l0 < (880 : Int32) then own_st_86 l0 else (if (893 : Int32) < l0 then own_st_86 l0 else (1 : Int32)))
def own_st_58 (l0 : Int32) : Int32 := (if l0 < (248 : Int32) then own_st_72 l0 else (if (767 : Int32) < l0 then own_st_72 l0 else (1 : Int32)))
def own_st_44 (l0 : Int32) : Int32 := (if l0 < (216 : Int32) then own_st_58 l0 else (if (246 : Int32) < l0 then own_st_58 l0 else (1 : Int32)))
def own_st_24 (l0 : Int32) : Int32 := (if l0 = (95 : Int32) then (1 : Int32) else (if l0 < (192 : Int32) then own_st_44 l0 else (if (214 : Int32) < l0 then own_st_44 l0 else (1 : Int32))))
def own_st_12 (l0 : Int32) : Int32 := (if l0 < (65 : Int32) then own_st_24 l0 else (if (90 : Int32) < l0 then own_st_24 l0 else (1 : Int32)))
def own_st (x0 : Int32) : Int32 := (if x0 < (97 : Int32) then own_st_12 x0 else (if (122 : Int32) < x0 then own_st_12 x0 else (1 : Int32)))
theorem own_pn2 : plainName "com/example/marshwright/marshwright/internal/XmlNames" = true := by first | (simp [plainName, overriddenIn]; done) | decide +kernel
set_option maxRecDepth 65536 in
set_option maxHeartbeats 40000000 in
theorem m_2 (l : Launch) (Z : State) (a0 : Array Value) (hw : ∀ d ∈ tables_1, d.before a0 Z = true) (n0 : Nat) (ws : List Jvm.Cond) (x0 : Int32) (A : AHeap) :
    Meth l Z a0 ws (⟨"com/example/marshwright/marshwright/internal/XmlNames", "isNameStartChar", "(I)Z"⟩ : MethodName) prog_13_method_5_code 1 (some (.boolean)) ({ frames := 0, cells := 0, slots := 0, locals := 0 } : Room) 0 0 n0 #[.int x0] A (fun r A' => r = some (.int (own_st x0)) ∧ A' = A) := by
  refine Meth.of own_pn2 (Ls := [.val (.int x0)]) (fun m => by first | rfl | (simp [entryFrame, mkF, argsToLocals, Value.category, maxLocals]; done)) ?_
  intro K G
  have J179 : ∀ (l0 : Int32), own_st x0 = own_st_179 l0 → K 179 [.val (.int l0)] [] A 0 0 := by
    intro l0 he
    refine G.iloadN d2_179 rfl ?_
    refine G.ldcI d2_180 (hw _ (List.mem_of_getElem? (i := 21) rfl)) ?_
    refine G.icmp_lt 195 d2_182 (by decide) rfl (fun h182 => ?_) (fun h182 => ?_)
    · replace he := he.trans (if_pos h182)
      refine G.iconst (0) d2_195 rfl ?_
      exact G.zreturn rfl d2_196 rfl (Nat.le_of_ble_eq_true rfl) (Nat.le_of_ble_eq_true rfl) ⟨congrArg (fun z => some (Value.int z)) he.symm, rfl⟩
    · replace he := he.trans (if_neg h182)
      refine G.iloadN d2_185 rfl ?_
      refine G.ldcI d2_186 (hw _ (List.mem_of_getElem? (i := 32) rfl)) ?_
      refine G.icmp_gt 195 d2_188 (by decide) rfl (fun h188 => ?_) (fun h188 => ?_)
      · replace he := he.trans (if_pos h188)
        refine G.iconst (0) d2_195 rfl ?_
        exact G.zreturn rfl d2_196 rfl (Nat.le_of_ble_eq_true rfl) (Nat.le_of_ble_eq_true rfl) ⟨congrArg (fun z => some (Value.int z)) he.symm, rfl⟩
      · replace he := he.trans (if_neg h188)
        refine G.iconst (1) d2_191 rfl ?_
        refine G.goto 196 d2_192 (by decide) rfl ?_
        exact G.zreturn rfl d2_196 rfl (Nat.le_of_ble_eq_true rfl) (Nat.le_of_ble_eq_true rfl) ⟨congrArg (fun z => some (Value.int z)) he.symm, rfl⟩
  have J167 : ∀ (l0 : Int32), own_st x0 = own_st_167 l0 → K 167 [.val (.int l0)] [] A 0 0 := by
    intro l0 he
    refine G.iloadN d2_167 rfl ?_
    refine G.ldcI d2_168 (hw _ (List.mem_of_getElem? (i := 20) rfl)) ?_
    refine G.icmp_lt 179 d2_170 (by decide) rfl (fun h170 => ?_) (fun h170 => ?_)
    · replace he := he.trans (if_pos h170)
      exact J179 _ he
    · replace he := he.trans (if_neg h170)
      refine G.iloadN d2_173 rfl ?_
      refine G.ldcI d2_174 (hw _ (List.mem_of_getElem? (i := 31) rfl)) ?_
      refine G.icmp_le 191 d2_176 (by decide) rfl (fun h176 => ?_) (fun h176 => ?_)
      · replace he := he.trans (if_neg h176)
        refine G.iconst (1) d2_191 rfl ?_
        refine G.goto 196 d2_192 (by decide) rfl ?_
        exact G.zreturn rfl d2_196 rfl (Nat.le_of_ble_eq_true rfl) (Nat.le_of_ble_eq_true rfl) ⟨congrArg (fun z => some (Value.int z)) he.symm, rfl⟩
      · replace he := he.trans (if_pos h176)
        exact J179 _ he
  have J155 : ∀ (l0 : Int32), own_st x0 = own_st_155 l0 → K 155 [.val (.int l0)] [] A 0 0 := by
    intro l0 he
    refine G.iloadN d2_155 rfl ?_
    refine G.ldcI d2_156 (hw _ (List.mem_of_getElem? (i := 19) rfl)) ?_
    refine G.icmp_lt 167 d2_158 (by decide) rfl (fun h158 => ?_) (fun h158 => ?_)
    · replace he := he.trans (if_pos h158)
      exact J167 _ he
    · replace he := he.trans (if_neg h158)
      refine G.iloadN d2_161 rfl ?_
      refine G.ldcI d2_162 (hw _ (List.mem_of_getElem? (i := 30) rfl)) ?_
      refine G.icmp_le 191 d2_164 (by decide) rfl (fun h164 => ?_) (fun h164 => ?_)
      · replace he := he.trans (if_neg h164)
        refine G.iconst (1) d2_191 rfl ?_
        refine G.goto 196 d2_192 (by decide) rfl ?_
        exact G.zreturn rfl d2_196 rfl (Nat.le_of_ble_eq_true rfl) (Nat.le_of_ble_eq_true rfl) ⟨congrArg (fun z => some (Value.int z)) he.symm, rfl⟩
      · replace he := he.trans (if_pos h164)
        exact J167 _ he
  have J142 : ∀ (l0 : Int32), own_st x0 = own_st_142 l0 → K 142 [.val (.int l0)] [] A 0 0 := by
    intro l0 he
    refine G.iloadN d2_142 rfl ?_
    refine G.sipush (12289) d2_143 rfl ?_
    refine G.icmp_lt 155 d2_146 (by decide) rfl (fun h146 => ?_) (fun h146 => ?_)
    · replace he := he.trans (if_pos h146)
      exact J155 _ he
    · replace he := he.trans (if_neg h146)
      refine G.iloadN d2_149 rfl ?_
      refine G.ldcI d2_150 (hw _ (List.mem_of_getElem? (i := 29) rfl)) ?_
      refine G.icmp_le 191 d2_152 (by decide) rfl (fun h152 => ?_) (fun h152 => ?_)
      · replace he := he.trans (if_neg h152)
        refine G.iconst (1) d2_191 rfl ?_
        refine G.goto 196 d2_192 (by decide) rfl ?_
        exact G.zreturn rfl d2_196 rfl (Nat.le_of_ble_eq_true rfl) (Nat.le_of_ble_eq_true rfl) ⟨congrArg (fun z => some (Value.int z)) he.symm, rfl⟩
      · replace he := he.trans (if_pos h152)
        exact J155 _ he
  have J128 : ∀ (l0 : Int32), own_st x0 = own_st_128 l0 → K 128 [.val (.int l0)] [] A 0 0 := by
    intro l0 he
    refine G.iloadN d2_128 rfl ?_
    refine G.sipush (11264) d2_129 rfl ?_
    refine G.icmp_lt 142 d2_132 (by decide) rfl (fun h132 => ?_) (fun h132 => ?_)
    · replace he := he.trans (if_pos h132)
      exact J142 _ he
    · replace he := he.trans (if_neg h132)
      refine G.iloadN d2_135 rfl ?_
      refine G.sipush (12271) d2_136 rfl ?_
      refine G.icmp_le 191 d2_139 (by decide) rfl (fun h139 => ?_) (fun h139 => ?_)
      · replace he := he.trans (if_neg h139)
        refine G.iconst (1) d2_191 rfl ?_
        refine G.goto 196 d2_192 (by decide) rfl ?_
        exact G.zreturn rfl d2_196 rfl (Nat.le_of_ble_eq_true rfl) (Nat.le_of_ble_eq_true rfl) ⟨congrArg (fun z => some (Value.int z)) he.symm, rfl⟩
      · replace he := he.trans (if_pos h139)
        exact J142 _ he
  have J114 : ∀ (l0 : Int32), own_st x0 = own_st_114 l0 → K 114 [.val (.int l0)] [] A 0 0 := by
    intro l0 he
    refine G.iloadN d2_114 rfl ?_
    refine G.sipush (8304) d2_115 rfl ?_
    refine G.icmp_lt 128 d2_118 (by decide) rfl (fun h118 => ?_) (fun h118 => ?_)
    · replace he := he.trans (if_pos h118)
      exact J128 _ he
    · replace he := he.trans (if_neg h118)
      refine G.iloadN d2_121 rfl ?_
      refine G.sipush (8591) d2_122 rfl ?_
      refine G.icmp_le 191 d2_125 (by decide) rfl (fun h125 => ?_) (fun h125 => ?_)
      · replace he := he.trans (if_neg h125)
        refine G.iconst (1) d2_191 rfl ?_
        refine G.goto 196 d2_192 (by decide) rfl ?_
        exact G.zreturn rfl d2_196 rfl (Nat.le_of_ble_eq_true rfl) (Nat.le_of_ble_eq_true rfl) ⟨congrArg (fun z => some (Value.int z)) he.symm, rfl⟩
      · replace he := he.trans (if_pos h125)
        exact J128 _ he
  have J100 : ∀ (l0 : Int32), own_st x0 = own_st_100 l0 → K 100 [.val (.int l0)] [] A 0 0 := by
    intro l0 he
    refine G.iloadN d2_100 rfl ?_
    refine G.sipush (8204) d2_101 rfl ?_
    refine G.icmp_lt 114 d2_104 (by decide) rfl (fun h104 => ?_) (fun h104 => ?_)
    · replace he := he.trans (if_pos h104)
      exact J114 _ he
    · replace he := he.trans (if_neg h104)
      refine G.iloadN d2_107 rfl ?_
      refine G.sipush (8205) d2_108 rfl ?_
      refine G.icmp_le 191 d2_111 (by decide) rfl (fun h111 => ?_) (fun h111 => ?_)
      · replace he := he.trans (if_neg h111)
        refine G.iconst (1) d2_191 rfl ?_
        refine G.goto 196 d2_192 (by decide) rfl ?_
        exact G.zreturn rfl d2_196 rfl (Nat.le_of_ble_eq_true rfl) (Nat.le_of_ble_eq_true rfl) ⟨congrArg (fun z => some (Value.int z)) he.symm, rfl⟩
      · replace he := he.trans (if_pos h111)
        exact J114 _ he
  have J86 : ∀ (l0 : Int32), own_st x0 = own_st_86 l0 → K 86 [.val (.int l0)] [] A 0 0 := by
    intro l0 he
    refine G.iloadN d2_86 rfl ?_
    refine G.sipush (895) d2_87 rfl ?_
    refine G.icmp_lt 100 d2_90 (by decide) rfl (fun h90 => ?_) (fun h90 => ?_)
    · replace he := he.trans (if_pos h90)
      exact J100 _ he
    · replace he := he.trans (if_neg h90)
      refine G.iloadN d2_93 rfl ?_
      refine G.sipush (8191) d2_94 rfl ?_
      refine G.icmp_le 191 d2_97 (by decide) rfl (fun h97 => ?_) (fun h97 => ?_)
      · replace he := he.trans (if_neg h97)
        refine G.iconst (1) d2_191 rfl ?_
        refine G.goto 196 d2_192 (by decide) rfl ?_
        exact G.zreturn rfl d2_196 rfl (Nat.le_of_ble_eq_true rfl) (Nat.le_of_ble_eq_true rfl) ⟨congrArg (fun z => some (Value.int z)) he.symm, rfl⟩
      · replace he := he.trans (if_pos h97)
        exact J100 _ he
  have J72 : ∀ (l0 : Int32), own_st x0 = own_st_72 l0 → K 72 [.val (.int l0)] [] A 0 0 := by
    intro l0 he
    refine G.iloadN d2_72 rfl ?_
    refine G.sipush (880) d2_73 rfl ?_
    refine G.icmp_lt 86 d2_76 (by decide) rfl (fun h76 => ?_) (fun h76 => ?_)
    · replace he := he.trans (if_pos h76)
      exact J86 _ he
    · replace he := he.trans (if_neg h76)
      refine G.iloadN d2_79 rfl ?_
      refine G.sipush (893) d2_80 rfl ?_
      refine G.icmp_le 191 d2_83 (by decide) rfl (fun h83 => ?_) (fun h83 => ?_)
      · replace he := he.trans (if_neg h83)
        refine G.iconst (1) d2_191 rfl ?_
        refine G.goto 196 d2_192 (by decide) rfl ?_
        exact G.zreturn rfl d2_196 rfl (Nat.le_of_ble_eq_true rfl) (Nat.le_of_ble_eq_true rfl) ⟨congrArg (fun z => some (Value.int z)) he.symm, rfl⟩
      · replace he := he.trans (if_pos h83)
        exact J86 _ he
  have J58 : ∀ (l0 : Int32), own_st x0 = own_st_58 l0 → K 58 [.val (.int l0)] [] A 0 0 := by
    intro l0 he
    refine G.iloadN d2_58 rfl ?_
    refine G.sipush (248) d2_59 rfl ?_
    refine G.icmp_lt 72 d2_62 (by decide) rfl (fun h62 => ?_) (fun h62 => ?_)
    · replace he := he.trans (if_pos h62)
      exact J72 _ he
    · replace he := he.trans (if_neg h62)
      refine G.iloadN d2_65 rfl ?_
      refine G.sipush (767) d2_66 rfl ?_
      refine G.icmp_le 191 d2_69 (by decide) rfl (fun h69 => ?_) (fun h69 => ?_)
      · replace he := he.trans (if_neg h69)
        refine G.iconst (1) d2_191 rfl ?_
        refine G.goto 196 d2_192 (by decide) rfl ?_
        exact G.zreturn rfl d2_196 rfl (Nat.le_of_ble_eq_true rfl) (Nat.le_of_ble_eq_true rfl) ⟨congrArg (fun z => some (Value.int z)) he.symm, rfl⟩
      · replace he := he.trans (if_pos h69)
        exact J72 _ he
  have J44 : ∀ (l0 : Int32), own_st x0 = own_st_44 l0 → K 44 [.val (.int l0)] [] A 0 0 := by
    intro l0 he
    refine G.iloadN d2_44 rfl ?_
    refine G.sipush (216) d2_45 rfl ?_
    refine G.icmp_lt 58 d2_48 (by decide) rfl (fun h48 => ?_) (fun h48 => ?_)
    · replace he := he.trans (if_pos h48)
      exact J58 _ he
    · replace he := he.trans (if_neg h48)
      refine G.iloadN d2_51 rfl ?_
      refine G.sipush (246) d2_52 rfl ?_
      refine G.icmp_le 191 d2_55 (by decide) rfl (fun h55 => ?_) (fun h55 => ?_)
      · replace he := he.trans (if_neg h55)
        refine G.iconst (1) d2_191 rfl ?_
        refine G.goto 196 d2_192 (by decide) rfl ?_
        exact G.zreturn rfl d2_196 rfl (Nat.le_of_ble_eq_true rfl) (Nat.le_of_ble_eq_true rfl) ⟨congrArg (fun z => some (Value.int z)) he.symm, rfl⟩
      · replace he := he.trans (if_pos h55)
        exact J58 _ he
  have J24 : ∀ (l0 : Int32), own_st x0 = own_st_24 l0 → K 24 [.val (.int l0)] [] A 0 0 := by
    intro l0 he
    refine G.iloadN d2_24 rfl ?_
    refine G.bipush (95) d2_25 rfl ?_
    refine G.icmp_eq 191 d2_27 (by decide) rfl (fun h27 => ?_) (fun h27 => ?_)
    · replace he := he.trans (if_pos h27)
      refine G.iconst (1) d2_191 rfl ?_
      refine G.goto 196 d2_192 (by decide) rfl ?_
      exact G.zreturn rfl d2_196 rfl (Nat.le_of_ble_eq_true rfl) (Nat.le_of_ble_eq_true rfl) ⟨congrArg (fun z => some (Value.int z)) he.symm, rfl⟩
    · replace he := he.trans (if_neg h27)
      refine G.iloadN d2_30 rfl ?_
      refine G.sipush (192) d2_31 rfl ?_
      refine G.icmp_lt 44 d2_34 (by decide) rfl (fun h34 => ?_) (fun h34 => ?_)
      · replace he := he.trans (if_pos h34)
        exact J44 _ he
      · replace he := he.trans (if_neg h34)
        refine G.iloadN d2_37 rfl ?_
        refine G.sipush (214) d2_38 rfl ?_
        refine G.icmp_le 191 d2_41 (by decide) rfl (fun h41 => ?_) (fun h41 => ?_)
        · replace he := he.trans (if_neg h41)
          refine G.iconst (1) d2_191 rfl ?_
          refine G.goto 196 d2_192 (by decide) rfl ?_
          exact G.zreturn rfl d2_196 rfl (Nat.le_of_ble_eq_true rfl) (Nat.le_of_ble_eq_true rfl) ⟨congrArg (fun z => some (Value.int z)) he.symm, rfl⟩
        · replace he := he.trans (if_pos h41)
          exact J44 _ he
  have J12 : ∀ (l0 : Int32), own_st x0 = own_st_12 l0 → K 12 [.val (.int l0)] [] A 0 0 := by
    intro l0 he
    refine G.iloadN d2_12 rfl ?_
    refine G.bipush (65) d2_13 rfl ?_
    refine G.icmp_lt 24 d2_15 (by decide) rfl (fun h15 => ?_) (fun h15 => ?_)
    · replace he := he.trans (if_pos h15)
      exact J24 _ he
    · replace he := he.trans (if_neg h15)
      refine G.iloadN d2_18 rfl ?_
      refine G.bipush (90) d2_19 rfl ?_
      refine G.icmp_le 191 d2_21 (by decide) rfl (fun h21 => ?_) (fun h21 => ?_)
      · replace he := he.trans (if_neg h21)
        refine G.iconst (1) d2_191 rfl ?_
        refine G.goto 196 d2_192 (by decide) rfl ?_
        exact G.zreturn rfl d2_196 rfl (Nat.le_of_ble_eq_true rfl) (Nat.le_of_ble_eq_true rfl) ⟨congrArg (fun z => some (Value.int z)) he.symm, rfl⟩
      · replace he := he.trans (if_pos h21)
        exact J24 _ he
  have he : own_st x0 = own_st x0 := rfl
  refine G.iloadN d2_0 rfl ?_
  refine G.bipush (97) d2_1 rfl ?_
  refine G.icmp_lt 12 d2_3 (by decide) rfl (fun h3 => ?_) (fun h3 => ?_)
  · replace he := he.trans (if_pos h3)
    exact J12 _ he
  · replace he := he.trans (if_neg h3)
    refine G.iloadN d2_6 rfl ?_
    refine G.bipush (122) d2_7 rfl ?_
    refine G.icmp_le 191 d2_9 (by decide) rfl (fun h9 => ?_) (fun h9 => ?_)
    · replace he := he.trans (if_neg h9)
      refine G.iconst (1) d2_191 rfl ?_
      refine G.goto 196 d2_192 (by decide) rfl ?_
      exact G.zreturn rfl d2_196 rfl (Nat.le_of_ble_eq_true rfl) (Nat.le_of_ble_eq_true rfl) ⟨congrArg (fun z => some (Value.int z)) he.symm, rfl⟩
    · replace he := he.trans (if_pos h9)
      exact J12 _ he
theorem d1_0 : decode prog_13_method_6_code 0 = .ok (.iload_n 0, 1) := by decide +kernel
theorem d1_1 : decode prog_13_method_6_code 1 = .ok (.invokestatic 39, 3) := by decide +kernel
theorem d1_4 : decode prog_13_method_6_code 4 = .ok (.ifCond .ne 62, 3) := by decide +kernel
theorem d1_7 : decode prog_13_method_6_code 7 = .ok (.iload_n 0, 1) := by decide +kernel
theorem d1_8 : decode prog_13_method_6_code 8 = .ok (.bipush 45, 2) := by decide +kernel
theorem d1_10 : decode prog_13_method_6_code 10 = .ok (.if_icmp .eq 56, 3) := by decide +kernel
theorem d1_13 : decode prog_13_method_6_code 13 = .ok (.iload_n 0, 1) := by decide +kernel
theorem d1_14 : decode prog_13_method_6_code 14 = .ok (.bipush 46, 2) := by decide +kernel
theorem d1_16 : decode prog_13_method_6_code 16 = .ok (.if_icmp .eq 50, 3) := by decide +kernel
theorem d1_19 : decode prog_13_method_6_code 19 = .ok (.iload_n 0, 1) := by decide +kernel
theorem d1_20 : decode prog_13_method_6_code 20 = .ok (.bipush 48, 2) := by decide +kernel
theorem d1_22 : decode prog_13_method_6_code 22 = .ok (.if_icmp .lt 9, 3) := by decide +kernel
theorem d1_25 : decode prog_13_method_6_code 25 = .ok (.iload_n 0, 1) := by decide +kernel
theorem d1_26 : decode prog_13_method_6_code 26 = .ok (.bipush 57, 2) := by decide +kernel
theorem d1_28 : decode prog_13_method_6_code 28 = .ok (.if_icmp .le 38, 3) := by decide +kernel
theorem d1_31 : decode prog_13_method_6_code 31 = .ok (.iload_n 0, 1) := by decide +kernel
theorem d1_32 : decode prog_13_method_6_code 32 = .ok (.sipush 183, 3) := by decide +kernel
theorem d1_35 : decode prog_13_method_6_code 35 = .ok (.if_icmp .eq 31, 3) := by decide +kernel
theorem d1_38 : decode prog_13_method_6_code 38 = .ok (.iload_n 0, 1) := by decide +kernel
theorem d1_39 : decode prog_13_method_6_code 39 = .ok (.sipush 768, 3) := by decide +kernel
theorem d1_42 : decode prog_13_method_6_code 42 = .ok (.if_icmp .lt 10, 3) := by decide +kernel
theorem d1_45 : decode prog_13_method_6_code 45 = .ok (.iload_n 0, 1) := by decide +kernel
theorem d1_46 : decode prog_13_method_6_code 46 = .ok (.sipush 879, 3) := by decide +kernel
theorem d1_49 : decode prog_13_method_6_code 49 = .ok (.if_icmp .le 17, 3) := by decide +kernel
theorem d1_52 : decode prog_13_method_6_code 52 = .ok (.iload_n 0, 1) := by decide +kernel
theorem d1_53 : decode prog_13_method_6_code 53 = .ok (.sipush 8255, 3) := by decide +kernel
theorem d1_56 : decode prog_13_method_6_code 56 = .ok (.if_icmp .lt 14, 3) := by decide +kernel
theorem d1_59 : decode prog_13_method_6_code 59 = .ok (.iload_n 0, 1) := by decide +kernel
theorem d1_60 : decode prog_13_method_6_code 60 = .ok (.sipush 8256, 3) := by decide +kernel
theorem d1_63 : decode prog_13_method_6_code 63 = .ok (.if_icmp .gt 7, 3) := by decide +kernel
theorem d1_66 : decode prog_13_method_6_code 66 = .ok (.iconst 1, 1) := by decide +kernel
theorem d1_67 : decode prog_13_method_6_code 67 = .ok (.goto 4, 3) := by decide +kernel
theorem d1_70 : decode prog_13_method_6_code 70 = .ok (.iconst 0, 1) := by decide +kernel
theorem d1_71 : decode prog_13_method_6_code 71 = .ok (.ireturn, 1) := by decide +kernel
def own_nc_52 (l0 : Int32) : Int32 := (if l0 < (8255 : Int32) then (0 : Int32) else (if (8256 : Int32) < l0 then (0 : Int32) else (1 : Int32)))
def own_nc_31 (l0 : Int32) : Int32 := (if l0 = (183 : Int32) then (1 : Int32) else (if l0 < (768 : Int32) then own_nc_52 l0 else (if (879 : Int32) < l0 then own_nc_52 l0 else (1 : Int32))))
def own_nc (x0 : Int32) : Int32 := (if (own_st x0) = (0 : Int32) then (if x0 = (45 : Int32) then (1 : Int32) else (if x0 = (46 : Int32) then (1 : Int32) else (if x0 < (48 : Int32) then own_nc_31 x0 else (if (57 : Int32) < x0 then own_nc_31 x0 else (1 : Int32))))) else (1 : Int32))
set_option maxRecDepth 65536 in
set_option maxHeartbeats 40000000 in
theorem m_1 (l : Launch) (Z : State) (a0 : Array Value) (hw : ∀ d ∈ tables_1, d.before a0 Z = true) (n0 : Nat) (ws : List Jvm.Cond) (x0 : Int32) (A : AHeap) :
    Meth l Z a0 ws (⟨"com/example/marshwright/marshwright/internal/XmlNames", "isNameChar", "(I)Z"⟩ : MethodName) prog_13_method_6_code 1 (some (.boolean)) ({ frames := 1, cells := 0, slots := 0, locals := 12 } : Room) 0 0 n0 #[.int x0] A (fun r A' => r = some (.int (own_nc x0)) ∧ A' = A) := by
  refine Meth.of own_pn2 (Ls := [.val (.int x0)]) (fun m => by first | rfl | (simp [entryFrame, mkF, argsToLocals, Value.category, maxLocals]; done)) ?_
  intro K G
  have J52 : ∀ (l0 : Int32), own_nc x0 = own_nc_52 l0 → K 52 [.val (.int l0)] [] A 0 0 := by
    intro l0 he
    refine G.iloadN d1_52 rfl ?_
    refine G.sipush (8255) d1_53 rfl ?_
    refine G.icmp_lt 70 d1_56 (by decide) rfl (fun h56 => ?_) (fun h56 => ?_)
    · replace he := he.trans (if_pos h56)
      refine G.iconst (0) d1_70 rfl ?_
      exact G.zreturn rfl d1_71 rfl (Nat.le_of_ble_eq_true rfl) (Nat.le_of_ble_eq_true rfl) ⟨congrArg (fun z => some (Value.int z)) he.symm, rfl⟩
    · replace he := he.trans (if_neg h56)
      refine G.iloadN d1_59 rfl ?_
      refine G.sipush (8256) d1_60 rfl ?_
      refine G.icmp_gt 70 d1_63 (by decide) rfl (fun h63 => ?_) (fun h63 => ?_)
      · replace he := he.trans (if_pos h63)
        refine G.iconst (0) d1_70 rfl ?_
        exact G.zreturn rfl d1_71 rfl (Nat.le_of_ble_eq_true rfl) (Nat.le_of_ble_eq_true rfl) ⟨congrArg (fun z => some (Value.int z)) he.symm, rfl⟩
      · replace he := he.trans (if_neg h63)
        refine G.iconst (1) d1_66 rfl ?_
        refine G.goto 71 d1_67 (by decide) rfl ?_
        exact G.zreturn rfl d1_71 rfl (Nat.le_of_ble_eq_true rfl) (Nat.le_of_ble_eq_true rfl) ⟨congrArg (fun z => some (Value.int z)) he.symm, rfl⟩
  have J31 : ∀ (l0 : Int32), own_nc x0 = own_nc_31 l0 → K 31 [.val (.int l0)] [] A 0 0 := by
    intro l0 he
    refine G.iloadN d1_31 rfl ?_
    refine G.sipush (183) d1_32 rfl ?_
    refine G.icmp_eq 66 d1_35 (by decide) rfl (fun h35 => ?_) (fun h35 => ?_)
    · replace he := he.trans (if_pos h35)
      refine G.iconst (1) d1_66 rfl ?_
      refine G.goto 71 d1_67 (by decide) rfl ?_
      exact G.zreturn rfl d1_71 rfl (Nat.le_of_ble_eq_true rfl) (Nat.le_of_ble_eq_true rfl) ⟨congrArg (fun z => some (Value.int z)) he.symm, rfl⟩
    · replace he := he.trans (if_neg h35)
      refine G.iloadN d1_38 rfl ?_
      refine G.sipush (768) d1_39 rfl ?_
      refine G.icmp_lt 52 d1_42 (by decide) rfl (fun h42 => ?_) (fun h42 => ?_)
      · replace he := he.trans (if_pos h42)
        exact J52 _ he
      · replace he := he.trans (if_neg h42)
        refine G.iloadN d1_45 rfl ?_
        refine G.sipush (879) d1_46 rfl ?_
        refine G.icmp_le 66 d1_49 (by decide) rfl (fun h49 => ?_) (fun h49 => ?_)
        · replace he := he.trans (if_neg h49)
          refine G.iconst (1) d1_66 rfl ?_
          refine G.goto 71 d1_67 (by decide) rfl ?_
          exact G.zreturn rfl d1_71 rfl (Nat.le_of_ble_eq_true rfl) (Nat.le_of_ble_eq_true rfl) ⟨congrArg (fun z => some (Value.int z)) he.symm, rfl⟩
        · replace he := he.trans (if_pos h49)
          exact J52 _ he
  have he : own_nc x0 = own_nc x0 := rfl
  refine G.iloadN d1_0 rfl ?_
  refine G.scall [_] rfl d1_1 (hw _ (List.mem_of_getElem? (i := 16) rfl)) (hw _ (List.mem_of_getElem? (i := 17) rfl)) (hw _ (List.mem_of_getElem? (i := 14) rfl)) (hw _ (List.mem_of_getElem? (i := 18) rfl)) (by decide) (m_2 l Z a0 hw n0 [] _ _) own_pd0 rfl rfl (Nat.le_of_ble_eq_true rfl) (Nat.le_of_ble_eq_true rfl) (Nat.le_of_ble_eq_true rfl) (Nat.le_of_ble_eq_true rfl) (by rintro _ _ ⟨rfl, rfl⟩; rfl) ?_
  rintro _ _ ⟨rfl, rfl⟩
  refine G.if_ne 66 d1_4 (by decide) rfl (fun h4 => ?_) (fun h4 => ?_)
  · replace he := he.trans (if_neg h4)
    refine G.iconst (1) d1_66 rfl ?_
    refine G.goto 71 d1_67 (by decide) rfl ?_
    exact G.zreturn rfl d1_71 rfl (Nat.le_of_ble_eq_true rfl) (Nat.le_of_ble_eq_true rfl) ⟨congrArg (fun z => some (Value.int z)) he.symm, rfl⟩
  · replace he := he.trans (if_pos h4)
    refine G.iloadN d1_7 rfl ?_
    refine G.bipush (45) d1_8 rfl ?_
    refine G.icmp_eq 66 d1_10 (by decide) rfl (fun h10 => ?_) (fun h10 => ?_)
    · replace he := he.trans (if_pos h10)
      refine G.iconst (1) d1_66 rfl ?_
      refine G.goto 71 d1_67 (by decide) rfl ?_
      exact G.zreturn rfl d1_71 rfl (Nat.le_of_ble_eq_true rfl) (Nat.le_of_ble_eq_true rfl) ⟨congrArg (fun z => some (Value.int z)) he.symm, rfl⟩
    · replace he := he.trans (if_neg h10)
      refine G.iloadN d1_13 rfl ?_
      refine G.bipush (46) d1_14 rfl ?_
      refine G.icmp_eq 66 d1_16 (by decide) rfl (fun h16 => ?_) (fun h16 => ?_)
      · replace he := he.trans (if_pos h16)
        refine G.iconst (1) d1_66 rfl ?_
        refine G.goto 71 d1_67 (by decide) rfl ?_
        exact G.zreturn rfl d1_71 rfl (Nat.le_of_ble_eq_true rfl) (Nat.le_of_ble_eq_true rfl) ⟨congrArg (fun z => some (Value.int z)) he.symm, rfl⟩
      · replace he := he.trans (if_neg h16)
        refine G.iloadN d1_19 rfl ?_
        refine G.bipush (48) d1_20 rfl ?_
        refine G.icmp_lt 31 d1_22 (by decide) rfl (fun h22 => ?_) (fun h22 => ?_)
        · replace he := he.trans (if_pos h22)
          exact J31 _ he
        · replace he := he.trans (if_neg h22)
          refine G.iloadN d1_25 rfl ?_
          refine G.bipush (57) d1_26 rfl ?_
          refine G.icmp_le 66 d1_28 (by decide) rfl (fun h28 => ?_) (fun h28 => ?_)
          · replace he := he.trans (if_neg h28)
            refine G.iconst (1) d1_66 rfl ?_
            refine G.goto 71 d1_67 (by decide) rfl ?_
            exact G.zreturn rfl d1_71 rfl (Nat.le_of_ble_eq_true rfl) (Nat.le_of_ble_eq_true rfl) ⟨congrArg (fun z => some (Value.int z)) he.symm, rfl⟩
          · replace he := he.trans (if_pos h28)
            exact J31 _ he
theorem d4_0 : decode method_2_code 0 = .ok (.iload_n 0, 1) := by decide +kernel
theorem d4_1 : decode method_2_code 1 = .ok (.iload_n 1, 1) := by decide +kernel
theorem d4_2 : decode method_2_code 2 = .ok (.if_icmp .lt 12, 3) := by decide +kernel
theorem d4_5 : decode method_2_code 5 = .ok (.iload_n 0, 1) := by decide +kernel
theorem d4_6 : decode method_2_code 6 = .ok (.iload_n 2, 1) := by decide +kernel
theorem d4_7 : decode method_2_code 7 = .ok (.if_icmp .gt 7, 3) := by decide +kernel
theorem d4_10 : decode method_2_code 10 = .ok (.iconst 1, 1) := by decide +kernel
theorem d4_11 : decode method_2_code 11 = .ok (.goto 4, 3) := by decide +kernel
theorem d4_14 : decode method_2_code 14 = .ok (.iconst 0, 1) := by decide +kernel
theorem d4_15 : decode method_2_code 15 = .ok (.ireturn, 1) := by decide +kernel
def own_in (x0 : Int32) (x1 : Int32) (x2 : Int32) : Int32 := (if x0 < x1 then (0 : Int32) else (if x2 < x0 then (0 : Int32) else (1 : Int32)))
theorem own_pn3 : plainName "com/example/marshwright/marshwright/internal/XmlNamesIsNameCharPinLaw" = true := by first | (simp [plainName, overriddenIn]; done) | decide +kernel
set_option maxRecDepth 65536 in
set_option maxHeartbeats 40000000 in
theorem m_4 (l : Launch) (Z : State) (a0 : Array Value) (hw : ∀ d ∈ tables_1, d.before a0 Z = true) (n0 : Nat) (ws : List Jvm.Cond) (x0 : Int32) (x1 : Int32) (x2 : Int32) (A : AHeap) :
    Meth l Z a0 ws (⟨"com/example/marshwright/marshwright/internal/XmlNamesIsNameCharPinLaw", "in", "(III)Z"⟩ : MethodName) method_2_code 3 (some (.boolean)) ({ frames := 0, cells := 0, slots := 0, locals := 0 } : Room) 0 0 n0 #[.int x0, .int x1, .int x2] A (fun r A' => r = some (.int (own_in x0 x1 x2)) ∧ A' = A) := by
  refine Meth.of own_pn3 (Ls := [.val (.int x0), .val (.int x1), .val (.int x2)]) (fun m => by first | rfl | (simp [entryFrame, mkF, argsToLocals, Value.category, maxLocals]; done)) ?_
  intro K G
  have he : own_in x0 x1 x2 = own_in x0 x1 x2 := rfl
  refine G.iloadN d4_0 rfl ?_
  refine G.iloadN d4_1 rfl ?_
  refine G.icmp_lt 14 d4_2 (by decide) rfl (fun h2 => ?_) (fun h2 => ?_)
  · replace he := he.trans (if_pos h2)
    refine G.iconst (0) d4_14 rfl ?_
    exact G.zreturn rfl d4_15 rfl (Nat.le_of_ble_eq_true rfl) (Nat.le_of_ble_eq_true rfl) ⟨congrArg (fun z => some (Value.int z)) he.symm, rfl⟩
  · replace he := he.trans (if_neg h2)
    refine G.iloadN d4_5 rfl ?_
    refine G.iloadN d4_6 rfl ?_
    refine G.icmp_gt 14 d4_7 (by decide) rfl (fun h7 => ?_) (fun h7 => ?_)
    · replace he := he.trans (if_pos h7)
      refine G.iconst (0) d4_14 rfl ?_
      exact G.zreturn rfl d4_15 rfl (Nat.le_of_ble_eq_true rfl) (Nat.le_of_ble_eq_true rfl) ⟨congrArg (fun z => some (Value.int z)) he.symm, rfl⟩
    · replace he := he.trans (if_neg h7)
      refine G.iconst (1) d4_10 rfl ?_
      refine G.goto 15 d4_11 (by decide) rfl ?_
      exact G.zreturn rfl d4_15 rfl (Nat.le_of_ble_eq_true rfl) (Nat.le_of_ble_eq_true rfl) ⟨congrArg (fun z => some (Value.int z)) he.symm, rfl⟩
theorem d3_0 : decode method_3_code 0 = .ok (.iload_n 0, 1) := by decide +kernel
theorem d3_1 : decode method_3_code 1 = .ok (.bipush 45, 2) := by decide +kernel
theorem d3_3 : decode method_3_code 3 = .ok (.bipush 46, 2) := by decide +kernel
theorem d3_5 : decode method_3_code 5 = .ok (.invokestatic 7, 3) := by decide +kernel
theorem d3_8 : decode method_3_code 8 = .ok (.ifCond .ne 198, 3) := by decide +kernel
theorem d3_11 : decode method_3_code 11 = .ok (.iload_n 0, 1) := by decide +kernel
theorem d3_12 : decode method_3_code 12 = .ok (.bipush 48, 2) := by decide +kernel
theorem d3_14 : decode method_3_code 14 = .ok (.bipush 57, 2) := by decide +kernel
theorem d3_16 : decode method_3_code 16 = .ok (.invokestatic 7, 3) := by decide +kernel
theorem d3_19 : decode method_3_code 19 = .ok (.ifCond .ne 187, 3) := by decide +kernel
theorem d3_22 : decode method_3_code 22 = .ok (.iload_n 0, 1) := by decide +kernel
theorem d3_23 : decode method_3_code 23 = .ok (.bipush 65, 2) := by decide +kernel
theorem d3_25 : decode method_3_code 25 = .ok (.bipush 90, 2) := by decide +kernel
theorem d3_27 : decode method_3_code 27 = .ok (.invokestatic 7, 3) := by decide +kernel
theorem d3_30 : decode method_3_code 30 = .ok (.ifCond .ne 176, 3) := by decide +kernel
theorem d3_33 : decode method_3_code 33 = .ok (.iload_n 0, 1) := by decide +kernel
theorem d3_34 : decode method_3_code 34 = .ok (.bipush 95, 2) := by decide +kernel
theorem d3_36 : decode method_3_code 36 = .ok (.if_icmp .eq 170, 3) := by decide +kernel
theorem d3_39 : decode method_3_code 39 = .ok (.iload_n 0, 1) := by decide +kernel
theorem d3_40 : decode method_3_code 40 = .ok (.bipush 97, 2) := by decide +kernel
theorem d3_42 : decode method_3_code 42 = .ok (.bipush 122, 2) := by decide +kernel
theorem d3_44 : decode method_3_code 44 = .ok (.invokestatic 7, 3) := by decide +kernel
theorem d3_47 : decode method_3_code 47 = .ok (.ifCond .ne 159, 3) := by decide +kernel
theorem d3_50 : decode method_3_code 50 = .ok (.iload_n 0, 1) := by decide +kernel
theorem d3_51 : decode method_3_code 51 = .ok (.sipush 183, 3) := by decide +kernel
theorem d3_54 : decode method_3_code 54 = .ok (.if_icmp .eq 152, 3) := by decide +kernel
theorem d3_57 : decode method_3_code 57 = .ok (.iload_n 0, 1) := by decide +kernel
theorem d3_58 : decode method_3_code 58 = .ok (.sipush 192, 3) := by decide +kernel
theorem d3_61 : decode method_3_code 61 = .ok (.sipush 214, 3) := by decide +kernel
theorem d3_64 : decode method_3_code 64 = .ok (.invokestatic 7, 3) := by decide +kernel
theorem d3_67 : decode method_3_code 67 = .ok (.ifCond .ne 139, 3) := by decide +kernel
theorem d3_70 : decode method_3_code 70 = .ok (.iload_n 0, 1) := by decide +kernel
theorem d3_71 : decode method_3_code 71 = .ok (.sipush 216, 3) := by decide +kernel
theorem d3_74 : decode method_3_code 74 = .ok (.sipush 246, 3) := by decide +kernel
theorem d3_77 : decode method_3_code 77 = .ok (.invokestatic 7, 3) := by decide +kernel
theorem d3_80 : decode method_3_code 80 = .ok (.ifCond .ne 126, 3) := by decide +kernel
theorem d3_83 : decode method_3_code 83 = .ok (.iload_n 0, 1) := by decide +kernel
theorem d3_84 : decode method_3_code 84 = .ok (.sipush 248, 3) := by decide +kernel
theorem d3_87 : decode method_3_code 87 = .ok (.sipush 893, 3) := by decide +kernel
theorem d3_90 : decode method_3_code 90 = .ok (.invokestatic 7, 3) := by decide +kernel
theorem d3_93 : decode method_3_code 93 = .ok (.ifCond .ne 113, 3) := by decide +kernel
theorem d3_96 : decode method_3_code 96 = .ok (.iload_n 0, 1) := by decide +kernel
theorem d3_97 : decode method_3_code 97 = .ok (.sipush 895, 3) := by decide +kernel
theorem d3_100 : decode method_3_code 100 = .ok (.sipush 8191, 3) := by decide +kernel
theorem d3_103 : decode method_3_code 103 = .ok (.invokestatic 7, 3) := by decide +kernel
theorem d3_106 : decode method_3_code 106 = .ok (.ifCond .ne 100, 3) := by decide +kernel
theorem d3_109 : decode method_3_code 109 = .ok (.iload_n 0, 1) := by decide +kernel
theorem d3_110 : decode method_3_code 110 = .ok (.sipush 8204, 3) := by decide +kernel
theorem d3_113 : decode method_3_code 113 = .ok (.sipush 8205, 3) := by decide +kernel
theorem d3_116 : decode method_3_code 116 = .ok (.invokestatic 7, 3) := by decide +kernel
theorem d3_119 : decode method_3_code 119 = .ok (.ifCond .ne 87, 3) := by decide +kernel
theorem d3_122 : decode method_3_code 122 = .ok (.iload_n 0, 1) := by decide +kernel
theorem d3_123 : decode method_3_code 123 = .ok (.sipush 8255, 3) := by decide +kernel
theorem d3_126 : decode method_3_code 126 = .ok (.sipush 8256, 3) := by decide +kernel
theorem d3_129 : decode method_3_code 129 = .ok (.invokestatic 7, 3) := by decide +kernel
theorem d3_132 : decode method_3_code 132 = .ok (.ifCond .ne 74, 3) := by decide +kernel
theorem d3_135 : decode method_3_code 135 = .ok (.iload_n 0, 1) := by decide +kernel
theorem d3_136 : decode method_3_code 136 = .ok (.sipush 8304, 3) := by decide +kernel
theorem d3_139 : decode method_3_code 139 = .ok (.sipush 8591, 3) := by decide +kernel
theorem d3_142 : decode method_3_code 142 = .ok (.invokestatic 7, 3) := by decide +kernel
theorem d3_145 : decode method_3_code 145 = .ok (.ifCond .ne 61, 3) := by decide +kernel
theorem d3_148 : decode method_3_code 148 = .ok (.iload_n 0, 1) := by decide +kernel
theorem d3_149 : decode method_3_code 149 = .ok (.sipush 11264, 3) := by decide +kernel
theorem d3_152 : decode method_3_code 152 = .ok (.sipush 12271, 3) := by decide +kernel
theorem d3_155 : decode method_3_code 155 = .ok (.invokestatic 7, 3) := by decide +kernel
theorem d3_158 : decode method_3_code 158 = .ok (.ifCond .ne 48, 3) := by decide +kernel
theorem d3_161 : decode method_3_code 161 = .ok (.iload_n 0, 1) := by decide +kernel
theorem d3_162 : decode method_3_code 162 = .ok (.sipush 12289, 3) := by decide +kernel
theorem d3_165 : decode method_3_code 165 = .ok (.ldc 13, 2) := by decide +kernel
theorem d3_167 : decode method_3_code 167 = .ok (.invokestatic 7, 3) := by decide +kernel
theorem d3_170 : decode method_3_code 170 = .ok (.ifCond .ne 36, 3) := by decide +kernel
theorem d3_173 : decode method_3_code 173 = .ok (.iload_n 0, 1) := by decide +kernel
theorem d3_174 : decode method_3_code 174 = .ok (.ldc 14, 2) := by decide +kernel
theorem d3_176 : decode method_3_code 176 = .ok (.ldc 15, 2) := by decide +kernel
theorem d3_178 : decode method_3_code 178 = .ok (.invokestatic 7, 3) := by decide +kernel
theorem d3_181 : decode method_3_code 181 = .ok (.ifCond .ne 25, 3) := by decide +kernel
theorem d3_184 : decode method_3_code 184 = .ok (.iload_n 0, 1) := by decide +kernel
theorem d3_185 : decode method_3_code 185 = .ok (.ldc 16, 2) := by decide +kernel
theorem d3_187 : decode method_3_code 187 = .ok (.ldc 17, 2) := by decide +kernel
theorem d3_189 : decode method_3_code 189 = .ok (.invokestatic 7, 3) := by decide +kernel
theorem d3_192 : decode method_3_code 192 = .ok (.ifCond .ne 14, 3) := by decide +kernel
theorem d3_195 : decode method_3_code 195 = .ok (.iload_n 0, 1) := by decide +kernel
theorem d3_196 : decode method_3_code 196 = .ok (.ldc 18, 2) := by decide +kernel
theorem d3_198 : decode method_3_code 198 = .ok (.ldc 19, 2) := by decide +kernel
theorem d3_200 : decode method_3_code 200 = .ok (.invokestatic 7, 3) := by decide +kernel
theorem d3_203 : decode method_3_code 203 = .ok (.ifCond .eq 7, 3) := by decide +kernel
theorem d3_206 : decode method_3_code 206 = .ok (.iconst 1, 1) := by decide +kernel
theorem d3_207 : decode method_3_code 207 = .ok (.goto 4, 3) := by decide +kernel
theorem d3_210 : decode method_3_code 210 = .ok (.iconst 0, 1) := by decide +kernel
theorem d3_211 : decode method_3_code 211 = .ok (.ireturn, 1) := by decide +kernel
def own_ref (x0 : Int32) : Int32 := (if (own_in x0 (45 : Int32) (46 : Int32)) = (0 : Int32) then (if (own_in x0 (48 : Int32) (57 : Int32)) = (0 : Int32) then (if (own_in x0 (65 : Int32) (90 : Int32)) = (0 : Int32) then (if x0 = (95 : Int32) then (1 : Int32) else (if (own_in x0 (97 : Int32) (122 : Int32)) = (0 : Int32) then (if x0 = (183 : Int32) then (1 : Int32) else (if (own_in x0 (192 : Int32) (214 : Int32)) = (0 : Int32) then (if (own_in x0 (216 : Int32) (246 : Int32)) = (0 : Int32) then (if (own_in x0 (248 : Int32) (893 : Int32)) = (0 : Int32) then (if (own_in x0 (895 : Int32) (8191 : Int32)) = (0 : Int32) then (if (own_in x0 (8204 : Int32) (8205 : Int32)) = (0 : Int32) then (if (own_in x0 (8255 : Int32) (8256 : Int32)) = (0 : Int32) then (if (own_in x0 (8304 : Int32) (8591 : Int32)) = (0 : Int32) then (if (own_in x0 (11264 : Int32) (12271 : Int32)) = (0 : Int32) then (if (own_in x0 (12289 : Int32) (55295 : Int32)) = (0 : Int32) then (if (own_in x0 (63744 : Int32) (64975 : Int32)) = (0 : Int32) then (if (own_in x0 (65008 : Int32) (65533 : Int32)) = (0 : Int32) then (if (own_in x0 (65536 : Int32) (983039 : Int32)) = (0 : Int32) then (0 : Int32) else (1 : Int32)) else (1 : Int32)) else (1 : Int32)) else (1 : Int32)) else (1 : Int32)) else (1 : Int32)) else (1 : Int32)) else (1 : Int32)) else (1 : Int32)) else (1 : Int32)) else (1 : Int32)) else (1 : Int32))) else (1 : Int32))) else (1 : Int32)) else (1 : Int32)) else (1 : Int32))
set_option maxRecDepth 65536 in
set_option maxHeartbeats 40000000 in
theorem m_3 (l : Launch) (Z : State) (a0 : Array Value) (hw : ∀ d ∈ tables_1, d.before a0 Z = true) (n0 : Nat) (ws : List Jvm.Cond) (x0 : Int32) (A : AHeap) :
    Meth l Z a0 ws (⟨"com/example/marshwright/marshwright/internal/XmlNamesIsNameCharPinLaw", "ref", "(I)Z"⟩ : MethodName) method_3_code 1 (some (.boolean)) ({ frames := 1, cells := 0, slots := 0, locals := 14 } : Room) 0 0 n0 #[.int x0] A (fun r A' => r = some (.int (own_ref x0)) ∧ A' = A) := by
  refine Meth.of own_pn3 (Ls := [.val (.int x0)]) (fun m => by first | rfl | (simp [entryFrame, mkF, argsToLocals, Value.category, maxLocals]; done)) ?_
  intro K G
  have he : own_ref x0 = own_ref x0 := rfl
  refine G.iloadN d3_0 rfl ?_
  refine G.bipush (45) d3_1 rfl ?_
  refine G.bipush (46) d3_3 rfl ?_
  refine G.scall [_, _, _] rfl d3_5 (hw _ (List.mem_of_getElem? (i := 26) rfl)) (hw _ (List.mem_of_getElem? (i := 27) rfl)) (hw _ (List.mem_of_getElem? (i := 24) rfl)) (hw _ (List.mem_of_getElem? (i := 28) rfl)) (by decide) (m_4 l Z a0 hw n0 [] _ _ _ _) own_pd1 rfl rfl (Nat.le_of_ble_eq_true rfl) (Nat.le_of_ble_eq_true rfl) (Nat.le_of_ble_eq_true rfl) (Nat.le_of_ble_eq_true rfl) (by rintro _ _ ⟨rfl, rfl⟩; rfl) ?_
  rintro _ _ ⟨rfl, rfl⟩
  refine G.if_ne 206 d3_8 (by decide) rfl (fun h8 => ?_) (fun h8 => ?_)
  · replace he := he.trans (if_neg h8)
    refine G.iconst (1) d3_206 rfl ?_
    refine G.goto 211 d3_207 (by decide) rfl ?_
    exact G.zreturn rfl d3_211 rfl (Nat.le_of_ble_eq_true rfl) (Nat.le_of_ble_eq_true rfl) ⟨congrArg (fun z => some (Value.int z)) he.symm, rfl⟩
  · replace he := he.trans (if_pos h8)
    refine G.iloadN d3_11 rfl ?_
    refine G.bipush (48) d3_12 rfl ?_
    refine G.bipush (57) d3_14 rfl ?_
    refine G.scall [_, _, _] rfl d3_16 (hw _ (List.mem_of_getElem? (i := 26) rfl)) (hw _ (List.mem_of_getElem? (i := 27) rfl)) (hw _ (List.mem_of_getElem? (i := 24) rfl)) (hw _ (List.mem_of_getElem? (i := 28) rfl)) (by decide) (m_4 l Z a0 hw n0 [] _ _ _ _) own_pd1 rfl rfl (Nat.le_of_ble_eq_true rfl) (Nat.le_of_ble_eq_true rfl) (Nat.le_of_ble_eq_true rfl) (Nat.le_of_ble_eq_true rfl) (by rintro _ _ ⟨rfl, rfl⟩; rfl) ?_
    rintro _ _ ⟨rfl, rfl⟩
    refine G.if_ne 206 d3_19 (by decide) rfl (fun h19 => ?_) (fun h19 => ?_)
    · replace he := he.trans (if_neg h19)
      refine G.iconst (1) d3_206 rfl ?_
      refine G.goto 211 d3_207 (by decide) rfl ?_
      exact G.zreturn rfl d3_211 rfl (Nat.le_of_ble_eq_true rfl) (Nat.le_of_ble_eq_true rfl) ⟨congrArg (fun z => some (Value.int z)) he.symm, rfl⟩
    · replace he := he.trans (if_pos h19)
      refine G.iloadN d3_22 rfl ?_
      refine G.bipush (65) d3_23 rfl ?_
      refine G.bipush (90) d3_25 rfl ?_
      refine G.scall [_, _, _] rfl d3_27 (hw _ (List.mem_of_getElem? (i := 26) rfl)) (hw _ (List.mem_of_getElem? (i := 27) rfl)) (hw _ (List.mem_of_getElem? (i := 24) rfl)) (hw _ (List.mem_of_getElem? (i := 28) rfl)) (by decide) (m_4 l Z a0 hw n0 [] _ _ _ _) own_pd1 rfl rfl (Nat.le_of_ble_eq_true rfl) (Nat.le_of_ble_eq_true rfl) (Nat.le_of_ble_eq_true rfl) (Nat.le_of_ble_eq_true rfl) (by rintro _ _ ⟨rfl, rfl⟩; rfl) ?_
      rintro _ _ ⟨rfl, rfl⟩
      refine G.if_ne 206 d3_30 (by decide) rfl (fun h30 => ?_) (fun h30 => ?_)
      · replace he := he.trans (if_neg h30)
        refine G.iconst (1) d3_206 rfl ?_
        refine G.goto 211 d3_207 (by decide) rfl ?_
        exact G.zreturn rfl d3_211 rfl (Nat.le_of_ble_eq_true rfl) (Nat.le_of_ble_eq_true rfl) ⟨congrArg (fun z => some (Value.int z)) he.symm, rfl⟩
      · replace he := he.trans (if_pos h30)
        refine G.iloadN d3_33 rfl ?_
        refine G.bipush (95) d3_34 rfl ?_
        refine G.icmp_eq 206 d3_36 (by decide) rfl (fun h36 => ?_) (fun h36 => ?_)
        · replace he := he.trans (if_pos h36)
          refine G.iconst (1) d3_206 rfl ?_
          refine G.goto 211 d3_207 (by decide) rfl ?_
          exact G.zreturn rfl d3_211 rfl (Nat.le_of_ble_eq_true rfl) (Nat.le_of_ble_eq_true rfl) ⟨congrArg (fun z => some (Value.int z)) he.symm, rfl⟩
        · replace he := he.trans (if_neg h36)
          refine G.iloadN d3_39 rfl ?_
          refine G.bipush (97) d3_40 rfl ?_
          refine G.bipush (122) d3_42 rfl ?_
          refine G.scall [_, _, _] rfl d3_44 (hw _ (List.mem_of_getElem? (i := 26) rfl)) (hw _ (List.mem_of_getElem? (i := 27) rfl)) (hw _ (List.mem_of_getElem? (i := 24) rfl)) (hw _ (List.mem_of_getElem? (i := 28) rfl)) (by decide) (m_4 l Z a0 hw n0 [] _ _ _ _) own_pd1 rfl rfl (Nat.le_of_ble_eq_true rfl) (Nat.le_of_ble_eq_true rfl) (Nat.le_of_ble_eq_true rfl) (Nat.le_of_ble_eq_true rfl) (by rintro _ _ ⟨rfl, rfl⟩; rfl) ?_
          rintro _ _ ⟨rfl, rfl⟩
          refine G.if_ne 206 d3_47 (by decide) rfl (fun h47 => ?_) (fun h47 => ?_)
          · replace he := he.trans (if_neg h47)
            refine G.iconst (1) d3_206 rfl ?_
            refine G.goto 211 d3_207 (by decide) rfl ?_
            exact G.zreturn rfl d3_211 rfl (Nat.le_of_ble_eq_true rfl) (Nat.le_of_ble_eq_true rfl) ⟨congrArg (fun z => some (Value.int z)) he.symm, rfl⟩
          · replace he := he.trans (if_pos h47)
            refine G.iloadN d3_50 rfl ?_
            refine G.sipush (183) d3_51 rfl ?_
            refine G.icmp_eq 206 d3_54 (by decide) rfl (fun h54 => ?_) (fun h54 => ?_)
            · replace he := he.trans (if_pos h54)
              refine G.iconst (1) d3_206 rfl ?_
              refine G.goto 211 d3_207 (by decide) rfl ?_
              exact G.zreturn rfl d3_211 rfl (Nat.le_of_ble_eq_true rfl) (Nat.le_of_ble_eq_true rfl) ⟨congrArg (fun z => some (Value.int z)) he.symm, rfl⟩
            · replace he := he.trans (if_neg h54)
              refine G.iloadN d3_57 rfl ?_
              refine G.sipush (192) d3_58 rfl ?_
              refine G.sipush (214) d3_61 rfl ?_
              refine G.scall [_, _, _] rfl d3_64 (hw _ (List.mem_of_getElem? (i := 26) rfl)) (hw _ (List.mem_of_getElem? (i := 27) rfl)) (hw _ (List.mem_of_getElem? (i := 24) rfl)) (hw _ (List.mem_of_getElem? (i := 28) rfl)) (by decide) (m_4 l Z a0 hw n0 [] _ _ _ _) own_pd1 rfl rfl (Nat.le_of_ble_eq_true rfl) (Nat.le_of_ble_eq_true rfl) (Nat.le_of_ble_eq_true rfl) (Nat.le_of_ble_eq_true rfl) (by rintro _ _ ⟨rfl, rfl⟩; rfl) ?_
              rintro _ _ ⟨rfl, rfl⟩
              refine G.if_ne 206 d3_67 (by decide) rfl (fun h67 => ?_) (fun h67 => ?_)
              · replace he := he.trans (if_neg h67)
                refine G.iconst (1) d3_206 rfl ?_
                refine G.goto 211 d3_207 (by decide) rfl ?_
                exact G.zreturn rfl d3_211 rfl (Nat.le_of_ble_eq_true rfl) (Nat.le_of_ble_eq_true rfl) ⟨congrArg (fun z => some (Value.int z)) he.symm, rfl⟩
              · replace he := he.trans (if_pos h67)
                refine G.iloadN d3_70 rfl ?_
                refine G.sipush (216) d3_71 rfl ?_
                refine G.sipush (246) d3_74 rfl ?_
                refine G.scall [_, _, _] rfl d3_77 (hw _ (List.mem_of_getElem? (i := 26) rfl)) (hw _ (List.mem_of_getElem? (i := 27) rfl)) (hw _ (List.mem_of_getElem? (i := 24) rfl)) (hw _ (List.mem_of_getElem? (i := 28) rfl)) (by decide) (m_4 l Z a0 hw n0 [] _ _ _ _) own_pd1 rfl rfl (Nat.le_of_ble_eq_true rfl) (Nat.le_of_ble_eq_true rfl) (Nat.le_of_ble_eq_true rfl) (Nat.le_of_ble_eq_true rfl) (by rintro _ _ ⟨rfl, rfl⟩; rfl) ?_
                rintro _ _ ⟨rfl, rfl⟩
                refine G.if_ne 206 d3_80 (by decide) rfl (fun h80 => ?_) (fun h80 => ?_)
                · replace he := he.trans (if_neg h80)
                  refine G.iconst (1) d3_206 rfl ?_
                  refine G.goto 211 d3_207 (by decide) rfl ?_
                  exact G.zreturn rfl d3_211 rfl (Nat.le_of_ble_eq_true rfl) (Nat.le_of_ble_eq_true rfl) ⟨congrArg (fun z => some (Value.int z)) he.symm, rfl⟩
                · replace he := he.trans (if_pos h80)
                  refine G.iloadN d3_83 rfl ?_
                  refine G.sipush (248) d3_84 rfl ?_
                  refine G.sipush (893) d3_87 rfl ?_
                  refine G.scall [_, _, _] rfl d3_90 (hw _ (List.mem_of_getElem? (i := 26) rfl)) (hw _ (List.mem_of_getElem? (i := 27) rfl)) (hw _ (List.mem_of_getElem? (i := 24) rfl)) (hw _ (List.mem_of_getElem? (i := 28) rfl)) (by decide) (m_4 l Z a0 hw n0 [] _ _ _ _) own_pd1 rfl rfl (Nat.le_of_ble_eq_true rfl) (Nat.le_of_ble_eq_true rfl) (Nat.le_of_ble_eq_true rfl) (Nat.le_of_ble_eq_true rfl) (by rintro _ _ ⟨rfl, rfl⟩; rfl) ?_
                  rintro _ _ ⟨rfl, rfl⟩
                  refine G.if_ne 206 d3_93 (by decide) rfl (fun h93 => ?_) (fun h93 => ?_)
                  · replace he := he.trans (if_neg h93)
                    refine G.iconst (1) d3_206 rfl ?_
                    refine G.goto 211 d3_207 (by decide) rfl ?_
                    exact G.zreturn rfl d3_211 rfl (Nat.le_of_ble_eq_true rfl) (Nat.le_of_ble_eq_true rfl) ⟨congrArg (fun z => some (Value.int z)) he.symm, rfl⟩
                  · replace he := he.trans (if_pos h93)
                    refine G.iloadN d3_96 rfl ?_
                    refine G.sipush (895) d3_97 rfl ?_
                    refine G.sipush (8191) d3_100 rfl ?_
                    refine G.scall [_, _, _] rfl d3_103 (hw _ (List.mem_of_getElem? (i := 26) rfl)) (hw _ (List.mem_of_getElem? (i := 27) rfl)) (hw _ (List.mem_of_getElem? (i := 24) rfl)) (hw _ (List.mem_of_getElem? (i := 28) rfl)) (by decide) (m_4 l Z a0 hw n0 [] _ _ _ _) own_pd1 rfl rfl (Nat.le_of_ble_eq_true rfl) (Nat.le_of_ble_eq_true rfl) (Nat.le_of_ble_eq_true rfl) (Nat.le_of_ble_eq_true rfl) (by rintro _ _ ⟨rfl, rfl⟩; rfl) ?_
                    rintro _ _ ⟨rfl, rfl⟩
                    refine G.if_ne 206 d3_106 (by decide) rfl (fun h106 => ?_) (fun h106 => ?_)
                    · replace he := he.trans (if_neg h106)
                      refine G.iconst (1) d3_206 rfl ?_
                      refine G.goto 211 d3_207 (by decide) rfl ?_
                      exact G.zreturn rfl d3_211 rfl (Nat.le_of_ble_eq_true rfl) (Nat.le_of_ble_eq_true rfl) ⟨congrArg (fun z => some (Value.int z)) he.symm, rfl⟩
                    · replace he := he.trans (if_pos h106)
                      refine G.iloadN d3_109 rfl ?_
                      refine G.sipush (8204) d3_110 rfl ?_
                      refine G.sipush (8205) d3_113 rfl ?_
                      refine G.scall [_, _, _] rfl d3_116 (hw _ (List.mem_of_getElem? (i := 26) rfl)) (hw _ (List.mem_of_getElem? (i := 27) rfl)) (hw _ (List.mem_of_getElem? (i := 24) rfl)) (hw _ (List.mem_of_getElem? (i := 28) rfl)) (by decide) (m_4 l Z a0 hw n0 [] _ _ _ _) own_pd1 rfl rfl (Nat.le_of_ble_eq_true rfl) (Nat.le_of_ble_eq_true rfl) (Nat.le_of_ble_eq_true rfl) (Nat.le_of_ble_eq_true rfl) (by rintro _ _ ⟨rfl, rfl⟩; rfl) ?_
                      rintro _ _ ⟨rfl, rfl⟩
                      refine G.if_ne 206 d3_119 (by decide) rfl (fun h119 => ?_) (fun h119 => ?_)
                      · replace he := he.trans (if_neg h119)
                        refine G.iconst (1) d3_206 rfl ?_
                        refine G.goto 211 d3_207 (by decide) rfl ?_
                        exact G.zreturn rfl d3_211 rfl (Nat.le_of_ble_eq_true rfl) (Nat.le_of_ble_eq_true rfl) ⟨congrArg (fun z => some (Value.int z)) he.symm, rfl⟩
                      · replace he := he.trans (if_pos h119)
                        refine G.iloadN d3_122 rfl ?_
                        refine G.sipush (8255) d3_123 rfl ?_
                        refine G.sipush (8256) d3_126 rfl ?_
                        refine G.scall [_, _, _] rfl d3_129 (hw _ (List.mem_of_getElem? (i := 26) rfl)) (hw _ (List.mem_of_getElem? (i := 27) rfl)) (hw _ (List.mem_of_getElem? (i := 24) rfl)) (hw _ (List.mem_of_getElem? (i := 28) rfl)) (by decide) (m_4 l Z a0 hw n0 [] _ _ _ _) own_pd1 rfl rfl (Nat.le_of_ble_eq_true rfl) (Nat.le_of_ble_eq_true rfl) (Nat.le_of_ble_eq_true rfl) (Nat.le_of_ble_eq_true rfl) (by rintro _ _ ⟨rfl, rfl⟩; rfl) ?_
                        rintro _ _ ⟨rfl, rfl⟩
                        refine G.if_ne 206 d3_132 (by decide) rfl (fun h132 => ?_) (fun h132 => ?_)
                        · replace he := he.trans (if_neg h132)
                          refine G.iconst (1) d3_206 rfl ?_
                          refine G.goto 211 d3_207 (by decide) rfl ?_
                          exact G.zreturn rfl d3_211 rfl (Nat.le_of_ble_eq_true rfl) (Nat.le_of_ble_eq_true rfl) ⟨congrArg (fun z => some (Value.int z)) he.symm, rfl⟩
                        · replace he := he.trans (if_pos h132)
                          refine G.iloadN d3_135 rfl ?_
                          refine G.sipush (8304) d3_136 rfl ?_
                          refine G.sipush (8591) d3_139 rfl ?_
                          refine G.scall [_, _, _] rfl d3_142 (hw _ (List.mem_of_getElem? (i := 26) rfl)) (hw _ (List.mem_of_getElem? (i := 27) rfl)) (hw _ (List.mem_of_getElem? (i := 24) rfl)) (hw _ (List.mem_of_getElem? (i := 28) rfl)) (by decide) (m_4 l Z a0 hw n0 [] _ _ _ _) own_pd1 rfl rfl (Nat.le_of_ble_eq_true rfl) (Nat.le_of_ble_eq_true rfl) (Nat.le_of_ble_eq_true rfl) (Nat.le_of_ble_eq_true rfl) (by rintro _ _ ⟨rfl, rfl⟩; rfl) ?_
                          rintro _ _ ⟨rfl, rfl⟩
                          refine G.if_ne 206 d3_145 (by decide) rfl (fun h145 => ?_) (fun h145 => ?_)
                          · replace he := he.trans (if_neg h145)
                            refine G.iconst (1) d3_206 rfl ?_
                            refine G.goto 211 d3_207 (by decide) rfl ?_
                            exact G.zreturn rfl d3_211 rfl (Nat.le_of_ble_eq_true rfl) (Nat.le_of_ble_eq_true rfl) ⟨congrArg (fun z => some (Value.int z)) he.symm, rfl⟩
                          · replace he := he.trans (if_pos h145)
                            refine G.iloadN d3_148 rfl ?_
                            refine G.sipush (11264) d3_149 rfl ?_
                            refine G.sipush (12271) d3_152 rfl ?_
                            refine G.scall [_, _, _] rfl d3_155 (hw _ (List.mem_of_getElem? (i := 26) rfl)) (hw _ (List.mem_of_getElem? (i := 27) rfl)) (hw _ (List.mem_of_getElem? (i := 24) rfl)) (hw _ (List.mem_of_getElem? (i := 28) rfl)) (by decide) (m_4 l Z a0 hw n0 [] _ _ _ _) own_pd1 rfl rfl (Nat.le_of_ble_eq_true rfl) (Nat.le_of_ble_eq_true rfl) (Nat.le_of_ble_eq_true rfl) (Nat.le_of_ble_eq_true rfl) (by rintro _ _ ⟨rfl, rfl⟩; rfl) ?_
                            rintro _ _ ⟨rfl, rfl⟩
                            refine G.if_ne 206 d3_158 (by decide) rfl (fun h158 => ?_) (fun h158 => ?_)
                            · replace he := he.trans (if_neg h158)
                              refine G.iconst (1) d3_206 rfl ?_
                              refine G.goto 211 d3_207 (by decide) rfl ?_
                              exact G.zreturn rfl d3_211 rfl (Nat.le_of_ble_eq_true rfl) (Nat.le_of_ble_eq_true rfl) ⟨congrArg (fun z => some (Value.int z)) he.symm, rfl⟩
                            · replace he := he.trans (if_pos h158)
                              refine G.iloadN d3_161 rfl ?_
                              refine G.sipush (12289) d3_162 rfl ?_
                              refine G.ldcI d3_165 (hw _ (List.mem_of_getElem? (i := 1) rfl)) ?_
                              refine G.scall [_, _, _] rfl d3_167 (hw _ (List.mem_of_getElem? (i := 26) rfl)) (hw _ (List.mem_of_getElem? (i := 27) rfl)) (hw _ (List.mem_of_getElem? (i := 24) rfl)) (hw _ (List.mem_of_getElem? (i := 28) rfl)) (by decide) (m_4 l Z a0 hw n0 [] _ _ _ _) own_pd1 rfl rfl (Nat.le_of_ble_eq_true rfl) (Nat.le_of_ble_eq_true rfl) (Nat.le_of_ble_eq_true rfl) (Nat.le_of_ble_eq_true rfl) (by rintro _ _ ⟨rfl, rfl⟩; rfl) ?_
                              rintro _ _ ⟨rfl, rfl⟩
                              refine G.if_ne 206 d3_170 (by decide) rfl (fun h170 => ?_) (fun h170 => ?_)
                              · replace he := he.trans (if_neg h170)
                                refine G.iconst (1) d3_206 rfl ?_
                                refine G.goto 211 d3_207 (by decide) rfl ?_
                                exact G.zreturn rfl d3_211 rfl (Nat.le_of_ble_eq_true rfl) (Nat.le_of_ble_eq_true rfl) ⟨congrArg (fun z => some (Value.int z)) he.symm, rfl⟩
                              · replace he := he.trans (if_pos h170)
                                refine G.iloadN d3_173 rfl ?_
                                refine G.ldcI d3_174 (hw _ (List.mem_of_getElem? (i := 2) rfl)) ?_
                                refine G.ldcI d3_176 (hw _ (List.mem_of_getElem? (i := 3) rfl)) ?_
                                refine G.scall [_, _, _] rfl d3_178 (hw _ (List.mem_of_getElem? (i := 26) rfl)) (hw _ (List.mem_of_getElem? (i := 27) rfl)) (hw _ (List.mem_of_getElem? (i := 24) rfl)) (hw _ (List.mem_of_getElem? (i := 28) rfl)) (by decide) (m_4 l Z a0 hw n0 [] _ _ _ _) own_pd1 rfl rfl (Nat.le_of_ble_eq_true rfl) (Nat.le_of_ble_eq_true rfl) (Nat.le_of_ble_eq_true rfl) (Nat.le_of_ble_eq_true rfl) (by rintro _ _ ⟨rfl, rfl⟩; rfl) ?_
                                rintro _ _ ⟨rfl, rfl⟩
                                refine G.if_ne 206 d3_181 (by decide) rfl (fun h181 => ?_) (fun h181 => ?_)
                                · replace he := he.trans (if_neg h181)
                                  refine G.iconst (1) d3_206 rfl ?_
                                  refine G.goto 211 d3_207 (by decide) rfl ?_
                                  exact G.zreturn rfl d3_211 rfl (Nat.le_of_ble_eq_true rfl) (Nat.le_of_ble_eq_true rfl) ⟨congrArg (fun z => some (Value.int z)) he.symm, rfl⟩
                                · replace he := he.trans (if_pos h181)
                                  refine G.iloadN d3_184 rfl ?_
                                  refine G.ldcI d3_185 (hw _ (List.mem_of_getElem? (i := 4) rfl)) ?_
                                  refine G.ldcI d3_187 (hw _ (List.mem_of_getElem? (i := 5) rfl)) ?_
                                  refine G.scall [_, _, _] rfl d3_189 (hw _ (List.mem_of_getElem? (i := 26) rfl)) (hw _ (List.mem_of_getElem? (i := 27) rfl)) (hw _ (List.mem_of_getElem? (i := 24) rfl)) (hw _ (List.mem_of_getElem? (i := 28) rfl)) (by decide) (m_4 l Z a0 hw n0 [] _ _ _ _) own_pd1 rfl rfl (Nat.le_of_ble_eq_true rfl) (Nat.le_of_ble_eq_true rfl) (Nat.le_of_ble_eq_true rfl) (Nat.le_of_ble_eq_true rfl) (by rintro _ _ ⟨rfl, rfl⟩; rfl) ?_
                                  rintro _ _ ⟨rfl, rfl⟩
                                  refine G.if_ne 206 d3_192 (by decide) rfl (fun h192 => ?_) (fun h192 => ?_)
                                  · replace he := he.trans (if_neg h192)
                                    refine G.iconst (1) d3_206 rfl ?_
                                    refine G.goto 211 d3_207 (by decide) rfl ?_
                                    exact G.zreturn rfl d3_211 rfl (Nat.le_of_ble_eq_true rfl) (Nat.le_of_ble_eq_true rfl) ⟨congrArg (fun z => some (Value.int z)) he.symm, rfl⟩
                                  · replace he := he.trans (if_pos h192)
                                    refine G.iloadN d3_195 rfl ?_
                                    refine G.ldcI d3_196 (hw _ (List.mem_of_getElem? (i := 6) rfl)) ?_
                                    refine G.ldcI d3_198 (hw _ (List.mem_of_getElem? (i := 7) rfl)) ?_
                                    refine G.scall [_, _, _] rfl d3_200 (hw _ (List.mem_of_getElem? (i := 26) rfl)) (hw _ (List.mem_of_getElem? (i := 27) rfl)) (hw _ (List.mem_of_getElem? (i := 24) rfl)) (hw _ (List.mem_of_getElem? (i := 28) rfl)) (by decide) (m_4 l Z a0 hw n0 [] _ _ _ _) own_pd1 rfl rfl (Nat.le_of_ble_eq_true rfl) (Nat.le_of_ble_eq_true rfl) (Nat.le_of_ble_eq_true rfl) (Nat.le_of_ble_eq_true rfl) (by rintro _ _ ⟨rfl, rfl⟩; rfl) ?_
                                    rintro _ _ ⟨rfl, rfl⟩
                                    refine G.if_eq 210 d3_203 (by decide) rfl (fun h203 => ?_) (fun h203 => ?_)
                                    · replace he := he.trans (if_pos h203)
                                      refine G.iconst (0) d3_210 rfl ?_
                                      exact G.zreturn rfl d3_211 rfl (Nat.le_of_ble_eq_true rfl) (Nat.le_of_ble_eq_true rfl) ⟨congrArg (fun z => some (Value.int z)) he.symm, rfl⟩
                                    · replace he := he.trans (if_neg h203)
                                      refine G.iconst (1) d3_206 rfl ?_
                                      refine G.goto 211 d3_207 (by decide) rfl ?_
                                      exact G.zreturn rfl d3_211 rfl (Nat.le_of_ble_eq_true rfl) (Nat.le_of_ble_eq_true rfl) ⟨congrArg (fun z => some (Value.int z)) he.symm, rfl⟩
theorem own_lt (a b : Int32) : a < b ↔ a.toInt < b.toInt := Int32.lt_iff_toInt_lt
theorem own_eq (a b : Int32) : a = b ↔ a.toInt = b.toInt := Int32.toInt_inj.symm
theorem own_rng (c lo hi n : Int32) (L H : Int) (hL : lo.toInt = L) (hH : hi.toInt = H) : (if c < lo then n else if hi < c then n else 1) = if L ≤ c.toInt ∧ c.toInt ≤ H then 1 else n := by
  subst hL hH
  simp only [Int32.lt_iff_toInt_lt]
  by_cases h1 : c.toInt < lo.toInt
  · rw [if_pos h1, if_neg (by omega)]
  · rw [if_neg h1]
    by_cases h2 : hi.toInt < c.toInt
    · rw [if_pos h2, if_neg (by omega)]
    · rw [if_neg h2, if_pos (by omega)]
theorem own_one (c v n : Int32) (V : Int) (hV : v.toInt = V) : (if c = v then 1 else n) = if c.toInt = V then 1 else n := by
  subst hV
  simp only [← Int32.toInt_inj]
theorem own_hi (c v n : Int32) (V : Int) (hV : v.toInt = V) : (if v < c then n else 1) = if c.toInt ≤ V then 1 else n := by
  subst hV
  simp only [Int32.lt_iff_toInt_lt]
  by_cases h : v.toInt < c.toInt
  · rw [if_pos h, if_neg (by omega)]
  · rw [if_neg h, if_pos (by omega)]
theorem own_lo (c v n : Int32) (V : Int) (hV : v.toInt = V) : (if c < v then n else 1) = if V ≤ c.toInt then 1 else n := by
  subst hV
  simp only [Int32.lt_iff_toInt_lt]
  by_cases h : c.toInt < v.toInt
  · rw [if_pos h, if_neg (by omega)]
  · rw [if_neg h, if_pos (by omega)]
theorem own_i2c (v : Int32) (h0 : 0 ≤ v.toInt) (h1 : v.toInt < 65536) : v.toUInt32.toUInt16.toUInt32.toInt32 = v := by
  have hv : (v.toBitVec.toNat : Int) = v.toInt := by
    have e : v.toInt = v.toBitVec.toInt := rfl
    rw [e, BitVec.toInt_eq_toNat_cond] at h0 h1 ⊢
    split
    · rfl
    · rename_i q; rw [if_neg q] at h0; have := v.toBitVec.isLt; omega
  apply Int32.toBitVec_inj.mp
  apply BitVec.eq_of_toNat_eq
  have e : v.toUInt32.toUInt16.toUInt32.toInt32.toBitVec.toNat = v.toBitVec.toNat % 65536 % 4294967296 := by
    show v.toUInt32.toUInt16.toUInt32.toNat = _
    have q : v.toUInt32.toNat = v.toBitVec.toNat := rfl
    simp
    rw [q]
    omega
  rw [e]
  omega
theorem own_st_eq (c : Int32) : own_st c = if (97 ≤ c.toInt ∧ c.toInt ≤ 122) then 1 else if (65 ≤ c.toInt ∧ c.toInt ≤ 90) then 1 else if c.toInt = 95 then 1 else if (192 ≤ c.toInt ∧ c.toInt ≤ 214) then 1 else if (216 ≤ c.toInt ∧ c.toInt ≤ 246) then 1 else if (248 ≤ c.toInt ∧ c.toInt ≤ 767) then 1 else if (880 ≤ c.toInt ∧ c.toInt ≤ 893) then 1 else if (895 ≤ c.toInt ∧ c.toInt ≤ 8191) then 1 else if (8204 ≤ c.toInt ∧ c.toInt ≤ 8205) then 1 else if (8304 ≤ c.toInt ∧ c.toInt ≤ 8591) then 1 else if (11264 ≤ c.toInt ∧ c.toInt ≤ 12271) then 1 else if (12289 ≤ c.toInt ∧ c.toInt ≤ 55295) then 1 else if (63744 ≤ c.toInt ∧ c.toInt ≤ 64975) then 1 else if (65008 ≤ c.toInt ∧ c.toInt ≤ 65533) then 1 else if (65536 ≤ c.toInt ∧ c.toInt ≤ 983039) then 1 else 0 := by
  rw [own_st, own_rng _ _ _ _ 97 122 (by decide) (by decide), own_st_12, own_rng _ _ _ _ 65 90 (by decide) (by decide), own_st_24, own_one _ _ _ 95 (by decide), own_rng _ _ _ _ 192 214 (by decide) (by decide), own_st_44, own_rng _ _ _ _ 216 246 (by decide) (by decide), own_st_58, own_rng _ _ _ _ 248 767 (by decide) (by decide), own_st_72, own_rng _ _ _ _ 880 893 (by decide) (by decide), own_st_86, own_rng _ _ _ _ 895 8191 (by decide) (by decide), own_st_100, own_rng _ _ _ _ 8204 8205 (by decide) (by decide), own_st_114, own_rng _ _ _ _ 8304 8591 (by decide) (by decide), own_st_128, own_rng _ _ _ _ 11264 12271 (by decide) (by decide), own_st_142, own_rng _ _ _ _ 12289 55295 (by decide) (by decide), own_st_155, own_rng _ _ _ _ 63744 64975 (by decide) (by decide), own_st_167, own_rng _ _ _ _ 65008 65533 (by decide) (by decide), own_st_179, own_rng _ _ _ _ 65536 983039 (by decide) (by decide)]
theorem own_st_yes (c : Int32) (q : (97 ≤ c.toInt ∧ c.toInt ≤ 122) ∨ (65 ≤ c.toInt ∧ c.toInt ≤ 90) ∨ c.toInt = 95 ∨ (192 ≤ c.toInt ∧ c.toInt ≤ 214) ∨ (216 ≤ c.toInt ∧ c.toInt ≤ 246) ∨ (248 ≤ c.toInt ∧ c.toInt ≤ 767) ∨ (880 ≤ c.toInt ∧ c.toInt ≤ 893) ∨ (895 ≤ c.toInt ∧ c.toInt ≤ 8191) ∨ (8204 ≤ c.toInt ∧ c.toInt ≤ 8205) ∨ (8304 ≤ c.toInt ∧ c.toInt ≤ 8591) ∨ (11264 ≤ c.toInt ∧ c.toInt ≤ 12271) ∨ (12289 ≤ c.toInt ∧ c.toInt ≤ 55295) ∨ (63744 ≤ c.toInt ∧ c.toInt ≤ 64975) ∨ (65008 ≤ c.toInt ∧ c.toInt ≤ 65533) ∨ (65536 ≤ c.toInt ∧ c.toInt ≤ 983039)) : own_st c = 1 := by
  rw [own_st_eq]
  rcases q with q | q | q | q | q | q | q | q | q | q | q | q | q | q | q <;> (repeat first | rw [if_pos q] | rw [if_neg (by omega)])
theorem own_st_no (c : Int32) (q : ¬ ((97 ≤ c.toInt ∧ c.toInt ≤ 122) ∨ (65 ≤ c.toInt ∧ c.toInt ≤ 90) ∨ c.toInt = 95 ∨ (192 ≤ c.toInt ∧ c.toInt ≤ 214) ∨ (216 ≤ c.toInt ∧ c.toInt ≤ 246) ∨ (248 ≤ c.toInt ∧ c.toInt ≤ 767) ∨ (880 ≤ c.toInt ∧ c.toInt ≤ 893) ∨ (895 ≤ c.toInt ∧ c.toInt ≤ 8191) ∨ (8204 ≤ c.toInt ∧ c.toInt ≤ 8205) ∨ (8304 ≤ c.toInt ∧ c.toInt ≤ 8591) ∨ (11264 ≤ c.toInt ∧ c.toInt ≤ 12271) ∨ (12289 ≤ c.toInt ∧ c.toInt ≤ 55295) ∨ (63744 ≤ c.toInt ∧ c.toInt ≤ 64975) ∨ (65008 ≤ c.toInt ∧ c.toInt ≤ 65533) ∨ (65536 ≤ c.toInt ∧ c.toInt ≤ 983039))) : own_st c = 0 := by
  rw [own_st_eq]
  repeat rw [if_neg (by omega)]
theorem own_in_eq (c lo hi : Int32) (L H : Int) (hL : lo.toInt = L) (hH : hi.toInt = H) : own_in c lo hi = if L ≤ c.toInt ∧ c.toInt ≤ H then 1 else 0 := by
  rw [own_in, own_rng _ _ _ _ L H hL hH]
theorem own_sw {P : Prop} [Decidable P] (n : Int32) : (if (if P then (1 : Int32) else 0) = 0 then n else 1) = if P then 1 else n := by
  by_cases p : P
  · rw [if_pos p, if_pos p]; rfl
  · rw [if_neg p, if_neg p]; rfl
theorem own_ref_eq (c : Int32) : own_ref c = if (45 ≤ c.toInt ∧ c.toInt ≤ 46) then 1 else if (48 ≤ c.toInt ∧ c.toInt ≤ 57) then 1 else if (65 ≤ c.toInt ∧ c.toInt ≤ 90) then 1 else if c.toInt = 95 then 1 else if (97 ≤ c.toInt ∧ c.toInt ≤ 122) then 1 else if c.toInt = 183 then 1 else if (192 ≤ c.toInt ∧ c.toInt ≤ 214) then 1 else if (216 ≤ c.toInt ∧ c.toInt ≤ 246) then 1 else if (248 ≤ c.toInt ∧ c.toInt ≤ 893) then 1 else if (895 ≤ c.toInt ∧ c.toInt ≤ 8191) then 1 else if (8204 ≤ c.toInt ∧ c.toInt ≤ 8205) then 1 else if (8255 ≤ c.toInt ∧ c.toInt ≤ 8256) then 1 else if (8304 ≤ c.toInt ∧ c.toInt ≤ 8591) then 1 else if (11264 ≤ c.toInt ∧ c.toInt ≤ 12271) then 1 else if (12289 ≤ c.toInt ∧ c.toInt ≤ 55295) then 1 else if (63744 ≤ c.toInt ∧ c.toInt ≤ 64975) then 1 else if (65008 ≤ c.toInt ∧ c.toInt ≤ 65533) then 1 else if (65536 ≤ c.toInt ∧ c.toInt ≤ 983039) then 1 else 0 := by
  unfold own_ref
  rw [own_in_eq _ _ _ 45 46 (by decide) (by decide), own_sw, own_in_eq _ _ _ 48 57 (by decide) (by decide), own_sw, own_in_eq _ _ _ 65 90 (by decide) (by decide), own_sw, own_one _ _ _ 95 (by decide), own_in_eq _ _ _ 97 122 (by decide) (by decide), own_sw, own_one _ _ _ 183 (by decide), own_in_eq _ _ _ 192 214 (by decide) (by decide), own_sw, own_in_eq _ _ _ 216 246 (by decide) (by decide), own_sw, own_in_eq _ _ _ 248 893 (by decide) (by decide), own_sw, own_in_eq _ _ _ 895 8191 (by decide) (by decide), own_sw, own_in_eq _ _ _ 8204 8205 (by decide) (by decide), own_sw, own_in_eq _ _ _ 8255 8256 (by decide) (by decide), own_sw, own_in_eq _ _ _ 8304 8591 (by decide) (by decide), own_sw, own_in_eq _ _ _ 11264 12271 (by decide) (by decide), own_sw, own_in_eq _ _ _ 12289 55295 (by decide) (by decide), own_sw, own_in_eq _ _ _ 63744 64975 (by decide) (by decide), own_sw, own_in_eq _ _ _ 65008 65533 (by decide) (by decide), own_sw, own_in_eq _ _ _ 65536 983039 (by decide) (by decide), own_sw]
theorem own_nc_eq (c : Int32) : own_nc c = if own_st c = 0 then (if c.toInt = 45 then 1 else if c.toInt = 46 then 1 else if 48 ≤ c.toInt ∧ c.toInt ≤ 57 then 1 else if c.toInt = 183 then 1 else if 768 ≤ c.toInt ∧ c.toInt ≤ 879 then 1 else if 8255 ≤ c.toInt ∧ c.toInt ≤ 8256 then 1 else 0) else 1 := by
  rw [own_nc, own_one _ _ _ 45 (by decide), own_one _ _ _ 46 (by decide), own_rng _ _ _ _ 48 57 (by decide) (by decide), own_nc_31, own_one _ _ _ 183 (by decide), own_rng _ _ _ _ 768 879 (by decide) (by decide), own_nc_52, own_rng _ _ _ _ 8255 8256 (by decide) (by decide)]
theorem own_nc_yes (c : Int32) (q : (45 ≤ c.toInt ∧ c.toInt ≤ 46) ∨ (48 ≤ c.toInt ∧ c.toInt ≤ 57) ∨ (65 ≤ c.toInt ∧ c.toInt ≤ 90) ∨ c.toInt = 95 ∨ (97 ≤ c.toInt ∧ c.toInt ≤ 122) ∨ c.toInt = 183 ∨ (192 ≤ c.toInt ∧ c.toInt ≤ 214) ∨ (216 ≤ c.toInt ∧ c.toInt ≤ 246) ∨ (248 ≤ c.toInt ∧ c.toInt ≤ 893) ∨ (895 ≤ c.toInt ∧ c.toInt ≤ 8191) ∨ (8204 ≤ c.toInt ∧ c.toInt ≤ 8205) ∨ (8255 ≤ c.toInt ∧ c.toInt ≤ 8256) ∨ (8304 ≤ c.toInt ∧ c.toInt ≤ 8591) ∨ (11264 ≤ c.toInt ∧ c.toInt ≤ 12271) ∨ (12289 ≤ c.toInt ∧ c.toInt ≤ 55295) ∨ (63744 ≤ c.toInt ∧ c.toInt ≤ 64975) ∨ (65008 ≤ c.toInt ∧ c.toInt ≤ 65533) ∨ (65536 ≤ c.toInt ∧ c.toInt ≤ 983039)) : own_nc c = 1 := by
  rw [own_nc_eq]
  by_cases s : (97 ≤ c.toInt ∧ c.toInt ≤ 122) ∨ (65 ≤ c.toInt ∧ c.toInt ≤ 90) ∨ c.toInt = 95 ∨ (192 ≤ c.toInt ∧ c.toInt ≤ 214) ∨ (216 ≤ c.toInt ∧ c.toInt ≤ 246) ∨ (248 ≤ c.toInt ∧ c.toInt ≤ 767) ∨ (880 ≤ c.toInt ∧ c.toInt ≤ 893) ∨ (895 ≤ c.toInt ∧ c.toInt ≤ 8191) ∨ (8204 ≤ c.toInt ∧ c.toInt ≤ 8205) ∨ (8304 ≤ c.toInt ∧ c.toInt ≤ 8591) ∨ (11264 ≤ c.toInt ∧ c.toInt ≤ 12271) ∨ (12289 ≤ c.toInt ∧ c.toInt ≤ 55295) ∨ (63744 ≤ c.toInt ∧ c.toInt ≤ 64975) ∨ (65008 ≤ c.toInt ∧ c.toInt ≤ 65533) ∨ (65536 ≤ c.toInt ∧ c.toInt ≤ 983039)
  · rw [own_st_yes c s]; rfl
  · rw [own_st_no c s, if_pos rfl]
    have w : c.toInt = 45 ∨ c.toInt = 46 ∨ (48 ≤ c.toInt ∧ c.toInt ≤ 57) ∨ c.toInt = 183 ∨ (768 ≤ c.toInt ∧ c.toInt ≤ 879) ∨ (8255 ≤ c.toInt ∧ c.toInt ≤ 8256) := by
      rcases q with q | q | q | q | q | q | q | q | q | q | q | q | q | q | q | q | q | q <;> omega
    clear q s
    rcases w with q | q | q | q | q | q <;> (repeat first | rw [if_pos q] | rw [if_neg (by omega)])
theorem own_nc_no (c : Int32) (q : ¬ ((45 ≤ c.toInt ∧ c.toInt ≤ 46) ∨ (48 ≤ c.toInt ∧ c.toInt ≤ 57) ∨ (65 ≤ c.toInt ∧ c.toInt ≤ 90) ∨ c.toInt = 95 ∨ (97 ≤ c.toInt ∧ c.toInt ≤ 122) ∨ c.toInt = 183 ∨ (192 ≤ c.toInt ∧ c.toInt ≤ 214) ∨ (216 ≤ c.toInt ∧ c.toInt ≤ 246) ∨ (248 ≤ c.toInt ∧ c.toInt ≤ 893) ∨ (895 ≤ c.toInt ∧ c.toInt ≤ 8191) ∨ (8204 ≤ c.toInt ∧ c.toInt ≤ 8205) ∨ (8255 ≤ c.toInt ∧ c.toInt ≤ 8256) ∨ (8304 ≤ c.toInt ∧ c.toInt ≤ 8591) ∨ (11264 ≤ c.toInt ∧ c.toInt ≤ 12271) ∨ (12289 ≤ c.toInt ∧ c.toInt ≤ 55295) ∨ (63744 ≤ c.toInt ∧ c.toInt ≤ 64975) ∨ (65008 ≤ c.toInt ∧ c.toInt ≤ 65533) ∨ (65536 ≤ c.toInt ∧ c.toInt ≤ 983039))) : own_nc c = 0 := by
  rw [own_nc_eq, own_st_no c (by omega), if_pos rfl]
  repeat rw [if_neg (by omega)]
theorem own_same (c : Int32) : own_nc c = own_ref c := by
  rw [own_ref_eq]
  by_cases q : (45 ≤ c.toInt ∧ c.toInt ≤ 46) ∨ (48 ≤ c.toInt ∧ c.toInt ≤ 57) ∨ (65 ≤ c.toInt ∧ c.toInt ≤ 90) ∨ c.toInt = 95 ∨ (97 ≤ c.toInt ∧ c.toInt ≤ 122) ∨ c.toInt = 183 ∨ (192 ≤ c.toInt ∧ c.toInt ≤ 214) ∨ (216 ≤ c.toInt ∧ c.toInt ≤ 246) ∨ (248 ≤ c.toInt ∧ c.toInt ≤ 893) ∨ (895 ≤ c.toInt ∧ c.toInt ≤ 8191) ∨ (8204 ≤ c.toInt ∧ c.toInt ≤ 8205) ∨ (8255 ≤ c.toInt ∧ c.toInt ≤ 8256) ∨ (8304 ≤ c.toInt ∧ c.toInt ≤ 8591) ∨ (11264 ≤ c.toInt ∧ c.toInt ≤ 12271) ∨ (12289 ≤ c.toInt ∧ c.toInt ≤ 55295) ∨ (63744 ≤ c.toInt ∧ c.toInt ≤ 64975) ∨ (65008 ≤ c.toInt ∧ c.toInt ≤ 65533) ∨ (65536 ≤ c.toInt ∧ c.toInt ≤ 983039)
  · rw [own_nc_yes c q]
    rcases q with q | q | q | q | q | q | q | q | q | q | q | q | q | q | q | q | q | q <;> (repeat first | rw [if_pos q] | rw [if_neg (by omega)])
  · rw [own_nc_no c q]
    repeat rw [if_neg (by omega)]
theorem own_idx (x : Int32) : ∃ j : Nat, ((x &&& 2147483647) % 48).toInt = (j : Int) ∧ j < 48 := by
  have m : (x &&& 2147483647).toInt = x.toInt % 2 ^ 31 := Jvm.Kit.i32_mask x 2147483647 (k := 31) (by decide) (by decide)
  have r : ((x &&& 2147483647) % 48).toInt = (x &&& 2147483647).toInt % (48 : Int32).toInt := Jvm.Kit.i32_rem_nonneg (by omega)
  have f : (48 : Int32).toInt = 48 := by decide
  rw [f] at r
  exact ⟨((x &&& 2147483647) % 48).toInt.toNat, by omega, by omega⟩
set_option maxRecDepth 65536 in
set_option maxHeartbeats 40000000 in
theorem m_0 (l : Launch) (Z : State) (a0 : Array Value) (hw : ∀ d ∈ tables_1, d.before a0 Z = true) (n0 : Nat) (ws : List Jvm.Cond) (x0 x1 x2 : Int32) :
    Meth l Z a0 ws x code maxLocals ret room_1 16 192 n0 #[.int x0, .int x1, .int x2] ([] : AHeap) (fun r A' => r = some (.int 1) ∧ True) := by
  refine Meth.of own_pn3 (Ls := [.val (.int x0), .val (.int x1), .val (.int x2), .unset, .unset, .unset, .unset, .unset]) (fun m => by first | rfl | (simp [entryFrame, mkF, argsToLocals, Value.category, maxLocals]; done)) ?_
  intro K G
  refine G.bipush (48) at_0 rfl ?_
  refine G.newarr 48 48 at_2 (hw _ (List.mem_of_getElem? (i := 0) rfl)) (by decide) (Nat.le_of_ble_eq_true rfl) (by decide) (Nat.le_of_ble_eq_true rfl) (Nat.le_of_ble_eq_true rfl) rfl ?_
  obtain ⟨vs, hv, e⟩ : ∃ vs, AI 48 vs ∧ List.replicate 48 (defaultValue (newarray.typeOf .int)) = vs := ⟨_, AI.rep 48, rfl⟩
  rw [e]
  show K _ _ (.ref (ad n0 0) :: _) [.inr (.int, vs)] 1 48
  refine G.dup at_4 rfl ?_
  refine G.iconst (0) at_5 rfl ?_
  refine G.bipush (45) at_6 rfl ?_
  refine G.iastA (0) at_8 hv (by decide) (by decide) (fun vs hv => ?_)
  refine G.dup at_9 rfl ?_
  refine G.iconst (1) at_10 rfl ?_
  refine G.bipush (46) at_11 rfl ?_
  refine G.iastA (1) at_13 hv (by decide) (by decide) (fun vs hv => ?_)
  refine G.dup at_14 rfl ?_
  refine G.iconst (2) at_15 rfl ?_
  refine G.bipush (47) at_16 rfl ?_
  refine G.iastA (2) at_18 hv (by decide) (by decide) (fun vs hv => ?_)
  refine G.dup at_19 rfl ?_
  refine G.iconst (3) at_20 rfl ?_
  refine G.bipush (48) at_21 rfl ?_
  refine G.iastA (3) at_23 hv (by decide) (by decide) (fun vs hv => ?_)
  refine G.dup at_24 rfl ?_
  refine G.iconst (4) at_25 rfl ?_
  refine G.bipush (57) at_26 rfl ?_
  refine G.iastA (4) at_28 hv (by decide) (by decide) (fun vs hv => ?_)
  refine G.dup at_29 rfl ?_
  refine G.iconst (5) at_30 rfl ?_
  refine G.bipush (58) at_31 rfl ?_
  refine G.iastA (5) at_33 hv (by decide) (by decide) (fun vs hv => ?_)
  refine G.dup at_34 rfl ?_
  refine G.bipush (6) at_35 rfl ?_
  refine G.bipush (65) at_37 rfl ?_
  refine G.iastA (6) at_39 hv (by decide) (by decide) (fun vs hv => ?_)
  refine G.dup at_40 rfl ?_
  refine G.bipush (7) at_41 rfl ?_
  refine G.bipush (90) at_43 rfl ?_
  refine G.iastA (7) at_45 hv (by decide) (by decide) (fun vs hv => ?_)
  refine G.dup at_46 rfl ?_
  refine G.bipush (8) at_47 rfl ?_
  refine G.bipush (95) at_49 rfl ?_
  refine G.iastA (8) at_51 hv (by decide) (by decide) (fun vs hv => ?_)
  refine G.dup at_52 rfl ?_
  refine G.bipush (9) at_53 rfl ?_
  refine G.bipush (96) at_55 rfl ?_
  refine G.iastA (9) at_57 hv (by decide) (by decide) (fun vs hv => ?_)
  refine G.dup at_58 rfl ?_
  refine G.bipush (10) at_59 rfl ?_
  refine G.bipush (97) at_61 rfl ?_
  refine G.iastA (10) at_63 hv (by decide) (by decide) (fun vs hv => ?_)
  refine G.dup at_64 rfl ?_
  refine G.bipush (11) at_65 rfl ?_
  refine G.bipush (122) at_67 rfl ?_
  refine G.iastA (11) at_69 hv (by decide) (by decide) (fun vs hv => ?_)
  refine G.dup at_70 rfl ?_
  refine G.bipush (12) at_71 rfl ?_
  refine G.sipush (183) at_73 rfl ?_
  refine G.iastA (12) at_76 hv (by decide) (by decide) (fun vs hv => ?_)
  refine G.dup at_77 rfl ?_
  refine G.bipush (13) at_78 rfl ?_
  refine G.sipush (192) at_80 rfl ?_
  refine G.iastA (13) at_83 hv (by decide) (by decide) (fun vs hv => ?_)
  refine G.dup at_84 rfl ?_
  refine G.bipush (14) at_85 rfl ?_
  refine G.sipush (214) at_87 rfl ?_
  refine G.iastA (14) at_90 hv (by decide) (by decide) (fun vs hv => ?_)
  refine G.dup at_91 rfl ?_
  refine G.bipush (15) at_92 rfl ?_
  refine G.sipush (215) at_94 rfl ?_
  refine G.iastA (15) at_97 hv (by decide) (by decide) (fun vs hv => ?_)
  refine G.dup at_98 rfl ?_
  refine G.bipush (16) at_99 rfl ?_
  refine G.sipush (216) at_101 rfl ?_
  refine G.iastA (16) at_104 hv (by decide) (by decide) (fun vs hv => ?_)
  refine G.dup at_105 rfl ?_
  refine G.bipush (17) at_106 rfl ?_
  refine G.sipush (246) at_108 rfl ?_
  refine G.iastA (17) at_111 hv (by decide) (by decide) (fun vs hv => ?_)
  refine G.dup at_112 rfl ?_
  refine G.bipush (18) at_113 rfl ?_
  refine G.sipush (247) at_115 rfl ?_
  refine G.iastA (18) at_118 hv (by decide) (by decide) (fun vs hv => ?_)
  refine G.dup at_119 rfl ?_
  refine G.bipush (19) at_120 rfl ?_
  refine G.sipush (248) at_122 rfl ?_
  refine G.iastA (19) at_125 hv (by decide) (by decide) (fun vs hv => ?_)
  refine G.dup at_126 rfl ?_
  refine G.bipush (20) at_127 rfl ?_
  refine G.sipush (767) at_129 rfl ?_
  refine G.iastA (20) at_132 hv (by decide) (by decide) (fun vs hv => ?_)
  refine G.dup at_133 rfl ?_
  refine G.bipush (21) at_134 rfl ?_
  refine G.sipush (768) at_136 rfl ?_
  refine G.iastA (21) at_139 hv (by decide) (by decide) (fun vs hv => ?_)
  refine G.dup at_140 rfl ?_
  refine G.bipush (22) at_141 rfl ?_
  refine G.sipush (879) at_143 rfl ?_
  refine G.iastA (22) at_146 hv (by decide) (by decide) (fun vs hv => ?_)
  refine G.dup at_147 rfl ?_
  refine G.bipush (23) at_148 rfl ?_
  refine G.sipush (880) at_150 rfl ?_
  refine G.iastA (23) at_153 hv (by decide) (by decide) (fun vs hv => ?_)
  refine G.dup at_154 rfl ?_
  refine G.bipush (24) at_155 rfl ?_
  refine G.sipush (893) at_157 rfl ?_
  refine G.iastA (24) at_160 hv (by decide) (by decide) (fun vs hv => ?_)
  refine G.dup at_161 rfl ?_
  refine G.bipush (25) at_162 rfl ?_
  refine G.sipush (894) at_164 rfl ?_
  refine G.iastA (25) at_167 hv (by decide) (by decide) (fun vs hv => ?_)
  refine G.dup at_168 rfl ?_
  refine G.bipush (26) at_169 rfl ?_
  refine G.sipush (895) at_171 rfl ?_
  refine G.iastA (26) at_174 hv (by decide) (by decide) (fun vs hv => ?_)
  refine G.dup at_175 rfl ?_
  refine G.bipush (27) at_176 rfl ?_
  refine G.sipush (8191) at_178 rfl ?_
  refine G.iastA (27) at_181 hv (by decide) (by decide) (fun vs hv => ?_)
  refine G.dup at_182 rfl ?_
  refine G.bipush (28) at_183 rfl ?_
  refine G.sipush (8204) at_185 rfl ?_
  refine G.iastA (28) at_188 hv (by decide) (by decide) (fun vs hv => ?_)
  refine G.dup at_189 rfl ?_
  refine G.bipush (29) at_190 rfl ?_
  refine G.sipush (8205) at_192 rfl ?_
  refine G.iastA (29) at_195 hv (by decide) (by decide) (fun vs hv => ?_)
  refine G.dup at_196 rfl ?_
  refine G.bipush (30) at_197 rfl ?_
  refine G.sipush (8255) at_199 rfl ?_
  refine G.iastA (30) at_202 hv (by decide) (by decide) (fun vs hv => ?_)
  refine G.dup at_203 rfl ?_
  refine G.bipush (31) at_204 rfl ?_
  refine G.sipush (8256) at_206 rfl ?_
  refine G.iastA (31) at_209 hv (by decide) (by decide) (fun vs hv => ?_)
  refine G.dup at_210 rfl ?_
  refine G.bipush (32) at_211 rfl ?_
  refine G.sipush (8304) at_213 rfl ?_
  refine G.iastA (32) at_216 hv (by decide) (by decide) (fun vs hv => ?_)
  refine G.dup at_217 rfl ?_
  refine G.bipush (33) at_218 rfl ?_
  refine G.sipush (8591) at_220 rfl ?_
  refine G.iastA (33) at_223 hv (by decide) (by decide) (fun vs hv => ?_)
  refine G.dup at_224 rfl ?_
  refine G.bipush (34) at_225 rfl ?_
  refine G.sipush (11264) at_227 rfl ?_
  refine G.iastA (34) at_230 hv (by decide) (by decide) (fun vs hv => ?_)
  refine G.dup at_231 rfl ?_
  refine G.bipush (35) at_232 rfl ?_
  refine G.sipush (12271) at_234 rfl ?_
  refine G.iastA (35) at_237 hv (by decide) (by decide) (fun vs hv => ?_)
  refine G.dup at_238 rfl ?_
  refine G.bipush (36) at_239 rfl ?_
  refine G.sipush (12289) at_241 rfl ?_
  refine G.iastA (36) at_244 hv (by decide) (by decide) (fun vs hv => ?_)
  refine G.dup at_245 rfl ?_
  refine G.bipush (37) at_246 rfl ?_
  refine G.ldcI at_248 (hw _ (List.mem_of_getElem? (i := 1) rfl)) ?_
  refine G.iastA (37) at_250 hv (by decide) (by decide) (fun vs hv => ?_)
  refine G.dup at_251 rfl ?_
  refine G.bipush (38) at_252 rfl ?_
  refine G.ldcI at_254 (hw _ (List.mem_of_getElem? (i := 2) rfl)) ?_
  refine G.iastA (38) at_256 hv (by decide) (by decide) (fun vs hv => ?_)
  refine G.dup at_257 rfl ?_
  refine G.bipush (39) at_258 rfl ?_
  refine G.ldcI at_260 (hw _ (List.mem_of_getElem? (i := 3) rfl)) ?_
  refine G.iastA (39) at_262 hv (by decide) (by decide) (fun vs hv => ?_)
  refine G.dup at_263 rfl ?_
  refine G.bipush (40) at_264 rfl ?_
  refine G.ldcI at_266 (hw _ (List.mem_of_getElem? (i := 4) rfl)) ?_
  refine G.iastA (40) at_268 hv (by decide) (by decide) (fun vs hv => ?_)
  refine G.dup at_269 rfl ?_
  refine G.bipush (41) at_270 rfl ?_
  refine G.ldcI at_272 (hw _ (List.mem_of_getElem? (i := 5) rfl)) ?_
  refine G.iastA (41) at_274 hv (by decide) (by decide) (fun vs hv => ?_)
  refine G.dup at_275 rfl ?_
  refine G.bipush (42) at_276 rfl ?_
  refine G.ldcI at_278 (hw _ (List.mem_of_getElem? (i := 6) rfl)) ?_
  refine G.iastA (42) at_280 hv (by decide) (by decide) (fun vs hv => ?_)
  refine G.dup at_281 rfl ?_
  refine G.bipush (43) at_282 rfl ?_
  refine G.ldcI at_284 (hw _ (List.mem_of_getElem? (i := 7) rfl)) ?_
  refine G.iastA (43) at_286 hv (by decide) (by decide) (fun vs hv => ?_)
  refine G.dup at_287 rfl ?_
  refine G.bipush (44) at_288 rfl ?_
  refine G.ldcI at_290 (hw _ (List.mem_of_getElem? (i := 8) rfl)) ?_
  refine G.iastA (44) at_292 hv (by decide) (by decide) (fun vs hv => ?_)
  refine G.dup at_293 rfl ?_
  refine G.bipush (45) at_294 rfl ?_
  refine G.iconst (0) at_296 rfl ?_
  refine G.iastA (45) at_297 hv (by decide) (by decide) (fun vs hv => ?_)
  refine G.dup at_298 rfl ?_
  refine G.bipush (46) at_299 rfl ?_
  refine G.ldcI at_301 (hw _ (List.mem_of_getElem? (i := 9) rfl)) ?_
  refine G.iastA (46) at_303 hv (by decide) (by decide) (fun vs hv => ?_)
  refine G.dup at_304 rfl ?_
  refine G.bipush (47) at_305 rfl ?_
  refine G.ldcI at_307 (hw _ (List.mem_of_getElem? (i := 10) rfl)) ?_
  refine G.iastA (47) at_309 hv (by decide) (by decide) (fun vs hv => ?_)
  refine G.astoreN3 at_310 rfl rfl ?_
  refine G.iloadN at_311 rfl ?_
  refine G.ldcI at_312 (hw _ (List.mem_of_getElem? (i := 11) rfl)) ?_
  refine G.iand at_314 ?_
  refine G.aloadN at_315 rfl rfl ?_
  refine G.alen (48) at_316 rfl (by rw [hv.1]; rfl) ?_
  refine G.irem at_317 (by decide) ?_
  refine G.istore4 at_318 rfl ?_
  refine G.aloadN at_320 rfl rfl ?_
  refine G.iload at_321 rfl ?_
  obtain ⟨jn, hj1, hj2⟩ := own_idx x1
  obtain ⟨z, hz⟩ := hv.at hj2
  refine G.iald jn at_323 rfl hj1 hz ?_
  refine G.iconst (1) at_324 rfl ?_
  refine G.isub at_325 ?_
  refine G.iloadN at_326 rfl ?_
  refine G.iconst (3) at_327 rfl ?_
  refine G.iand at_328 ?_
  refine G.iadd at_329 ?_
  refine G.istore5 at_330 rfl ?_
  refine G.iloadN at_332 rfl ?_
  refine G.scall [_] rfl at_333 (hw _ (List.mem_of_getElem? (i := 12) rfl)) (hw _ (List.mem_of_getElem? (i := 13) rfl)) (hw _ (List.mem_of_getElem? (i := 14) rfl)) (hw _ (List.mem_of_getElem? (i := 15) rfl)) (by decide) (m_1 l Z a0 hw n0 [] _ _) own_pd0 rfl rfl (Nat.le_of_ble_eq_true rfl) (Nat.le_of_ble_eq_true rfl) (Nat.le_of_ble_eq_true rfl) (Nat.le_of_ble_eq_true rfl) (by rintro _ _ ⟨rfl, rfl⟩; rfl) ?_
  rintro _ _ ⟨rfl, rfl⟩
  refine G.iloadN at_336 rfl ?_
  refine G.scall [_] rfl at_337 (hw _ (List.mem_of_getElem? (i := 22) rfl)) (hw _ (List.mem_of_getElem? (i := 23) rfl)) (hw _ (List.mem_of_getElem? (i := 24) rfl)) (hw _ (List.mem_of_getElem? (i := 25) rfl)) (by decide) (m_3 l Z a0 hw n0 [] _ _) own_pd0 rfl rfl (Nat.le_of_ble_eq_true rfl) (Nat.le_of_ble_eq_true rfl) (Nat.le_of_ble_eq_true rfl) (Nat.le_of_ble_eq_true rfl) (by rintro _ _ ⟨rfl, rfl⟩; rfl) ?_
  rintro _ _ ⟨rfl, rfl⟩
  refine G.icmp_ne 347 at_340 (by decide) rfl (fun h340 => absurd h340 (fun q => q (own_same _))) (fun h340 => ?_)
  refine G.iconst (1) at_343 rfl ?_
  refine G.goto 348 at_344 (by decide) rfl ?_
  refine G.istore6 at_348 rfl ?_
  refine G.iload at_350 rfl ?_
  refine G.scall [_] rfl at_352 (hw _ (List.mem_of_getElem? (i := 12) rfl)) (hw _ (List.mem_of_getElem? (i := 13) rfl)) (hw _ (List.mem_of_getElem? (i := 14) rfl)) (hw _ (List.mem_of_getElem? (i := 15) rfl)) (by decide) (m_1 l Z a0 hw n0 [] _ _) own_pd0 rfl rfl (Nat.le_of_ble_eq_true rfl) (Nat.le_of_ble_eq_true rfl) (Nat.le_of_ble_eq_true rfl) (Nat.le_of_ble_eq_true rfl) (by rintro _ _ ⟨rfl, rfl⟩; rfl) ?_
  rintro _ _ ⟨rfl, rfl⟩
  refine G.iload at_355 rfl ?_
  refine G.scall [_] rfl at_357 (hw _ (List.mem_of_getElem? (i := 22) rfl)) (hw _ (List.mem_of_getElem? (i := 23) rfl)) (hw _ (List.mem_of_getElem? (i := 24) rfl)) (hw _ (List.mem_of_getElem? (i := 25) rfl)) (by decide) (m_3 l Z a0 hw n0 [] _ _) own_pd0 rfl rfl (Nat.le_of_ble_eq_true rfl) (Nat.le_of_ble_eq_true rfl) (Nat.le_of_ble_eq_true rfl) (Nat.le_of_ble_eq_true rfl) (by rintro _ _ ⟨rfl, rfl⟩; rfl) ?_
  rintro _ _ ⟨rfl, rfl⟩
  refine G.icmp_ne 367 at_360 (by decide) rfl (fun h360 => absurd h360 (fun q => q (own_same _))) (fun h360 => ?_)
  refine G.iconst (1) at_363 rfl ?_
  refine G.goto 368 at_364 (by decide) rfl ?_
  refine G.istore7 at_368 rfl ?_
  refine G.iload at_370 rfl ?_
  refine G.if_eq 384 at_372 (by decide) rfl (fun h372 => absurd h372 (by decide)) (fun h372 => ?_)
  refine G.iload at_375 rfl ?_
  refine G.if_eq 384 at_377 (by decide) rfl (fun h377 => absurd h377 (by decide)) (fun h377 => ?_)
  refine G.iconst (1) at_380 rfl ?_
  refine G.goto 385 at_381 (by decide) rfl ?_
  exact G.zreturn rfl at_385 (rfl) (Nat.le_of_ble_eq_true rfl) (Nat.le_of_ble_eq_true rfl) (⟨rfl, trivial⟩)
set_option maxRecDepth 65536 in
set_option maxHeartbeats 40000000 in
theorem comes_1 {Post : Tables → Env → Array Value → State → Outcome → State → Prop} (hpost : ∀ tb e args s v u, (limb_1_1.after args s (.returned v) u = true ∧ limb_1_2.after args s (.returned v) u = true ∧ True) → FrameEnd s (.returned v) u (Jvm.fieldLocs frame_1_writes args s ++ Jvm.arrayLocs frame_1_arrays args s ++ Jvm.staticLocs frame_1_statics s) 16 192 → Post tb e args s (.returned v) u) :
    ArmFor flags0 classFile x code maxLocals ret World_1 tables_1 room_1 Calls_1 rest_1 Pre_1 Post := by
  intro l hfl _ _ p e ha hc hk s m args below hf hA hF happ hP
  obtain ⟨hcalls, hrest, hpre⟩ := hP
  obtain ⟨-, -, -, hnamed, -, -, -, hat⟩ := (Spec.applies_iff hf).mp happ
  obtain ⟨hg, hn⟩ := and_e (Cond.before_iff.mp (show (Jvm.Cond.and given_1 narrow_1).before args s = true from hpre))
  obtain ⟨hcnt, g0⟩ := and_e hg
  obtain ⟨w0, w1, w2, rfl⟩ : ∃ w0 w1 w2 : Value, args = #[w0, w1, w2] := by
    have hs : args.size = 3 := by simpa [Cond.value, given_1] using hcnt
    obtain ⟨L⟩ := args
    match L, hs with
    | [w0, w1, w2], _ => exact ⟨w0, w1, w2, rfl⟩
  have hw := fun d (hd : d ∈ tables_1) => atoms_spec (ws := Jvm.Cond.code x code maxLocals ret :: tables_1) hat d (List.mem_cons_of_mem _ hd)
  obtain ⟨t0, g1⟩ := and_e g0
  obtain ⟨i0, ei0⟩ := is_v t0
  obtain rfl : w0 = (.int i0) := Option.some.inj ei0
  obtain ⟨t1, g2⟩ := and_e g1
  obtain ⟨i1, ei1⟩ := is_v t1
  obtain rfl : w1 = (.int i1) := Option.some.inj ei1
  have t2 := g2
  obtain ⟨i2, ei2⟩ := is_v t2
  obtain rfl : w2 = (.int i2) := Option.some.inj ei2
  obtain ⟨n, o, h1, h2, h3, _, L, rfl, ⟨N, A', ⟨rfl, -⟩, -⟩, hq⟩ := (m_0 l s _ hw s.heap.size tables_1 i0 i1 i2 ) s.heap (Rep.nil _ _ _) p e ha hc hk s m _ below hf ((Spec.applies_iff_loose hf).mp happ).1 ⟨rfl, State.Warmed39.refl s, rfl⟩ trivial
  refine ⟨n, _, h1, h2, h3, hpost _ _ _ _ _ _ ⟨Cond.after_iff.mpr rfl, Cond.after_iff.mpr (eq_i res_at (Term.int_eval (1)) rfl), trivial⟩ ⟨hq.1, hq.2.1, (hq.2.2.sift fun y hy => Or.inr (N y hy)).mono (by decide) (by decide)⟩⟩
theorem main_1_1 : Claimed_1_1 := comes_1 fun _ _ _ _ _ _ h hF => ⟨h.1, hF⟩
theorem main_1_2 : Claimed_1_2 := comes_1 fun _ _ _ _ _ _ h hF => ⟨h.2.1, hF⟩
end Jvm.Pilot.@@N@@
namespace Jvm.Pilot.@@N@@
open Jvm Jvm.ClassFile Sem Op Lib Jvm.Free Jvm.Stand Jvm.Pilot.@@N@@.Jvm.D
/-! MADE BY PROGRAM (witnessworld.py) out of the Statement's table words and the real class files: 9 classes; the members and pool entries that the words name. The judged class is class 1, her method 3. -/
namespace start1
open Jvm.ClassFile
def u (s : String) : CpInfo := .utf8 (stringToUtf16 s)
/-- a pool by its gaps: so many unusable entries, then the entry; so many at the end -/
def gap : Nat → List CpInfo → List CpInfo
  | 0, r => r
  | n + 1, r => .unusable :: gap n r
def poolList (es : List (Nat × CpInfo)) (last : Nat) : List CpInfo := es.foldr (fun e r => gap e.1 (e.2 :: r)) (gap last [])
def pool (es : List (Nat × CpInfo)) (last : Nat) : Array CpInfo := ⟨poolList es last⟩
def fileOf (pool : Array CpInfo) (this : Nat) (attrs : Array Attribute := #[]) (ms : Array MethodInfo := #[]) (fl : Nat := 33) (sup : Nat := 0) (ifs : Array Nat := #[]) (fds : Array FieldInfo := #[]) : ClassFile where
  minorVersion := 0
  majorVersion := 65
  constantPool := pool
  accessFlags := fl
  thisClass := this
  superClass := sup
  interfaces := ifs
  fields := fds
  methods := ms
  attributes := attrs
def plain (name : String) (sup : Option ClassId) : Class where
  name := name
  kind := .ordinary
  loader := none
  accessFlags := 33
  super := sup
  interfaces := #[]
  cf := none
  fields := #[]
  methods := #[]
  instanceTypes := #[]
  staticTypes := #[]
  resolved := #[]
  callSites := []
  init := .initialized
  statics := none
  mirror := none

def pool0 : Array CpInfo := pool [(5, u "<init>"), (0, u "()V"), (1, .class_ 10), (1, u "java/lang/Object")] 113

def k0m0 : Method := { name := "<init>", desc := "()V", sig := { parameters := [], returnType := none }, accessFlags := 1, code := none }
/-- java/lang/Object -/
def k0 : Class := { plain "java/lang/Object" none with
  accessFlags := 33
  interfaces := #[]
  cf := some (fileOf pool0 8 #[] #[{ accessFlags := 1, nameIndex := 5, descriptorIndex := 6, attributes := #[] }] 33 0 #[] #[])
  fields := #[]
  methods := #[k0m0]
  instanceTypes := #[]
  staticTypes := #[]
  resolved := Array.replicate 124 none
  statics := none }

def pool1 : Array CpInfo := pool [(2, .class_ 4), (1, u "java/lang/Object"), (0, u "<init>"), (0, u "()V"), (0, .methodref 8 9), (0, .class_ 10), (0, .nameAndType 11 12), (0, u "com/example/marshwright/marshwright/internal/XmlNamesIsNameCharPinLaw"), (0, u "in"), (0, u "(III)Z"), (0, .integer 55295), (0, .integer 63744), (0, .integer 64975), (0, .integer 65008), (0, .integer 65533), (0, .integer 65536), (0, .integer 983039), (0, .integer 1114111), (2, .integer 2147483649), (0, .integer 2147483645), (0, .integer 2147483647), (0, .methodref 27 28), (0, .class_ 29), (0, .nameAndType 30 31), (0, u "com/example/marshwright/marshwright/internal/XmlNames"), (0, u "isNameChar"), (0, u "(I)Z"), (0, .methodref 8 33), (0, .nameAndType 34 31), (0, u "ref"), (3, u "law")] 4

def k1m0 : Method := { name := "<init>", desc := "()V", sig := { parameters := [], returnType := none }, accessFlags := 2, code := none }
def k1c1 : Code := { maxStack := 2, maxLocals := 3, code := method_2_code, exceptionTable := #[], attributes := #[] }
def k1m1 : Method := { name := "in", desc := "(III)Z", sig := { parameters := [.int, .int, .int], returnType := some .boolean }, accessFlags := 10, code := some k1c1 }
def k1c2 : Code := { maxStack := 3, maxLocals := 1, code := method_3_code, exceptionTable := #[], attributes := #[] }
def k1m2 : Method := { name := "ref", desc := "(I)Z", sig := { parameters := [.int], returnType := some .boolean }, accessFlags := 10, code := some k1c2 }
def k1c3 : Code := { maxStack := 4, maxLocals := 8, code := code, exceptionTable := #[], attributes := #[] }
def k1m3 : Method := { name := "law", desc := "(III)Z", sig := { parameters := [.int, .int, .int], returnType := some .boolean }, accessFlags := 9, code := some k1c3 }
/-- com/example/marshwright/marshwright/internal/XmlNamesIsNameCharPinLaw -/
def k1 : Class := { plain "com/example/marshwright/marshwright/internal/XmlNamesIsNameCharPinLaw" (some 0) with
  accessFlags := 49
  interfaces := #[]
  cf := some (fileOf pool1 8 #[] #[{ accessFlags := 2, nameIndex := 5, descriptorIndex := 6, attributes := #[] }, { accessFlags := 10, nameIndex := 11, descriptorIndex := 12, attributes := #[] }, { accessFlags := 10, nameIndex := 34, descriptorIndex := 31, attributes := #[] }, { accessFlags := 9, nameIndex := 38, descriptorIndex := 12, attributes := #[] }] 49 2 #[] #[])
  fields := #[]
  methods := #[k1m0, k1m1, k1m2, k1m3]
  instanceTypes := #[]
  staticTypes := #[]
  resolved := Array.replicate 43 none
  statics := none }

def pool2 : Array CpInfo := pool [(4, .class_ 6), (1, u "java/lang/Object"), (0, u "<init>"), (0, u "()V"), (10, .class_ 20), (0, u "com/example/marshwright/marshwright/internal/XmlNames"), (18, .methodref 19 40), (0, .nameAndType 41 42), (0, u "isNameStartChar"), (0, u "(I)Z"), (2, u "isNameChar"), (13, .integer 55295), (0, .integer 63744), (0, .integer 64975), (0, .integer 65008), (0, .integer 65533), (0, .integer 65536), (0, .integer 983039), (0, u "DECLARATION_PREFIX"), (0, u "Ljava/lang/String;")] 24

def k2m0 : Method := { name := "<init>", desc := "()V", sig := { parameters := [], returnType := none }, accessFlags := 2, code := none }
def k2c1 : Code := { maxStack := 2, maxLocals := 1, code := prog_13_method_5_code, exceptionTable := #[], attributes := #[] }
def k2m1 : Method := { name := "isNameStartChar", desc := "(I)Z", sig := { parameters := [.int], returnType := some .boolean }, accessFlags := 8, code := some k2c1 }
def k2c2 : Code := { maxStack := 2, maxLocals := 1, code := prog_13_method_6_code, exceptionTable := #[], attributes := #[] }
def k2m2 : Method := { name := "isNameChar", desc := "(I)Z", sig := { parameters := [.int], returnType := some .boolean }, accessFlags := 8, code := some k2c2 }
/-- com/example/marshwright/marshwright/internal/XmlNames -/
def k2 : Class := { plain "com/example/marshwright/marshwright/internal/XmlNames" (some 0) with
  accessFlags := 48
  interfaces := #[]
  cf := some (fileOf pool2 19 #[] #[{ accessFlags := 2, nameIndex := 7, descriptorIndex := 8, attributes := #[] }, { accessFlags := 8, nameIndex := 41, descriptorIndex := 42, attributes := #[] }, { accessFlags := 8, nameIndex := 45, descriptorIndex := 42, attributes := #[] }] 48 4 #[] #[{ accessFlags := 26, nameIndex := 66, descriptorIndex := 67, attributes := #[] }])
  fields := #[{ name := "DECLARATION_PREFIX", type := (.object "java/lang/String"), accessFlags := 26, slot := 0, constantValue := 0 }]
  methods := #[k2m0, k2m1, k2m2]
  instanceTypes := #[]
  staticTypes := #[(.object "java/lang/String")]
  resolved := Array.replicate 92 none
  statics := none }

def pool3 : Array CpInfo := pool [(1, u "java/lang/Cloneable"), (0, .class_ 1), (0, u "java/lang/Object"), (0, .class_ 3)] 3

/-- java/lang/Cloneable -/
def k3 : Class := { plain "java/lang/Cloneable" (some 0) with
  accessFlags := 1537
  interfaces := #[]
  cf := some (fileOf pool3 2 #[] #[] 1537 4 #[] #[])
  fields := #[]
  methods := #[]
  instanceTypes := #[]
  staticTypes := #[]
  resolved := Array.replicate 8 none
  statics := none }

def pool4 : Array CpInfo := pool [(1, u "java/io/Serializable"), (0, .class_ 1), (0, u "java/lang/Object"), (0, .class_ 3)] 3

/-- java/io/Serializable -/
def k4 : Class := { plain "java/io/Serializable" (some 0) with
  accessFlags := 1537
  interfaces := #[]
  cf := some (fileOf pool4 2 #[] #[] 1537 4 #[] #[])
  fields := #[]
  methods := #[]
  instanceTypes := #[]
  staticTypes := #[]
  resolved := Array.replicate 8 none
  statics := none }

/-- the primitive byte -/
def k5 : Class := { plain "byte" none with kind := .primitive 'B', accessFlags := 0x411 }
/-- [B -/
def k6 : Class := { plain "[B" (some 0) with kind := .array 5 .byte, interfaces := #[3, 4], accessFlags := 1041 }

/-- the primitive int -/
def k7 : Class := { plain "int" none with kind := .primitive 'I', accessFlags := 0x411 }
/-- [I -/
def k8 : Class := { plain "[I" (some 0) with kind := .array 7 .int, interfaces := #[3, 4], accessFlags := 1041 }

def heap : Heap := #[]
def classes : Array Class := #[k0, k1, k2, k3, k4, k5, k6, k7, k8]
def interned : List (Array UInt16 × Addr) := []
def slotsUsed : Nat := 0
def theMethod : MethodId := ⟨1, 3⟩
def args0 : Array Value := #[.int 500, .int 4, .int 9]
def aboutOver (below : List Frame) : State where
  vm := { classes := classes, interned := interned.toArray }
  heap := heap
  slotsUsed := slotsUsed
  threads := #[{ frames := .invoking theMethod args0 :: below }]
def below0 : List Frame := [.native { method := ⟨0, 0⟩, args := #[] }]
def about1 : State := aboutOver below0
def p0 : Program := .bare "" "" ""
def e0 : Env := launch0.env 0 0 0
theorem w_frames : about1.frames = Frame.invoking theMethod args0 :: below0 := rfl
set_option maxRecDepth 65536 in
theorem w_args : argsFit about1.vm theMethod args0 = true := by decide +kernel
set_option maxRecDepth 65536 in
theorem w_heap : heapFits about1 = true := by decide +kernel
set_option maxRecDepth 65536 in
theorem w_runnable : about1.curStatus? = some .runnable := by decide +kernel
set_option maxRecDepth 65536 in
theorem w_alone : about1.alone = true := by decide +kernel
set_option maxRecDepth 65536 in
theorem w_named : about1.methodNamed? x = some theMethod := by decide +kernel
set_option maxRecDepth 65536 in
theorem w_hears : about1.hears theMethod below0 = true := by decide +kernel
set_option maxRecDepth 65536 in
theorem w_ripe : about1.ripe theMethod args0 below0 = true := by decide +kernel
theorem w_running : about1.status = .running := rfl
set_option maxRecDepth 65536 in
theorem w_room : about1.hasRoom e0.platform room_1 = true :=
  launch0.hasRoom_least _ room_1 (by decide +kernel) (by decide +kernel) (by decide +kernel) (by decide +kernel) (by decide +kernel) (by decide +kernel)
theorem allAtoms_all (ts : List Jvm.Cond) (a : Array Jvm.Value) (st : Jvm.State) : (allAtoms ts).before a st = ts.all (fun c => c.before a st) := by
  induction ts with
  | nil => rfl
  | cons c t ih =>
    show (Jvm.Cond.and c (allAtoms t)).before a st = _
    rw [Jvm.Cond.before_and, ih, List.all_cons]
def words1 : List Jvm.Cond := Jvm.Cond.code x code maxLocals ret :: tables_1
/-- a 'code' word, met by the world's own term for the bytes: nothing is compared byte by byte -/
theorem code_word {y : MethodName} {bytes : ByteArray} {mx : Nat} {rt : Option FieldType} {a : Array Value} {s : State} {m : MethodId} {meth : Method} {c : Code} (h1 : s.methodNamed? y = some m) (h2 : s.vm.method? m = some meth) (h3 : meth.code = some c) (h4 : c.code = bytes)
    (h5 : (c.maxLocals == mx && c.exceptionTable.isEmpty && decide (c.maxStack ≤ mostOperands) && decide (meth.sig.returnType = rt) && !meth.locks && decide (parseMethodDescriptor y.desc = some meth.sig)) = true) : (Jvm.Cond.code y bytes mx rt).before a s = true := by
  simp only [Bool.and_eq_true, beq_iff_eq, Bool.not_eq_true', decide_eq_true_eq] at h5
  obtain ⟨⟨⟨⟨⟨g1, g2⟩, g3⟩, g4⟩, g5⟩, g6⟩ := h5
  simp [Cond.before, Cond.holds, Cond.value, h1, h2, h3, h4, g1, g2, g3, g4, g5, g6]
def isCode : Jvm.Cond → Bool
  | .code _ _ _ _ => true
  | _ => false
theorem all_split {L : List Jvm.Cond} {P : Jvm.Cond → Bool} (h1 : L.all (fun c => isCode c || P c) = true) (h2 : ∀ c ∈ L.filter isCode, P c = true) : L.all P = true := by
  refine List.all_eq_true.mpr fun c hc => ?_
  have h := List.all_eq_true.mp h1 c hc
  rcases Bool.eq_false_or_eq_true (isCode c) with hi | hi
  · exact h2 c (List.mem_filter.mpr ⟨hc, hi⟩)
  · simpa [hi] using h
set_option maxRecDepth 65536 in
theorem w_c0 : (Jvm.Cond.code x code maxLocals ret).before args0 about1 = true := code_word (m := ⟨1, 3⟩) (meth := k1m3) (c := k1c3) (by decide +kernel) rfl rfl rfl (by decide +kernel)
set_option maxRecDepth 65536 in
theorem w_c1 : (Jvm.Cond.code ({ cls := "com/example/marshwright/marshwright/internal/XmlNames", name := "isNameChar", desc := "(I)Z" } : Jvm.MethodName) prog_13_method_6_code (1 : Nat) (Option.some Jvm.ClassFile.FieldType.boolean)).before args0 about1 = true := code_word (m := ⟨2, 2⟩) (meth := k2m2) (c := k2c2) (by decide +kernel) rfl rfl rfl (by decide +kernel)
set_option maxRecDepth 65536 in
theorem w_c2 : (Jvm.Cond.code ({ cls := "com/example/marshwright/marshwright/internal/XmlNames", name := "isNameStartChar", desc := "(I)Z" } : Jvm.MethodName) prog_13_method_5_code (1 : Nat) (Option.some Jvm.ClassFile.FieldType.boolean)).before args0 about1 = true := code_word (m := ⟨2, 1⟩) (meth := k2m1) (c := k2c1) (by decide +kernel) rfl rfl rfl (by decide +kernel)
set_option maxRecDepth 65536 in
theorem w_c3 : (Jvm.Cond.code ({ cls := "com/example/marshwright/marshwright/internal/XmlNamesIsNameCharPinLaw", name := "ref", desc := "(I)Z" } : Jvm.MethodName) method_3_code (1 : Nat) (Option.some Jvm.ClassFile.FieldType.boolean)).before args0 about1 = true := code_word (m := ⟨1, 2⟩) (meth := k1m2) (c := k1c2) (by decide +kernel) rfl rfl rfl (by decide +kernel)
set_option maxRecDepth 65536 in
theorem w_c4 : (Jvm.Cond.code ({ cls := "com/example/marshwright/marshwright/internal/XmlNamesIsNameCharPinLaw", name := "in", desc := "(III)Z" } : Jvm.MethodName) method_2_code (3 : Nat) (Option.some Jvm.ClassFile.FieldType.boolean)).before args0 about1 = true := code_word (m := ⟨1, 1⟩) (meth := k1m1) (c := k1c1) (by decide +kernel) rfl rfl rfl (by decide +kernel)
def codes1 : List Jvm.Cond := [Jvm.Cond.code x code maxLocals ret, Jvm.Cond.code ({ cls := "com/example/marshwright/marshwright/internal/XmlNames", name := "isNameChar", desc := "(I)Z" } : Jvm.MethodName) prog_13_method_6_code (1 : Nat) (Option.some Jvm.ClassFile.FieldType.boolean), Jvm.Cond.code ({ cls := "com/example/marshwright/marshwright/internal/XmlNames", name := "isNameStartChar", desc := "(I)Z" } : Jvm.MethodName) prog_13_method_5_code (1 : Nat) (Option.some Jvm.ClassFile.FieldType.boolean), Jvm.Cond.code ({ cls := "com/example/marshwright/marshwright/internal/XmlNamesIsNameCharPinLaw", name := "ref", desc := "(I)Z" } : Jvm.MethodName) method_3_code (1 : Nat) (Option.some Jvm.ClassFile.FieldType.boolean), Jvm.Cond.code ({ cls := "com/example/marshwright/marshwright/internal/XmlNamesIsNameCharPinLaw", name := "in", desc := "(III)Z" } : Jvm.MethodName) method_2_code (3 : Nat) (Option.some Jvm.ClassFile.FieldType.boolean)]
set_option maxRecDepth 65536 in
theorem codes_eq : words1.filter isCode = codes1 := rfl
theorem w_codes : ∀ c ∈ words1.filter isCode, c.before args0 about1 = true := by
  rw [codes_eq]
  intro c hc
  simp only [codes1, List.mem_cons, List.not_mem_nil, or_false] at hc
  rcases hc with rfl | rfl | rfl | rfl | rfl
  · exact w_c0
  · exact w_c1
  · exact w_c2
  · exact w_c3
  · exact w_c4
set_option maxRecDepth 65536 in
theorem w_t1 : (words1.take 24).all (fun c => isCode c || c.before args0 about1) = true := by decide +kernel
set_option maxRecDepth 65536 in
theorem w_t2 : (words1.drop 24).all (fun c => isCode c || c.before args0 about1) = true := by decide +kernel
theorem w_tables : (allAtoms (Jvm.Cond.code x code maxLocals ret :: tables_1)).before args0 about1 = true := by
  rw [allAtoms_all]
  show words1.all (fun c => c.before args0 about1) = true
  refine all_split ?_ w_codes
  rw [← List.take_append_drop 24 words1, List.all_append, w_t1, w_t2]
  rfl
set_option maxRecDepth 65536 in
theorem w_case : (Jvm.Cond.and given_1 narrow_1).before args0 about1 = true := by decide +kernel
theorem w_applies : (headSpec (Jvm.Cond.code x code maxLocals ret :: tables_1) room_1).applies x e0.platform about1 = true :=
  (Spec.applies_iff w_frames).mpr ⟨w_running, w_runnable, w_alone, w_named, w_hears, w_ripe, w_room, w_tables⟩
theorem atStart : AtStart classFile x code maxLocals ret World_1 tables_1 room_1 Calls_1 rest_1 Pre_1 launch0 p0 e0 about1 theMethod args0 below0 :=
  ⟨lists_1, trivial, launch0.admits_env _ _ _, launch0.least_env, fairChoices_fair.cas, fairChoices_fair.clock, w_frames, w_args, w_heap, w_applies, trivial, trivial, w_case⟩
end start1
theorem witness_1 : WitnessClaimed_1 := ⟨start1.p0, start1.e0, start1.about1, start1.theMethod, start1.args0, start1.below0, start1.atStart⟩
end Jvm.Pilot.@@N@@
