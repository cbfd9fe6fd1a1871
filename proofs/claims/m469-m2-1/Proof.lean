import JvmDerived
import JvmDerived.Pilot.@@N@@Statement
import JvmDerived.Pilot.@@N@@Code
set_option linter.unusedVariables false
set_option linter.unusedSimpArgs false
namespace Jvm.Pilot.@@N@@
open Jvm Jvm.ClassFile Sem Op Lib Jvm.Free Jvm.Stand Jvm.LawKit Jvm.RoadKit Bundle Jvm.Pilot.@@N@@.Jvm.D
/-! 1. what is known of the heap: a list of objects made since the start -/
abbrev oOb : Type := (String × List (String × String × String × Value)) ⊕ (FieldType × List Value)
abbrev oVw : Type := List (Addr × oOb)
def oSat (Z : State) (h : Heap) (a : Addr) : oOb → Prop
  | .inl q => Exa Z h a q.1 ∧ (q.2.map fun f => Jvm.RoadKit.slotOf Z f.1 f.2.1 f.2.2.1).Nodup ∧ ∀ f ∈ q.2, Fld Z h a f.1 f.2.1 f.2.2.1 f.2.2.2
  | .inr q => ∃ c : Cell, Arr Z h a c q.1 ∧ c.slots.toList = q.2 ∧ q.2.length < 2 ^ 31
def oHv (Z : State) (h : Heap) (V : oVw) : Prop := Ext Z.heap h ∧ (V.map Prod.fst).Nodup ∧ ∀ x ∈ V, Z.heap.size ≤ x.1 ∧ oSat Z h x.1 x.2
theorem oSat.ext {Z : State} {h h' : Heap} {a : Addr} {o : oOb} (E : Ext h h') (S : oSat Z h a o) : oSat Z h' a o := by
  cases o with
  | inl q => exact ⟨S.1.ext E, S.2.1, fun f hf => (S.2.2 f hf).ext E⟩
  | inr q => obtain ⟨c, A, r⟩ := S; exact ⟨c, A.ext E, r⟩
theorem oSat.other {Z : State} {h h' : Heap} {a b : Addr} {o : oOb} {sl : Nat} {v : Value} (W : Wr h h' b sl v) (ne : a ≠ b) (S : oSat Z h a o) : oSat Z h' a o := by
  cases o with
  | inl q => exact ⟨S.1.wr W, S.2.1, fun f hf => (S.2.2 f hf).other W (Or.inl ne)⟩
  | inr q => obtain ⟨c, A, r⟩ := S; exact ⟨c, A.other W ne, r⟩
theorem oSat.lt {Z : State} {h : Heap} {a : Addr} {o : oOb} (S : oSat Z h a o) : a < h.size := by
  cases o with
  | inl q => exact S.1.lt
  | inr q => obtain ⟨c, A, r⟩ := S; exact A.lt
theorem oSetSame {α : Type} : ∀ {l : List α} {i : Nat} {x : α}, l[i]? = some x → l.set i x = l
  | [], _, _, h => by simp at h
  | y :: r, 0, x, h => by simp at h; simp [h]
  | y :: r, i + 1, x, h => by simp at h; simp [oSetSame h]
theorem oSetGet {α : Type} {l : List α} {i : Nat} {x y : α} (h : l[i]? = some x) : (l.set i y)[i]? = some y := by
  obtain ⟨hi, -⟩ := List.getElem?_eq_some_iff.mp h
  simp [hi]
theorem oSetNe {α : Type} {l : List α} {i k : Nat} {x y : α} (ne : i ≠ k) (h : l[k]? = some x) : (l.set i y)[k]? = some x := by
  rw [List.getElem?_set_ne ne]; exact h
theorem oAppGet {α : Type} {l r : List α} {i : Nat} {x : α} (h : l[i]? = some x) : (l ++ r)[i]? = some x := by
  obtain ⟨hi, -⟩ := List.getElem?_eq_some_iff.mp h
  rw [List.getElem?_append_left hi]; exact h
theorem oAppLast {α : Type} {l : List α} {x : α} : (l ++ [x])[l.length]? = some x := by simp
theorem oAppSet {α : Type} {l r : List α} {i : Nat} {x y : α} (h : l[i]? = some x) : (l ++ r).set i y = l.set i y ++ r := by
  obtain ⟨hi, -⟩ := List.getElem?_eq_some_iff.mp h
  simp [List.set_append, hi]
theorem oAppSetLast {α : Type} {l : List α} {x y : α} : (l ++ [x]).set l.length y = l ++ [y] := by simp [List.set_append]
theorem oNd {α β : Type} {f : α → β} {l : List α} (nd : (l.map f).Nodup) {i k : Nat} {x y : α} (hi : l[i]? = some x) (hk : l[k]? = some y) (ne : i ≠ k) : f x ≠ f y := by
  intro e
  have h1 : (l.map f)[i]? = some (f x) := by simp [hi]
  have h2 : (l.map f)[k]? = some (f x) := by simp [hk, e]
  obtain ⟨hi', g1⟩ := List.getElem?_eq_some_iff.mp h1
  obtain ⟨hk', g2⟩ := List.getElem?_eq_some_iff.mp h2
  exact ne ((List.getElem_inj nd).mp (g1.trans g2.symm))
theorem oMapSet {α β : Type} {f : α → β} {l : List α} {i : Nat} {x y : α} (hi : l[i]? = some x) (e : f y = f x) : (l.set i y).map f = l.map f := by
  rw [List.map_set]; exact oSetSame (by simp [hi, e])
theorem oMemSet {α : Type} {l : List α} {i : Nat} {y z : α} (h : z ∈ l.set i y) : z = y ∨ ∃ k, k ≠ i ∧ l[k]? = some z := by
  obtain ⟨k, hk⟩ := List.mem_iff_getElem?.mp h
  by_cases e : i = k
  · subst e
    obtain ⟨hi, g⟩ := List.getElem?_eq_some_iff.mp hk
    left; simp at g; exact g.symm
  · right; exact ⟨k, fun q => e q.symm, by rwa [List.getElem?_set_ne e] at hk⟩
theorem oHv.new {Z : State} {h h' : Heap} {V : oVw} {o : oOb} (H : oHv Z h V) (E : Ext h h') (S : oSat Z h' h.size o) : oHv Z h' (V ++ [(h.size, o)]) := by
  obtain ⟨H1, H2, H3⟩ := H
  refine ⟨⟨Nat.le_trans H1.1 E.1, fun a c q => E.2 _ _ (H1.2 _ _ q)⟩, ?_, fun x hx => ?_⟩
  · rw [List.map_append, List.nodup_append]
    refine ⟨H2, by simp, fun a ha b hb => ?_⟩
    simp at hb
    subst hb
    obtain ⟨x, hx, rfl⟩ := List.mem_map.mp ha
    exact Nat.ne_of_lt (H3 x hx).2.lt
  · rcases List.mem_append.mp hx with hx | hx
    · exact ⟨(H3 x hx).1, (H3 x hx).2.ext E⟩
    · simp at hx; subst hx; exact ⟨H1.1, S⟩
theorem oHv.wr {Z : State} {h h' : Heap} {V : oVw} {a : Addr} {o o' : oOb} {i sl : Nat} {v : Value} (H : oHv Z h V) (W : Wr h h' a sl v) (hi : V[i]? = some (a, o)) (S : oSat Z h' a o') : oHv Z h' (V.set i (a, o')) := by
  obtain ⟨H1, H2, H3⟩ := H
  have hm := H3 _ (List.mem_of_getElem? hi)
  refine ⟨(Old.wr (n0 := Z.heap.size) ⟨rfl, H1⟩ W hm.1).2, ?_, fun x hx => ?_⟩
  · rw [oMapSet (y := (a, o')) hi rfl]; exact H2
  · rcases oMemSet hx with rfl | ⟨k, hk, hx⟩
    · exact ⟨hm.1, S⟩
    · have q := H3 _ (List.mem_of_getElem? hx)
      exact ⟨q.1, q.2.other W (oNd H2 hx hi hk)⟩
theorem oSat.wrF {Z : State} {h h' : Heap} {a : Addr} {C O n d : String} {fs : List (String × String × String × Value)} {j : Nat} {v old : Value} (S : oSat Z h a (.inl (C, fs))) (hj : fs[j]? = some (O, n, d, old)) (W : Wr h h' a (Jvm.RoadKit.slotOf Z O n d) v) :
    oSat Z h' a (.inl (C, fs.set j (O, n, d, v))) := by
  obtain ⟨S1, S2, S3⟩ := S
  refine ⟨S1.wr W, ?_, fun f hf => ?_⟩
  · show ((fs.set j (O, n, d, v)).map _).Nodup
    rw [oMapSet (y := (O, n, d, v)) hj rfl]; exact S2
  · rcases oMemSet hf with rfl | ⟨k, hk, hf⟩
    · exact (S3 _ (List.mem_of_getElem? hj)).same W
    · have S2' : (fs.map fun f => Jvm.RoadKit.slotOf Z f.1 f.2.1 f.2.2.1).Nodup := S2
      have q := oNd S2' hf hj hk
      dsimp only at q
      exact (S3 _ (List.mem_of_getElem? hf)).other W (Or.inr q)
theorem oSat.wrA {Z : State} {h h' : Heap} {a : Addr} {ty : FieldType} {vs : List Value} {j : Nat} {v : Value} (S : oSat Z h a (.inr (ty, vs))) (W : Wr h h' a j v) : oSat Z h' a (.inr (ty, vs.set j v)) := by
  obtain ⟨c, A, r1, r2⟩ := S
  refine ⟨_, A.same W, ?_, by rw [List.length_set]; exact r2⟩
  show (c.setSlot j v).slots.toList = _
  simp only [Cell.setSlot, Array.toList_setIfInBounds, r1]
theorem oHv.sat {Z : State} {h : Heap} {V : oVw} {a : Addr} {o : oOb} {i : Nat} (H : oHv Z h V) (hi : V[i]? = some (a, o)) : oSat Z h a o := (H.2.2 _ (List.mem_of_getElem? hi)).2
theorem oHv.ge {Z : State} {h : Heap} {V : oVw} {a : Addr} {o : oOb} {i : Nat} (H : oHv Z h V) (hi : V[i]? = some (a, o)) : Z.heap.size ≤ a := (H.2.2 _ (List.mem_of_getElem? hi)).1
theorem oHv.nil (Z : State) : oHv Z Z.heap [] := ⟨⟨Nat.le_refl _, fun _ _ q => q⟩, List.nodup_nil, fun _ q => nomatch q⟩
/-- the fields of a class, as they are at first -/
def oLay (Z : State) (a0 : Array Value) (C : String) (fs : List (String × String × String × Value)) : Prop := (fs.map fun f => Jvm.RoadKit.slotOf Z f.1 f.2.1 f.2.2.1).Nodup ∧ ∀ f ∈ fs, Laid Z a0 C f.1 f.2.1 f.2.2.1 ∧ ∃ ty, parseFieldDescriptor f.2.2.1 = some ty ∧ f.2.2.2 = defaultValue ty
def oAll {α : Type} (P : α → Prop) : List α → Prop
  | [] => True
  | x :: r => P x ∧ oAll P r
theorem oAll.mem {α : Type} {P : α → Prop} : ∀ {l : List α}, oAll P l → ∀ x ∈ l, P x
  | [], _, _, q => nomatch q
  | y :: r, H, x, q => (List.mem_cons.mp q).elim (fun u => u ▸ H.1) (oAll.mem H.2 x)
theorem oLay.of {Z : State} {a0 : Array Value} {C : String} {fs : List (String × String × String × Value)} (hn : (fs.map fun f => f.2.1).Nodup) (hL : oAll (fun f => Laid Z a0 C f.1 f.2.1 f.2.2.1 ∧ ∃ ty, parseFieldDescriptor f.2.2.1 = some ty ∧ f.2.2.2 = defaultValue ty) fs) : oLay Z a0 C fs := by
  have hL := hL.mem
  refine ⟨?_, hL⟩
  have hn' := List.pairwise_map.mp hn
  refine List.pairwise_map.mpr (List.Pairwise.imp_of_mem (fun {x z} hx hz ne => ?_) hn')
  obtain ⟨L1, t1, p1, -⟩ := hL _ hx
  obtain ⟨L2, t2, p2, -⟩ := hL _ hz
  exact slot_ne L1 L2 ne p1 p2
/-! 2. where the run stands, and where it goes -/
section Walk
variable {p : Program} {l : Launch} {e : Env} {R : Room} {s : State} {m : MethodId} {args : Array Value} {below : List Frame} {meth : Method} {c : Code} {Z : State} {bytes : ByteArray} {own nm : String} {maxL : Nat} {ret : Option FieldType} {T : State} {V V' : oVw} {cells slots c2 s2 : Nat} {Ret : Option Value → oVw → Prop} {a0 : Array Value} {pc q : Nat} {Ls : Array Slot} {st rest : List Value}
def oE (p : Program) (l : Launch) (e : Env) (R : Room) (s : State) (m : MethodId) (args : Array Value) (below : List Frame) (meth : Method) (c : Code) (Z : State) (bytes : ByteArray) (own nm : String) (maxL : Nat) (ret : Option FieldType) : Prop :=
  p.tables.exec = Jvm.exec ∧ Z.Warmed39 s.vm ∧ s.vm.findClass own = some m.cls ∧ c.code = bytes ∧ c.maxLocals = maxL ∧ meth.sig.returnType = ret ∧ meth.name = nm ∧ meth.locks = false
def oX (p : Program) (l : Launch) (e : Env) (R : Room) (s : State) (m : MethodId) (args : Array Value) (below : List Frame) (meth : Method) (c : Code) (Z T : State) (V : oVw) (cells slots : Nat) : Prop :=
  ∃ locs c' s', c' ≤ cells ∧ s' ≤ slots ∧ Stand p l e R s m args below meth c T locs c' s' ∧ Fr Z.heap.size locs ∧ oHv Z T.heap V
def oG (p : Program) (e : Env) (below : List Frame) (s Z : State) (R : Room) (Ret : Option Value → oVw → Prop) (T : State) (g : JFrame) : Prop :=
  ∃ t o, Steps p.tables e below (T.setTop g) t ∧ t.status = .running ∧ Ended t below o ∧ ∃ v L, o = .returned v ∧ (Fr Z.heap.size L ∧ ∃ V', Ret v V' ∧ oHv Z t.heap V') ∧ FrameEnd s o t L R.cells R.slots
/-- the contract of a method at a view V of the heap -/
def oCon (l : Launch) (Z : State) (y : MethodName) (bytes : ByteArray) (maxL : Nat) (ret : Option FieldType) (rm : Room) (as' : Array Value) (V : oVw) (Ret : Option Value → oVw → Prop) : Prop :=
  ∀ (ws : List Jvm.Cond) (h0 : Heap), oHv Z h0 V → MetFree l y (head1 (Jvm.Cond.code y bytes maxL ret :: ws) rm) (fun a U => a = as' ∧ Z.Warmed39 U.vm ∧ U.heap = h0) (fun _ _ _ _ _ => True) (fun _ U o U' => ∃ v L, o = .returned v ∧ (Fr Z.heap.size L ∧ ∃ V', Ret v V' ∧ oHv Z U'.heap V') ∧ FrameEnd U o U' L rm.cells rm.slots)
theorem oG.step {T' : State} {g g' : JFrame} (k : ∀ t, Steps p.tables e below (T'.setTop g') t → Steps p.tables e below (T.setTop g) t) (G : oG p e below s Z R Ret T' g') : oG p e below s Z R Ret T g := by
  obtain ⟨t, o, h1, r⟩ := G; exact ⟨t, o, k t h1, r⟩
theorem oG.steps {T' : State} {g g' : JFrame} (k : Steps p.tables e below (T.setTop g) (T'.setTop g')) (G : oG p e below s Z R Ret T' g') : oG p e below s Z R Ret T g := by
  obtain ⟨t, o, h1, r⟩ := G; exact ⟨t, o, k.trans h1, r⟩
theorem oX.le (X : oX p l e R s m args below meth c Z T V cells slots) (h1 : cells ≤ c2) (h2 : slots ≤ s2) : oX p l e R s m args below meth c Z T V c2 s2 := by
  obtain ⟨locs, c', s', q1, q2, r⟩ := X; exact ⟨locs, c', s', Nat.le_trans q1 h1, Nat.le_trans q2 h2, r⟩
theorem oX.hv (X : oX p l e R s m args below meth c Z T V cells slots) : oHv Z T.heap V := by
  obtain ⟨_, _, _, _, _, _, _, H⟩ := X; exact H
/-- entering a method -/
theorem oEnter {y : MethodName} {as' : Array Value} {rm : Room} (hpl : plainFor y = true) (hent : ∀ m, entryFrame m as' maxL = mkF m 0 Ls [])
    (body : ∀ p e s m below meth c T, oE p l e rm s m as' below meth c Z bytes y.cls y.name maxL ret → oX p l e rm s m as' below meth c Z T V 0 0 → oG p e below s Z rm Ret T (mkF m 0 Ls [])) :
    oCon l Z y bytes maxL ret rm as' V Ret := by
  intro ws h0 H
  refine MetFree.of_bodySF hpl hisR ?_
  intro p e s m args below meth c s₁ Bd hml0 hP hK
  obtain ⟨rfl, hZ, hh⟩ := hP
  have e0 : s₁.heap = h0 := by rw [← hh, Bd.state]; rfl
  have G := body p e s m below meth c s₁ ⟨Bd.exec, hZ, findClass_of_methodNamed Bd.named, Bd.bytes, hml0, Bd.returns, (name_of_methodNamed Bd.named Bd.method).1, BodyLoose.notSynchronized Bd⟩ ⟨[], 0, 0, Nat.le_refl _, Nat.le_refl _, Stand.of_body Bd, Fr.nil _, e0 ▸ H⟩
  obtain ⟨t, o, h1, r⟩ := G
  exact ⟨t, o, castTop (hent m) h1, r⟩
/-! 3. leaving -/
theorem oLeave (E : oE p l e R s m args below meth c Z bytes own nm maxL ret) (X : oX p l e R s m args below meth c Z T V cells slots) (hc : cells ≤ R.cells) (hs : slots ≤ R.slots) {v : Option Value} (hv : meth.sig.returnType = none → v = none) (hR : Ret v V) {g : JFrame}
    (k : ∀ {locs c' s'}, Stand p l e R s m args below meth c T locs c' s' → ∀ fs, (∀ (f : JFrame) (acts : List Action), f.method = m → f.locked = none → f.entered = [] → (doReturn e (T.setTop f) acts v).1 = T.setFrames fs) → Steps p.tables e below (T.setTop g) (T.setFrames fs)) :
    oG p e below s Z R Ret T g := by
  obtain ⟨locs, c', s', q1, q2, Y, N, H⟩ := X
  have hlocks := E.2.2.2.2.2.2.2
  obtain ⟨fs, hr, hrun, hended, hW, hsame⟩ := Y.leave (v := v) hv hlocks
  exact ⟨_, _, k Y fs hr, hrun, hended, _, _, rfl, ⟨N, _, hR, H⟩, ⟨_, rfl⟩, hW, hsame.mono (Nat.le_trans q1 hc) (Nat.le_trans q2 hs)⟩
theorem gRetV (E : oE p l e R s m args below meth c Z bytes own nm maxL none) (X : oX p l e R s m args below meth c Z T V cells slots) (hd : decode bytes pc = .ok (.return_, 1)) (hc : cells ≤ R.cells) (hs : slots ≤ R.slots) (hR : Ret none V) : oG p e below s Z R Ret T (mkF m pc Ls []) :=
  oLeave E X hc hs (fun _ => rfl) hR fun Y fs hr => Y.returnOut E.1 E.2.2.2.2.2.1 (hb E.2.2.2.1 hd) hr
theorem gRetI (E : oE p l e R s m args below meth c Z bytes own nm maxL (some .int)) (X : oX p l e R s m args below meth c Z T V cells slots) {z : Int32} (hd : decode bytes pc = .ok (.ireturn, 1)) (hc : cells ≤ R.cells) (hs : slots ≤ R.slots) (hR : Ret (some (.int z)) V) : oG p e below s Z R Ret T (mkF m pc Ls (.int z :: rest)) :=
  oLeave E X hc hs (fun h => by rw [E.2.2.2.2.2.1] at h; cases h) hR fun Y fs hr => retOut Y E.1 E.2.2.2.2.2.1 rfl (Or.inl ⟨rfl, Or.inl rfl, _, rfl⟩) (hb E.2.2.2.1 hd) hr
theorem gRetN {t : FieldType} (E : oE p l e R s m args below meth c Z bytes own nm maxL (some t)) (X : oX p l e R s m args below meth c Z T V cells slots) (ht : t = .boolean ∨ t = .byte ∨ t = .char ∨ t = .short) {z : Int32} (hd : decode bytes pc = .ok (.ireturn, 1)) (hc : cells ≤ R.cells) (hs : slots ≤ R.slots) (hR : Ret (some (.int (nar t z))) V) : oG p e below s Z R Ret T (mkF m pc Ls (.int z :: rest)) :=
  oLeave E X hc hs (fun h => by rw [E.2.2.2.2.2.1] at h; cases h) hR fun Y fs hr => retN Y E.1 E.2.2.2.2.2.1 ht (hb E.2.2.2.1 hd) hr
theorem gRetJ (E : oE p l e R s m args below meth c Z bytes own nm maxL (some .long)) (X : oX p l e R s m args below meth c Z T V cells slots) {z : Int64} (hd : decode bytes pc = .ok (.lreturn, 1)) (hc : cells ≤ R.cells) (hs : slots ≤ R.slots) (hR : Ret (some (.long z)) V) : oG p e below s Z R Ret T (mkF m pc Ls (.long z :: rest)) :=
  oLeave E X hc hs (fun h => by rw [E.2.2.2.2.2.1] at h; cases h) hR fun Y fs hr => retOut Y E.1 E.2.2.2.2.2.1 rfl (Or.inr (Or.inl ⟨rfl, rfl, _, rfl⟩)) (hb E.2.2.2.1 hd) hr
theorem gRetA {t : FieldType} (E : oE p l e R s m args below meth c Z bytes own nm maxL (some t)) (X : oX p l e R s m args below meth c Z T V cells slots) (ht : t.isReference = true) {v : Value} (hd : decode bytes pc = .ok (.areturn, 1)) (hc : cells ≤ R.cells) (hs : slots ≤ R.slots) (hv : v.isRef = true) (hn : narrow t v = v) (hR : Ret (some v) V) : oG p e below s Z R Ret T (mkF m pc Ls (v :: rest)) :=
  oLeave E X hc hs (fun h => by rw [E.2.2.2.2.2.1] at h; cases h) hR fun Y fs hr => retOut Y E.1 E.2.2.2.2.2.1 hn (Or.inr (Or.inr (Or.inr (Or.inr ⟨rfl, ht, hv⟩)))) (hb E.2.2.2.1 hd) hr
/-! 4. single steps -/
theorem gAloadN (E : oE p l e R s m args below meth c Z bytes own nm maxL ret) (X : oX p l e R s m args below meth c Z T V cells slots) {k : Fin 4} {v : Value} (hd : decode bytes pc = .ok (.aload_n k, 1)) (hl : Ls[k.val]? = some (.val v)) (hv : v.isRef = true) (hp : pc + 1 = q) (G : oG p e below s Z R Ret T (mkF m q Ls (v :: st))) : oG p e below s Z R Ret T (mkF m pc Ls st) := by
  subst hp ; obtain ⟨_, _, _, _, _, Y, _⟩ := X; exact G.step fun t k => XS.aloadN Y.here E.1 rfl (hb E.2.2.2.1 hd) hl hv k
theorem gAload (E : oE p l e R s m args below meth c Z bytes own nm maxL ret) (X : oX p l e R s m args below meth c Z T V cells slots) {k : Nat} {v : Value} (hd : decode bytes pc = .ok (.aload k, 2)) (hl : Ls[k]? = some (.val v)) (hv : v.isRef = true) (hp : pc + 2 = q) (G : oG p e below s Z R Ret T (mkF m q Ls (v :: st))) : oG p e below s Z R Ret T (mkF m pc Ls st) := by
  subst hp ; obtain ⟨_, _, _, _, _, Y, _⟩ := X; exact G.step fun t k => XS.aload Y.here E.1 rfl (hb E.2.2.2.1 hd) hl hv k
theorem gIloadN (E : oE p l e R s m args below meth c Z bytes own nm maxL ret) (X : oX p l e R s m args below meth c Z T V cells slots) {k : Fin 4} {v : Int32} (hd : decode bytes pc = .ok (.iload_n k, 1)) (hl : Ls[k.val]? = some (.val (.int v))) (hp : pc + 1 = q) (G : oG p e below s Z R Ret T (mkF m q Ls (.int v :: st))) : oG p e below s Z R Ret T (mkF m pc Ls st) := by
  subst hp ; obtain ⟨_, _, _, _, _, Y, _⟩ := X; exact G.step fun t k => XS.iloadN Y.here E.1 rfl (hb E.2.2.2.1 hd) hl k
theorem gIload (E : oE p l e R s m args below meth c Z bytes own nm maxL ret) (X : oX p l e R s m args below meth c Z T V cells slots) {k : Nat} {v : Int32} (hd : decode bytes pc = .ok (.iload k, 2)) (hl : Ls[k]? = some (.val (.int v))) (hp : pc + 2 = q) (G : oG p e below s Z R Ret T (mkF m q Ls (.int v :: st))) : oG p e below s Z R Ret T (mkF m pc Ls st) := by
  subst hp ; obtain ⟨_, _, _, _, _, Y, _⟩ := X; exact G.step fun t k => XS.iload Y.here E.1 rfl (hb E.2.2.2.1 hd) hl k
theorem gLloadN (E : oE p l e R s m args below meth c Z bytes own nm maxL ret) (X : oX p l e R s m args below meth c Z T V cells slots) {k : Fin 4} {v : Int64} (hd : decode bytes pc = .ok (.lload_n k, 1)) (hl : Ls[k.val]? = some (.val (.long v))) (hp : pc + 1 = q) (G : oG p e below s Z R Ret T (mkF m q Ls (.long v :: st))) : oG p e below s Z R Ret T (mkF m pc Ls st) := by
  subst hp ; obtain ⟨_, _, _, _, _, Y, _⟩ := X; exact G.step fun t k => XT.lloadN Y.here E.1 rfl (hb E.2.2.2.1 hd) hl k
theorem gLload (E : oE p l e R s m args below meth c Z bytes own nm maxL ret) (X : oX p l e R s m args below meth c Z T V cells slots) {k : Nat} {v : Int64} (hd : decode bytes pc = .ok (.lload k, 2)) (hl : Ls[k]? = some (.val (.long v))) (hp : pc + 2 = q) (G : oG p e below s Z R Ret T (mkF m q Ls (.long v :: st))) : oG p e below s Z R Ret T (mkF m pc Ls st) := by
  subst hp ; obtain ⟨_, _, _, _, _, Y, _⟩ := X; exact G.step fun t k => XT.lload Y.here E.1 rfl (hb E.2.2.2.1 hd) hl k
theorem gIconst (E : oE p l e R s m args below meth c Z bytes own nm maxL ret) (X : oX p l e R s m args below meth c Z T V cells slots) {i : Int} {v : Int32} (hd : decode bytes pc = .ok (.iconst i, 1)) (hv : Int32.ofInt i = v) (hp : pc + 1 = q) (G : oG p e below s Z R Ret T (mkF m q Ls (.int v :: st))) : oG p e below s Z R Ret T (mkF m pc Ls st) := by
  subst hp ; obtain ⟨_, _, _, _, _, Y, _⟩ := X; exact G.step fun t k => XT.iconstV Y.here E.1 rfl v (hb E.2.2.2.1 hd) hv k
theorem gBipush (E : oE p l e R s m args below meth c Z bytes own nm maxL ret) (X : oX p l e R s m args below meth c Z T V cells slots) {i : Int} {v : Int32} (hd : decode bytes pc = .ok (.bipush i, 2)) (hv : (Int8.ofInt i).toInt32 = v) (hp : pc + 2 = q) (G : oG p e below s Z R Ret T (mkF m q Ls (.int v :: st))) : oG p e below s Z R Ret T (mkF m pc Ls st) := by
  subst hp ; obtain ⟨_, _, _, _, _, Y, _⟩ := X; exact G.step fun t k => XT.bipushV Y.here E.1 rfl v (hb E.2.2.2.1 hd) hv k
theorem gSipush (E : oE p l e R s m args below meth c Z bytes own nm maxL ret) (X : oX p l e R s m args below meth c Z T V cells slots) {i : Int} {v : Int32} (hd : decode bytes pc = .ok (.sipush i, 3)) (hv : (Int16.ofInt i).toInt32 = v) (hp : pc + 3 = q) (G : oG p e below s Z R Ret T (mkF m q Ls (.int v :: st))) : oG p e below s Z R Ret T (mkF m pc Ls st) := by
  subst hp ; obtain ⟨_, _, _, _, _, Y, _⟩ := X; exact G.step fun t k => XT.sipushV Y.here E.1 rfl v (hb E.2.2.2.1 hd) hv k
theorem gLconst (E : oE p l e R s m args below meth c Z bytes own nm maxL ret) (X : oX p l e R s m args below meth c Z T V cells slots) {i : Fin 2} {v : Int64} (hd : decode bytes pc = .ok (.lconst i, 1)) (hv : Int64.ofNat i = v) (hp : pc + 1 = q) (G : oG p e below s Z R Ret T (mkF m q Ls (.long v :: st))) : oG p e below s Z R Ret T (mkF m pc Ls st) := by
  subst hp ; obtain ⟨_, _, _, _, _, Y, _⟩ := X; exact G.step fun t k => XT.lconstV Y.here E.1 rfl v (hb E.2.2.2.1 hd) hv k
theorem gNull (E : oE p l e R s m args below meth c Z bytes own nm maxL ret) (X : oX p l e R s m args below meth c Z T V cells slots)  (hd : decode bytes pc = .ok (.aconst_null, 1))  (hp : pc + 1 = q) (G : oG p e below s Z R Ret T (mkF m q Ls (.null :: st))) : oG p e below s Z R Ret T (mkF m pc Ls st) := by
  subst hp ; obtain ⟨_, _, _, _, _, Y, _⟩ := X; exact G.step fun t k => XS.aconstNull Y.here E.1 rfl (hb E.2.2.2.1 hd) k
theorem gIadd (E : oE p l e R s m args below meth c Z bytes own nm maxL ret) (X : oX p l e R s m args below meth c Z T V cells slots) {x y z : Int32} (hd : decode bytes pc = .ok (.iadd, 1)) (hz : (x + y) = z) (hp : pc + 1 = q) (G : oG p e below s Z R Ret T (mkF m q Ls (.int z :: st))) : oG p e below s Z R Ret T (mkF m pc Ls (.int y :: .int x :: st)) := by
  subst hp hz; obtain ⟨_, _, _, _, _, Y, _⟩ := X; exact G.step fun t k => XS.iadd Y.here E.1 rfl (hb E.2.2.2.1 hd) rfl k
theorem gIsub (E : oE p l e R s m args below meth c Z bytes own nm maxL ret) (X : oX p l e R s m args below meth c Z T V cells slots) {x y z : Int32} (hd : decode bytes pc = .ok (.isub, 1)) (hz : (x - y) = z) (hp : pc + 1 = q) (G : oG p e below s Z R Ret T (mkF m q Ls (.int z :: st))) : oG p e below s Z R Ret T (mkF m pc Ls (.int y :: .int x :: st)) := by
  subst hp hz; obtain ⟨_, _, _, _, _, Y, _⟩ := X; exact G.step fun t k => XS.isub Y.here E.1 rfl (hb E.2.2.2.1 hd) rfl k
theorem gIand (E : oE p l e R s m args below meth c Z bytes own nm maxL ret) (X : oX p l e R s m args below meth c Z T V cells slots) {x y z : Int32} (hd : decode bytes pc = .ok (.iand, 1)) (hz : (x &&& y) = z) (hp : pc + 1 = q) (G : oG p e below s Z R Ret T (mkF m q Ls (.int z :: st))) : oG p e below s Z R Ret T (mkF m pc Ls (.int y :: .int x :: st)) := by
  subst hp hz; obtain ⟨_, _, _, _, _, Y, _⟩ := X; exact G.step fun t k => XS.iand Y.here E.1 rfl (hb E.2.2.2.1 hd) rfl k
theorem gImul (E : oE p l e R s m args below meth c Z bytes own nm maxL ret) (X : oX p l e R s m args below meth c Z T V cells slots) {x y z : Int32} (hd : decode bytes pc = .ok (.imul, 1)) (hz : (x * y) = z) (hp : pc + 1 = q) (G : oG p e below s Z R Ret T (mkF m q Ls (.int z :: st))) : oG p e below s Z R Ret T (mkF m pc Ls (.int y :: .int x :: st)) := by
  subst hp hz; obtain ⟨_, _, _, _, _, Y, _⟩ := X; exact G.step fun t k => XS.imul Y.here E.1 rfl (hb E.2.2.2.1 hd) rfl k
theorem gIxor (E : oE p l e R s m args below meth c Z bytes own nm maxL ret) (X : oX p l e R s m args below meth c Z T V cells slots) {x y z : Int32} (hd : decode bytes pc = .ok (.ixor, 1)) (hz : (x ^^^ y) = z) (hp : pc + 1 = q) (G : oG p e below s Z R Ret T (mkF m q Ls (.int z :: st))) : oG p e below s Z R Ret T (mkF m pc Ls (.int y :: .int x :: st)) := by
  subst hp hz; obtain ⟨_, _, _, _, _, Y, _⟩ := X; exact G.step fun t k => XT.ixor Y.here E.1 rfl (hb E.2.2.2.1 hd) rfl k
theorem gIor (E : oE p l e R s m args below meth c Z bytes own nm maxL ret) (X : oX p l e R s m args below meth c Z T V cells slots) {x y z : Int32} (hd : decode bytes pc = .ok (.ior, 1)) (hz : (x ||| y) = z) (hp : pc + 1 = q) (G : oG p e below s Z R Ret T (mkF m q Ls (.int z :: st))) : oG p e below s Z R Ret T (mkF m pc Ls (.int y :: .int x :: st)) := by
  subst hp hz; obtain ⟨_, _, _, _, _, Y, _⟩ := X; exact G.step fun t k => XT.ior Y.here E.1 rfl (hb E.2.2.2.1 hd) rfl k
theorem gIshl (E : oE p l e R s m args below meth c Z bytes own nm maxL ret) (X : oX p l e R s m args below meth c Z T V cells slots) {x y z : Int32} (hd : decode bytes pc = .ok (.ishl, 1)) (hz : (x <<< (y &&& 31)) = z) (hp : pc + 1 = q) (G : oG p e below s Z R Ret T (mkF m q Ls (.int z :: st))) : oG p e below s Z R Ret T (mkF m pc Ls (.int y :: .int x :: st)) := by
  subst hp hz; obtain ⟨_, _, _, _, _, Y, _⟩ := X; exact G.step fun t k => XT.ishl Y.here E.1 rfl (hb E.2.2.2.1 hd) rfl k
theorem gIshr (E : oE p l e R s m args below meth c Z bytes own nm maxL ret) (X : oX p l e R s m args below meth c Z T V cells slots) {x y z : Int32} (hd : decode bytes pc = .ok (.ishr, 1)) (hz : (x >>> (y &&& 31)) = z) (hp : pc + 1 = q) (G : oG p e below s Z R Ret T (mkF m q Ls (.int z :: st))) : oG p e below s Z R Ret T (mkF m pc Ls (.int y :: .int x :: st)) := by
  subst hp hz; obtain ⟨_, _, _, _, _, Y, _⟩ := X; exact G.step fun t k => XT.ishr Y.here E.1 rfl (hb E.2.2.2.1 hd) rfl k
theorem gIushr (E : oE p l e R s m args below meth c Z bytes own nm maxL ret) (X : oX p l e R s m args below meth c Z T V cells slots) {x y z : Int32} (hd : decode bytes pc = .ok (.iushr, 1)) (hz : (XT.ushr x y) = z) (hp : pc + 1 = q) (G : oG p e below s Z R Ret T (mkF m q Ls (.int z :: st))) : oG p e below s Z R Ret T (mkF m pc Ls (.int y :: .int x :: st)) := by
  subst hp hz; obtain ⟨_, _, _, _, _, Y, _⟩ := X; exact G.step fun t k => XT.iushr Y.here E.1 rfl (hb E.2.2.2.1 hd) rfl k
theorem gIdiv (E : oE p l e R s m args below meth c Z bytes own nm maxL ret) (X : oX p l e R s m args below meth c Z T V cells slots) {x y z : Int32} (hd : decode bytes pc = .ok (.idiv, 1)) (hy : y ≠ 0) (hz : (x / y) = z) (hp : pc + 1 = q) (G : oG p e below s Z R Ret T (mkF m q Ls (.int z :: st))) : oG p e below s Z R Ret T (mkF m pc Ls (.int y :: .int x :: st)) := by
  subst hp hz; obtain ⟨_, _, _, _, _, Y, _⟩ := X; exact G.step fun t k => XS.idiv Y.here E.1 rfl (hb E.2.2.2.1 hd) rfl hy k
theorem gIrem (E : oE p l e R s m args below meth c Z bytes own nm maxL ret) (X : oX p l e R s m args below meth c Z T V cells slots) {x y z : Int32} (hd : decode bytes pc = .ok (.irem, 1)) (hy : y ≠ 0) (hz : (x - x / y * y) = z) (hp : pc + 1 = q) (G : oG p e below s Z R Ret T (mkF m q Ls (.int z :: st))) : oG p e below s Z R Ret T (mkF m pc Ls (.int y :: .int x :: st)) := by
  subst hp hz; obtain ⟨_, _, _, _, _, Y, _⟩ := X; exact G.step fun t k => XS.irem Y.here E.1 rfl (hb E.2.2.2.1 hd) rfl hy k
theorem gIneg (E : oE p l e R s m args below meth c Z bytes own nm maxL ret) (X : oX p l e R s m args below meth c Z T V cells slots) {x z : Int32} (hd : decode bytes pc = .ok (.ineg, 1)) (hz : (-x) = z) (hp : pc + 1 = q) (G : oG p e below s Z R Ret T (mkF m q Ls (.int z :: st))) : oG p e below s Z R Ret T (mkF m pc Ls (.int x :: st)) := by
  subst hp hz; obtain ⟨_, _, _, _, _, Y, _⟩ := X; exact G.step fun t k => XS.ineg Y.here E.1 rfl (hb E.2.2.2.1 hd) rfl k
theorem gLadd (E : oE p l e R s m args below meth c Z bytes own nm maxL ret) (X : oX p l e R s m args below meth c Z T V cells slots) {x y z : Int64} (hd : decode bytes pc = .ok (.ladd, 1)) (hz : (x + y) = z) (hp : pc + 1 = q) (G : oG p e below s Z R Ret T (mkF m q Ls (.long z :: st))) : oG p e below s Z R Ret T (mkF m pc Ls (.long y :: .long x :: st)) := by
  subst hp hz; obtain ⟨_, _, _, _, _, Y, _⟩ := X; exact G.step fun t k => XT.ladd Y.here E.1 rfl (hb E.2.2.2.1 hd) rfl k
theorem gLsub (E : oE p l e R s m args below meth c Z bytes own nm maxL ret) (X : oX p l e R s m args below meth c Z T V cells slots) {x y z : Int64} (hd : decode bytes pc = .ok (.lsub, 1)) (hz : (x - y) = z) (hp : pc + 1 = q) (G : oG p e below s Z R Ret T (mkF m q Ls (.long z :: st))) : oG p e below s Z R Ret T (mkF m pc Ls (.long y :: .long x :: st)) := by
  subst hp hz; obtain ⟨_, _, _, _, _, Y, _⟩ := X; exact G.step fun t k => XT.lsub Y.here E.1 rfl (hb E.2.2.2.1 hd) rfl k
theorem gLmul (E : oE p l e R s m args below meth c Z bytes own nm maxL ret) (X : oX p l e R s m args below meth c Z T V cells slots) {x y z : Int64} (hd : decode bytes pc = .ok (.lmul, 1)) (hz : (x * y) = z) (hp : pc + 1 = q) (G : oG p e below s Z R Ret T (mkF m q Ls (.long z :: st))) : oG p e below s Z R Ret T (mkF m pc Ls (.long y :: .long x :: st)) := by
  subst hp hz; obtain ⟨_, _, _, _, _, Y, _⟩ := X; exact G.step fun t k => XT.lmul Y.here E.1 rfl (hb E.2.2.2.1 hd) rfl k
theorem gLand (E : oE p l e R s m args below meth c Z bytes own nm maxL ret) (X : oX p l e R s m args below meth c Z T V cells slots) {x y z : Int64} (hd : decode bytes pc = .ok (.land, 1)) (hz : (x &&& y) = z) (hp : pc + 1 = q) (G : oG p e below s Z R Ret T (mkF m q Ls (.long z :: st))) : oG p e below s Z R Ret T (mkF m pc Ls (.long y :: .long x :: st)) := by
  subst hp hz; obtain ⟨_, _, _, _, _, Y, _⟩ := X; exact G.step fun t k => XT.land Y.here E.1 rfl (hb E.2.2.2.1 hd) rfl k
theorem gLor (E : oE p l e R s m args below meth c Z bytes own nm maxL ret) (X : oX p l e R s m args below meth c Z T V cells slots) {x y z : Int64} (hd : decode bytes pc = .ok (.lor, 1)) (hz : (x ||| y) = z) (hp : pc + 1 = q) (G : oG p e below s Z R Ret T (mkF m q Ls (.long z :: st))) : oG p e below s Z R Ret T (mkF m pc Ls (.long y :: .long x :: st)) := by
  subst hp hz; obtain ⟨_, _, _, _, _, Y, _⟩ := X; exact G.step fun t k => XT.lor Y.here E.1 rfl (hb E.2.2.2.1 hd) rfl k
theorem gLxor (E : oE p l e R s m args below meth c Z bytes own nm maxL ret) (X : oX p l e R s m args below meth c Z T V cells slots) {x y z : Int64} (hd : decode bytes pc = .ok (.lxor, 1)) (hz : (x ^^^ y) = z) (hp : pc + 1 = q) (G : oG p e below s Z R Ret T (mkF m q Ls (.long z :: st))) : oG p e below s Z R Ret T (mkF m pc Ls (.long y :: .long x :: st)) := by
  subst hp hz; obtain ⟨_, _, _, _, _, Y, _⟩ := X; exact G.step fun t k => XT.lxor Y.here E.1 rfl (hb E.2.2.2.1 hd) rfl k
theorem gLdiv (E : oE p l e R s m args below meth c Z bytes own nm maxL ret) (X : oX p l e R s m args below meth c Z T V cells slots) {x y z : Int64} (hd : decode bytes pc = .ok (.ldiv, 1)) (hy : y ≠ 0) (hz : (x / y) = z) (hp : pc + 1 = q) (G : oG p e below s Z R Ret T (mkF m q Ls (.long z :: st))) : oG p e below s Z R Ret T (mkF m pc Ls (.long y :: .long x :: st)) := by
  subst hp hz; obtain ⟨_, _, _, _, _, Y, _⟩ := X; exact G.step fun t k => XT.ldiv Y.here E.1 rfl (hb E.2.2.2.1 hd) rfl hy k
theorem gLrem (E : oE p l e R s m args below meth c Z bytes own nm maxL ret) (X : oX p l e R s m args below meth c Z T V cells slots) {x y z : Int64} (hd : decode bytes pc = .ok (.lrem, 1)) (hy : y ≠ 0) (hz : (x - x / y * y) = z) (hp : pc + 1 = q) (G : oG p e below s Z R Ret T (mkF m q Ls (.long z :: st))) : oG p e below s Z R Ret T (mkF m pc Ls (.long y :: .long x :: st)) := by
  subst hp hz; obtain ⟨_, _, _, _, _, Y, _⟩ := X; exact G.step fun t k => XT.lrem Y.here E.1 rfl (hb E.2.2.2.1 hd) rfl hy k
theorem gLneg (E : oE p l e R s m args below meth c Z bytes own nm maxL ret) (X : oX p l e R s m args below meth c Z T V cells slots) {x z : Int64} (hd : decode bytes pc = .ok (.lneg, 1)) (hz : (-x) = z) (hp : pc + 1 = q) (G : oG p e below s Z R Ret T (mkF m q Ls (.long z :: st))) : oG p e below s Z R Ret T (mkF m pc Ls (.long x :: st)) := by
  subst hp hz; obtain ⟨_, _, _, _, _, Y, _⟩ := X; exact G.step fun t k => XT.lneg Y.here E.1 rfl (hb E.2.2.2.1 hd) rfl k
theorem gLshl (E : oE p l e R s m args below meth c Z bytes own nm maxL ret) (X : oX p l e R s m args below meth c Z T V cells slots) {x z : Int64} {y : Int32} (hd : decode bytes pc = .ok (.lshl, 1)) (hz : (x <<< (y.toInt64 &&& 63)) = z) (hp : pc + 1 = q) (G : oG p e below s Z R Ret T (mkF m q Ls (.long z :: st))) : oG p e below s Z R Ret T (mkF m pc Ls (.int y :: .long x :: st)) := by
  subst hp hz; obtain ⟨_, _, _, _, _, Y, _⟩ := X; exact G.step fun t k => XT.lshl Y.here E.1 rfl (hb E.2.2.2.1 hd) rfl k
theorem gLshr (E : oE p l e R s m args below meth c Z bytes own nm maxL ret) (X : oX p l e R s m args below meth c Z T V cells slots) {x z : Int64} {y : Int32} (hd : decode bytes pc = .ok (.lshr, 1)) (hz : (x >>> (y.toInt64 &&& 63)) = z) (hp : pc + 1 = q) (G : oG p e below s Z R Ret T (mkF m q Ls (.long z :: st))) : oG p e below s Z R Ret T (mkF m pc Ls (.int y :: .long x :: st)) := by
  subst hp hz; obtain ⟨_, _, _, _, _, Y, _⟩ := X; exact G.step fun t k => XT.lshr Y.here E.1 rfl (hb E.2.2.2.1 hd) rfl k
theorem gLushr (E : oE p l e R s m args below meth c Z bytes own nm maxL ret) (X : oX p l e R s m args below meth c Z T V cells slots) {x z : Int64} {y : Int32} (hd : decode bytes pc = .ok (.lushr, 1)) (hz : (XT.ushrL x y) = z) (hp : pc + 1 = q) (G : oG p e below s Z R Ret T (mkF m q Ls (.long z :: st))) : oG p e below s Z R Ret T (mkF m pc Ls (.int y :: .long x :: st)) := by
  subst hp hz; obtain ⟨_, _, _, _, _, Y, _⟩ := X; exact G.step fun t k => XT.lushr Y.here E.1 rfl (hb E.2.2.2.1 hd) rfl k
theorem gLcmp (E : oE p l e R s m args below meth c Z bytes own nm maxL ret) (X : oX p l e R s m args below meth c Z T V cells slots) {x y : Int64} (hd : decode bytes pc = .ok (.lcmp, 1))  (hp : pc + 1 = q) (G : oG p e below s Z R Ret T (mkF m q Ls (.int (XT.cmpL x y) :: st))) : oG p e below s Z R Ret T (mkF m pc Ls (.long y :: .long x :: st)) := by
  subst hp ; obtain ⟨_, _, _, _, _, Y, _⟩ := X; exact G.step fun t k => XT.lcmp Y.here E.1 rfl (hb E.2.2.2.1 hd) rfl k
theorem gI2l (E : oE p l e R s m args below meth c Z bytes own nm maxL ret) (X : oX p l e R s m args below meth c Z T V cells slots) {x : Int32} {z : Int64} (hd : decode bytes pc = .ok (.i2l, 1)) (hz : x.toInt64 = z) (hp : pc + 1 = q) (G : oG p e below s Z R Ret T (mkF m q Ls (.long z :: st))) : oG p e below s Z R Ret T (mkF m pc Ls (.int x :: st)) := by
  subst hp hz; obtain ⟨_, _, _, _, _, Y, _⟩ := X; exact G.step fun t k => XT.i2l Y.here E.1 rfl (hb E.2.2.2.1 hd) rfl k
theorem gL2i (E : oE p l e R s m args below meth c Z bytes own nm maxL ret) (X : oX p l e R s m args below meth c Z T V cells slots) {x : Int64} {z : Int32} (hd : decode bytes pc = .ok (.l2i, 1)) (hz : x.toInt32 = z) (hp : pc + 1 = q) (G : oG p e below s Z R Ret T (mkF m q Ls (.int z :: st))) : oG p e below s Z R Ret T (mkF m pc Ls (.long x :: st)) := by
  subst hp hz; obtain ⟨_, _, _, _, _, Y, _⟩ := X; exact G.step fun t k => XT.l2i Y.here E.1 rfl (hb E.2.2.2.1 hd) rfl k
theorem gI2b (E : oE p l e R s m args below meth c Z bytes own nm maxL ret) (X : oX p l e R s m args below meth c Z T V cells slots) {x z : Int32} (hd : decode bytes pc = .ok (.i2b, 1)) (hz : x.toInt8.toInt32 = z) (hp : pc + 1 = q) (G : oG p e below s Z R Ret T (mkF m q Ls (.int z :: st))) : oG p e below s Z R Ret T (mkF m pc Ls (.int x :: st)) := by
  subst hp hz; obtain ⟨_, _, _, _, _, Y, _⟩ := X; exact G.step fun t k => XT.i2b Y.here E.1 rfl (hb E.2.2.2.1 hd) rfl k
theorem gI2c (E : oE p l e R s m args below meth c Z bytes own nm maxL ret) (X : oX p l e R s m args below meth c Z T V cells slots) {x z : Int32} (hd : decode bytes pc = .ok (.i2c, 1)) (hz : x.toUInt32.toUInt16.toUInt32.toInt32 = z) (hp : pc + 1 = q) (G : oG p e below s Z R Ret T (mkF m q Ls (.int z :: st))) : oG p e below s Z R Ret T (mkF m pc Ls (.int x :: st)) := by
  subst hp hz; obtain ⟨_, _, _, _, _, Y, _⟩ := X; exact G.step fun t k => XT.i2c Y.here E.1 rfl (hb E.2.2.2.1 hd) rfl k
theorem gI2s (E : oE p l e R s m args below meth c Z bytes own nm maxL ret) (X : oX p l e R s m args below meth c Z T V cells slots) {x z : Int32} (hd : decode bytes pc = .ok (.i2s, 1)) (hz : x.toInt16.toInt32 = z) (hp : pc + 1 = q) (G : oG p e below s Z R Ret T (mkF m q Ls (.int z :: st))) : oG p e below s Z R Ret T (mkF m pc Ls (.int x :: st)) := by
  subst hp hz; obtain ⟨_, _, _, _, _, Y, _⟩ := X; exact G.step fun t k => XT.i2s Y.here E.1 rfl (hb E.2.2.2.1 hd) rfl k
theorem gDup (E : oE p l e R s m args below meth c Z bytes own nm maxL ret) (X : oX p l e R s m args below meth c Z T V cells slots) {v : Value} (hd : decode bytes pc = .ok (.dup, 1)) (hc : v.category = 1) (hp : pc + 1 = q) (G : oG p e below s Z R Ret T (mkF m q Ls (v :: v :: st))) : oG p e below s Z R Ret T (mkF m pc Ls (v :: st)) := by
  subst hp ; obtain ⟨_, _, _, _, _, Y, _⟩ := X; exact G.step fun t k => XS.dup Y.here E.1 rfl (hb E.2.2.2.1 hd) rfl hc k
theorem gPop (E : oE p l e R s m args below meth c Z bytes own nm maxL ret) (X : oX p l e R s m args below meth c Z T V cells slots) {v : Value} (hd : decode bytes pc = .ok (.pop, 1)) (hc : v.category = 1) (hp : pc + 1 = q) (G : oG p e below s Z R Ret T (mkF m q Ls st)) : oG p e below s Z R Ret T (mkF m pc Ls (v :: st)) := by
  subst hp ; obtain ⟨_, _, _, _, _, Y, _⟩ := X; exact G.step fun t k => XT.pop Y.here E.1 rfl (hb E.2.2.2.1 hd) rfl hc k
theorem gDupX1 (E : oE p l e R s m args below meth c Z bytes own nm maxL ret) (X : oX p l e R s m args below meth c Z T V cells slots) {v w : Value} (hd : decode bytes pc = .ok (.dup_x1, 1)) (hc : v.category = 1) (hc' : w.category = 1) (hp : pc + 1 = q) (G : oG p e below s Z R Ret T (mkF m q Ls (v :: w :: v :: st))) : oG p e below s Z R Ret T (mkF m pc Ls (v :: w :: st)) := by
  subst hp ; obtain ⟨_, _, _, _, _, Y, _⟩ := X; exact G.step fun t k => XT.dupX1 Y.here E.1 rfl (hb E.2.2.2.1 hd) rfl hc hc' k
theorem gDup2 (E : oE p l e R s m args below meth c Z bytes own nm maxL ret) (X : oX p l e R s m args below meth c Z T V cells slots) {v w : Value} (hd : decode bytes pc = .ok (.dup2, 1)) (hc : v.category = 1) (hc' : w.category = 1) (hp : pc + 1 = q) (G : oG p e below s Z R Ret T (mkF m q Ls (v :: w :: v :: w :: st))) : oG p e below s Z R Ret T (mkF m pc Ls (v :: w :: st)) := by
  subst hp ; obtain ⟨_, _, _, _, _, Y, _⟩ := X; exact G.step fun t k => XT.dup2 Y.here E.1 rfl (hb E.2.2.2.1 hd) rfl hc hc' k
theorem gDup2L (E : oE p l e R s m args below meth c Z bytes own nm maxL ret) (X : oX p l e R s m args below meth c Z T V cells slots) {x : Int64} (hd : decode bytes pc = .ok (.dup2, 1))  (hp : pc + 1 = q) (G : oG p e below s Z R Ret T (mkF m q Ls (.long x :: .long x :: st))) : oG p e below s Z R Ret T (mkF m pc Ls (.long x :: st)) := by
  subst hp ; obtain ⟨_, _, _, _, _, Y, _⟩ := X; exact G.step fun t k => XT.dup2L Y.here E.1 rfl (hb E.2.2.2.1 hd) rfl k
theorem gIstoreN (E : oE p l e R s m args below meth c Z bytes own nm maxL ret) (X : oX p l e R s m args below meth c Z T V cells slots) {k : Fin 4} {x : Int32} {l' : Array Slot} (hd : decode bytes pc = .ok (.istore_n k, 1)) (hl : storeLocals Ls k.val (.int x) = some l') (hp : pc + 1 = q) (G : oG p e below s Z R Ret T (mkF m q l' st)) : oG p e below s Z R Ret T (mkF m pc Ls (.int x :: st)) := by
  subst hp ; obtain ⟨_, _, _, _, _, Y, _⟩ := X; exact G.step fun t k => XS.istoreN Y.here E.1 rfl (hb E.2.2.2.1 hd) rfl hl k
theorem gIstore (E : oE p l e R s m args below meth c Z bytes own nm maxL ret) (X : oX p l e R s m args below meth c Z T V cells slots) {k : Nat} {x : Int32} {l' : Array Slot} (hd : decode bytes pc = .ok (.istore k, 2)) (hl : storeLocals Ls k (.int x) = some l') (hp : pc + 2 = q) (G : oG p e below s Z R Ret T (mkF m q l' st)) : oG p e below s Z R Ret T (mkF m pc Ls (.int x :: st)) := by
  subst hp ; obtain ⟨_, _, _, _, _, Y, _⟩ := X; exact G.step fun t k => XS.istore Y.here E.1 rfl (hb E.2.2.2.1 hd) rfl hl k
theorem gLstoreN (E : oE p l e R s m args below meth c Z bytes own nm maxL ret) (X : oX p l e R s m args below meth c Z T V cells slots) {k : Fin 4} {x : Int64} {l' : Array Slot} (hd : decode bytes pc = .ok (.lstore_n k, 1)) (hl : storeLocals Ls k.val (.long x) = some l') (hp : pc + 1 = q) (G : oG p e below s Z R Ret T (mkF m q l' st)) : oG p e below s Z R Ret T (mkF m pc Ls (.long x :: st)) := by
  subst hp ; obtain ⟨_, _, _, _, _, Y, _⟩ := X; exact G.step fun t k => XT.lstoreN Y.here E.1 rfl (hb E.2.2.2.1 hd) rfl hl k
theorem gLstore (E : oE p l e R s m args below meth c Z bytes own nm maxL ret) (X : oX p l e R s m args below meth c Z T V cells slots) {k : Nat} {x : Int64} {l' : Array Slot} (hd : decode bytes pc = .ok (.lstore k, 2)) (hl : storeLocals Ls k (.long x) = some l') (hp : pc + 2 = q) (G : oG p e below s Z R Ret T (mkF m q l' st)) : oG p e below s Z R Ret T (mkF m pc Ls (.long x :: st)) := by
  subst hp ; obtain ⟨_, _, _, _, _, Y, _⟩ := X; exact G.step fun t k => XT.lstore Y.here E.1 rfl (hb E.2.2.2.1 hd) rfl hl k
theorem gAstoreN (E : oE p l e R s m args below meth c Z bytes own nm maxL ret) (X : oX p l e R s m args below meth c Z T V cells slots) {k : Fin 4} {v : Value} {l' : Array Slot} (hd : decode bytes pc = .ok (.astore_n k, 1)) (hv : v.isRef = true) (hl : storeLocals Ls k.val v = some l') (hp : pc + 1 = q) (G : oG p e below s Z R Ret T (mkF m q l' st)) : oG p e below s Z R Ret T (mkF m pc Ls (v :: st)) := by
  subst hp ; obtain ⟨_, _, _, _, _, Y, _⟩ := X; exact G.step fun t k => XS.astoreN Y.here E.1 rfl (hb E.2.2.2.1 hd) rfl hv hl k
theorem gAstore (E : oE p l e R s m args below meth c Z bytes own nm maxL ret) (X : oX p l e R s m args below meth c Z T V cells slots) {k : Nat} {v : Value} {l' : Array Slot} (hd : decode bytes pc = .ok (.astore k, 2)) (hv : v.isRef = true) (hl : storeLocals Ls k v = some l') (hp : pc + 2 = q) (G : oG p e below s Z R Ret T (mkF m q l' st)) : oG p e below s Z R Ret T (mkF m pc Ls (v :: st)) := by
  subst hp ; obtain ⟨_, _, _, _, _, Y, _⟩ := X; exact G.step fun t k => XS.astore Y.here E.1 rfl (hb E.2.2.2.1 hd) rfl hv hl k
theorem gIinc (E : oE p l e R s m args below meth c Z bytes own nm maxL ret) (X : oX p l e R s m args below meth c Z T V cells slots) {k : Nat} {cst : Int} {x : Int32} {l' : Array Slot} (v : Int32) (hd : decode bytes pc = .ok (.iinc k cst, 3)) (hv : Int32.ofInt cst = v) (hl : Ls[k]? = some (.val (.int x))) (hl' : storeLocals Ls k (.int (x + v)) = some l') (hp : pc + 3 = q) (G : oG p e below s Z R Ret T (mkF m q l' st)) : oG p e below s Z R Ret T (mkF m pc Ls st) := by
  subst hp ; obtain ⟨_, _, _, _, _, Y, _⟩ := X; exact G.step fun t k => XT.iincV Y.here E.1 rfl v (hb E.2.2.2.1 hd) hv hl hl' k
theorem gIincV (E : oE p l e R s m args below meth c Z bytes own nm maxL ret) (X : oX p l e R s m args below meth c Z T V cells slots) {k : Nat} {cst : Int} {x : Int32} {l' : Array Slot} (v z : Int32) (hd : decode bytes pc = .ok (.iinc k cst, 3)) (hv : Int32.ofInt cst = v) (hl : Ls[k]? = some (.val (.int x))) (hz : x + v = z) (hl' : storeLocals Ls k (.int z) = some l') (hp : pc + 3 = q) (G : oG p e below s Z R Ret T (mkF m q l' st)) : oG p e below s Z R Ret T (mkF m pc Ls st) := by
  subst hp hz; obtain ⟨_, _, _, _, _, Y, _⟩ := X; exact G.step fun t k => XT.iincV Y.here E.1 rfl v (hb E.2.2.2.1 hd) hv hl hl' k
theorem gGoto (E : oE p l e R s m args below meth c Z bytes own nm maxL ret) (X : oX p l e R s m args below meth c Z T V cells slots) {o : Int} (hd : decode bytes pc = .ok (.goto o, 3)) (ho : 0 ≤ (pc : Int) + o) (hp : ((pc : Int) + o).toNat = q) (G : oG p e below s Z R Ret T (mkF m q Ls st)) : oG p e below s Z R Ret T (mkF m pc Ls st) := by
  obtain ⟨_, _, _, _, _, Y, _⟩ := X; exact G.step fun t k => XS.goto Y.here E.1 rfl (pc0 := pc) rfl (hb E.2.2.2.1 hd) ho hp k
theorem gIc_eq (E : oE p l e R s m args below meth c Z bytes own nm maxL ret) (X : oX p l e R s m args below meth c Z T V cells slots) {x y : Int32} {o : Int} {q' : Nat} (hd : decode bytes pc = .ok (.if_icmp .eq o, 3)) (ho : 0 ≤ (pc : Int) + o) (hp : ((pc : Int) + o).toNat = q) (hp' : pc + 3 = q') (G1 : x = y → oG p e below s Z R Ret T (mkF m q Ls st)) (G0 : ¬ (x = y) → oG p e below s Z R Ret T (mkF m q' Ls st)) : oG p e below s Z R Ret T (mkF m pc Ls (.int y :: .int x :: st)) := by
  obtain ⟨_, _, _, _, _, Y, _⟩ := X
  by_cases hq : x = y
  · exact (G1 hq).step fun t k => XS.icmpYes Y.here E.1 rfl (pc0 := pc) rfl (hb E.2.2.2.1 hd) rfl (XT.ii_eq_t hq) ho hp k
  · subst hp'; exact (G0 hq).step fun t k => XS.icmpNo Y.here E.1 rfl (hb E.2.2.2.1 hd) rfl (XT.ii_eq_f hq) k
theorem gIf_eq (E : oE p l e R s m args below meth c Z bytes own nm maxL ret) (X : oX p l e R s m args below meth c Z T V cells slots) {x : Int32} {o : Int} {q' : Nat} (hd : decode bytes pc = .ok (.ifCond .eq o, 3)) (ho : 0 ≤ (pc : Int) + o) (hp : ((pc : Int) + o).toNat = q) (hp' : pc + 3 = q') (G1 : x = 0 → oG p e below s Z R Ret T (mkF m q Ls st)) (G0 : ¬ (x = 0) → oG p e below s Z R Ret T (mkF m q' Ls st)) : oG p e below s Z R Ret T (mkF m pc Ls (.int x :: st)) := by
  obtain ⟨_, _, _, _, _, Y, _⟩ := X
  by_cases hq : x = 0
  · exact (G1 hq).step fun t k => XS.ifYes Y.here E.1 rfl (pc0 := pc) rfl (hb E.2.2.2.1 hd) rfl (XT.i0_eq_t hq) ho hp k
  · subst hp'; exact (G0 hq).step fun t k => XS.ifNo Y.here E.1 rfl (hb E.2.2.2.1 hd) rfl (XT.i0_eq_f hq) k
theorem gLc_eq (E : oE p l e R s m args below meth c Z bytes own nm maxL ret) (X : oX p l e R s m args below meth c Z T V cells slots) {x y : Int64} {o : Int} {q' : Nat} (hd : decode bytes pc = .ok (.ifCond .eq o, 3)) (ho : 0 ≤ (pc : Int) + o) (hp : ((pc : Int) + o).toNat = q) (hp' : pc + 3 = q') (G1 : x = y → oG p e below s Z R Ret T (mkF m q Ls st)) (G0 : ¬ (x = y) → oG p e below s Z R Ret T (mkF m q' Ls st)) : oG p e below s Z R Ret T (mkF m pc Ls (.int (XT.cmpL x y) :: st)) := by
  obtain ⟨_, _, _, _, _, Y, _⟩ := X
  by_cases hq : x = y
  · exact (G1 hq).step fun t k => XS.ifYes Y.here E.1 rfl (pc0 := pc) rfl (hb E.2.2.2.1 hd) rfl (XT.ll_eq_t hq) ho hp k
  · subst hp'; exact (G0 hq).step fun t k => XS.ifNo Y.here E.1 rfl (hb E.2.2.2.1 hd) rfl (XT.ll_eq_f hq) k
theorem gIc_ne (E : oE p l e R s m args below meth c Z bytes own nm maxL ret) (X : oX p l e R s m args below meth c Z T V cells slots) {x y : Int32} {o : Int} {q' : Nat} (hd : decode bytes pc = .ok (.if_icmp .ne o, 3)) (ho : 0 ≤ (pc : Int) + o) (hp : ((pc : Int) + o).toNat = q) (hp' : pc + 3 = q') (G1 : ¬ (x = y) → oG p e below s Z R Ret T (mkF m q Ls st)) (G0 : x = y → oG p e below s Z R Ret T (mkF m q' Ls st)) : oG p e below s Z R Ret T (mkF m pc Ls (.int y :: .int x :: st)) := by
  obtain ⟨_, _, _, _, _, Y, _⟩ := X
  by_cases hq : x = y
  · subst hp'; exact (G0 hq).step fun t k => XS.icmpNo Y.here E.1 rfl (hb E.2.2.2.1 hd) rfl (XT.ii_ne_f hq) k
  · exact (G1 hq).step fun t k => XS.icmpYes Y.here E.1 rfl (pc0 := pc) rfl (hb E.2.2.2.1 hd) rfl (XT.ii_ne_t hq) ho hp k
theorem gIf_ne (E : oE p l e R s m args below meth c Z bytes own nm maxL ret) (X : oX p l e R s m args below meth c Z T V cells slots) {x : Int32} {o : Int} {q' : Nat} (hd : decode bytes pc = .ok (.ifCond .ne o, 3)) (ho : 0 ≤ (pc : Int) + o) (hp : ((pc : Int) + o).toNat = q) (hp' : pc + 3 = q') (G1 : ¬ (x = 0) → oG p e below s Z R Ret T (mkF m q Ls st)) (G0 : x = 0 → oG p e below s Z R Ret T (mkF m q' Ls st)) : oG p e below s Z R Ret T (mkF m pc Ls (.int x :: st)) := by
  obtain ⟨_, _, _, _, _, Y, _⟩ := X
  by_cases hq : x = 0
  · subst hp'; exact (G0 hq).step fun t k => XS.ifNo Y.here E.1 rfl (hb E.2.2.2.1 hd) rfl (XT.i0_ne_f hq) k
  · exact (G1 hq).step fun t k => XS.ifYes Y.here E.1 rfl (pc0 := pc) rfl (hb E.2.2.2.1 hd) rfl (XT.i0_ne_t hq) ho hp k
theorem gLc_ne (E : oE p l e R s m args below meth c Z bytes own nm maxL ret) (X : oX p l e R s m args below meth c Z T V cells slots) {x y : Int64} {o : Int} {q' : Nat} (hd : decode bytes pc = .ok (.ifCond .ne o, 3)) (ho : 0 ≤ (pc : Int) + o) (hp : ((pc : Int) + o).toNat = q) (hp' : pc + 3 = q') (G1 : ¬ (x = y) → oG p e below s Z R Ret T (mkF m q Ls st)) (G0 : x = y → oG p e below s Z R Ret T (mkF m q' Ls st)) : oG p e below s Z R Ret T (mkF m pc Ls (.int (XT.cmpL x y) :: st)) := by
  obtain ⟨_, _, _, _, _, Y, _⟩ := X
  by_cases hq : x = y
  · subst hp'; exact (G0 hq).step fun t k => XS.ifNo Y.here E.1 rfl (hb E.2.2.2.1 hd) rfl (XT.ll_ne_f hq) k
  · exact (G1 hq).step fun t k => XS.ifYes Y.here E.1 rfl (pc0 := pc) rfl (hb E.2.2.2.1 hd) rfl (XT.ll_ne_t hq) ho hp k
theorem gIc_lt (E : oE p l e R s m args below meth c Z bytes own nm maxL ret) (X : oX p l e R s m args below meth c Z T V cells slots) {x y : Int32} {o : Int} {q' : Nat} (hd : decode bytes pc = .ok (.if_icmp .lt o, 3)) (ho : 0 ≤ (pc : Int) + o) (hp : ((pc : Int) + o).toNat = q) (hp' : pc + 3 = q') (G1 : x < y → oG p e below s Z R Ret T (mkF m q Ls st)) (G0 : ¬ (x < y) → oG p e below s Z R Ret T (mkF m q' Ls st)) : oG p e below s Z R Ret T (mkF m pc Ls (.int y :: .int x :: st)) := by
  obtain ⟨_, _, _, _, _, Y, _⟩ := X
  by_cases hq : x < y
  · exact (G1 hq).step fun t k => XS.icmpYes Y.here E.1 rfl (pc0 := pc) rfl (hb E.2.2.2.1 hd) rfl (XT.ii_lt_t hq) ho hp k
  · subst hp'; exact (G0 hq).step fun t k => XS.icmpNo Y.here E.1 rfl (hb E.2.2.2.1 hd) rfl (XT.ii_lt_f hq) k
theorem gIf_lt (E : oE p l e R s m args below meth c Z bytes own nm maxL ret) (X : oX p l e R s m args below meth c Z T V cells slots) {x : Int32} {o : Int} {q' : Nat} (hd : decode bytes pc = .ok (.ifCond .lt o, 3)) (ho : 0 ≤ (pc : Int) + o) (hp : ((pc : Int) + o).toNat = q) (hp' : pc + 3 = q') (G1 : x < 0 → oG p e below s Z R Ret T (mkF m q Ls st)) (G0 : ¬ (x < 0) → oG p e below s Z R Ret T (mkF m q' Ls st)) : oG p e below s Z R Ret T (mkF m pc Ls (.int x :: st)) := by
  obtain ⟨_, _, _, _, _, Y, _⟩ := X
  by_cases hq : x < 0
  · exact (G1 hq).step fun t k => XS.ifYes Y.here E.1 rfl (pc0 := pc) rfl (hb E.2.2.2.1 hd) rfl (XT.i0_lt_t hq) ho hp k
  · subst hp'; exact (G0 hq).step fun t k => XS.ifNo Y.here E.1 rfl (hb E.2.2.2.1 hd) rfl (XT.i0_lt_f hq) k
theorem gLc_lt (E : oE p l e R s m args below meth c Z bytes own nm maxL ret) (X : oX p l e R s m args below meth c Z T V cells slots) {x y : Int64} {o : Int} {q' : Nat} (hd : decode bytes pc = .ok (.ifCond .lt o, 3)) (ho : 0 ≤ (pc : Int) + o) (hp : ((pc : Int) + o).toNat = q) (hp' : pc + 3 = q') (G1 : x < y → oG p e below s Z R Ret T (mkF m q Ls st)) (G0 : ¬ (x < y) → oG p e below s Z R Ret T (mkF m q' Ls st)) : oG p e below s Z R Ret T (mkF m pc Ls (.int (XT.cmpL x y) :: st)) := by
  obtain ⟨_, _, _, _, _, Y, _⟩ := X
  by_cases hq : x < y
  · exact (G1 hq).step fun t k => XS.ifYes Y.here E.1 rfl (pc0 := pc) rfl (hb E.2.2.2.1 hd) rfl (XT.ll_lt_t hq) ho hp k
  · subst hp'; exact (G0 hq).step fun t k => XS.ifNo Y.here E.1 rfl (hb E.2.2.2.1 hd) rfl (XT.ll_lt_f hq) k
theorem gIc_ge (E : oE p l e R s m args below meth c Z bytes own nm maxL ret) (X : oX p l e R s m args below meth c Z T V cells slots) {x y : Int32} {o : Int} {q' : Nat} (hd : decode bytes pc = .ok (.if_icmp .ge o, 3)) (ho : 0 ≤ (pc : Int) + o) (hp : ((pc : Int) + o).toNat = q) (hp' : pc + 3 = q') (G1 : ¬ (x < y) → oG p e below s Z R Ret T (mkF m q Ls st)) (G0 : x < y → oG p e below s Z R Ret T (mkF m q' Ls st)) : oG p e below s Z R Ret T (mkF m pc Ls (.int y :: .int x :: st)) := by
  obtain ⟨_, _, _, _, _, Y, _⟩ := X
  by_cases hq : x < y
  · subst hp'; exact (G0 hq).step fun t k => XS.icmpNo Y.here E.1 rfl (hb E.2.2.2.1 hd) rfl (XT.ii_ge_f hq) k
  · exact (G1 hq).step fun t k => XS.icmpYes Y.here E.1 rfl (pc0 := pc) rfl (hb E.2.2.2.1 hd) rfl (XT.ii_ge_t hq) ho hp k
theorem gIf_ge (E : oE p l e R s m args below meth c Z bytes own nm maxL ret) (X : oX p l e R s m args below meth c Z T V cells slots) {x : Int32} {o : Int} {q' : Nat} (hd : decode bytes pc = .ok (.ifCond .ge o, 3)) (ho : 0 ≤ (pc : Int) + o) (hp : ((pc : Int) + o).toNat = q) (hp' : pc + 3 = q') (G1 : ¬ (x < 0) → oG p e below s Z R Ret T (mkF m q Ls st)) (G0 : x < 0 → oG p e below s Z R Ret T (mkF m q' Ls st)) : oG p e below s Z R Ret T (mkF m pc Ls (.int x :: st)) := by
  obtain ⟨_, _, _, _, _, Y, _⟩ := X
  by_cases hq : x < 0
  · subst hp'; exact (G0 hq).step fun t k => XS.ifNo Y.here E.1 rfl (hb E.2.2.2.1 hd) rfl (XT.i0_ge_f hq) k
  · exact (G1 hq).step fun t k => XS.ifYes Y.here E.1 rfl (pc0 := pc) rfl (hb E.2.2.2.1 hd) rfl (XT.i0_ge_t hq) ho hp k
theorem gLc_ge (E : oE p l e R s m args below meth c Z bytes own nm maxL ret) (X : oX p l e R s m args below meth c Z T V cells slots) {x y : Int64} {o : Int} {q' : Nat} (hd : decode bytes pc = .ok (.ifCond .ge o, 3)) (ho : 0 ≤ (pc : Int) + o) (hp : ((pc : Int) + o).toNat = q) (hp' : pc + 3 = q') (G1 : ¬ (x < y) → oG p e below s Z R Ret T (mkF m q Ls st)) (G0 : x < y → oG p e below s Z R Ret T (mkF m q' Ls st)) : oG p e below s Z R Ret T (mkF m pc Ls (.int (XT.cmpL x y) :: st)) := by
  obtain ⟨_, _, _, _, _, Y, _⟩ := X
  by_cases hq : x < y
  · subst hp'; exact (G0 hq).step fun t k => XS.ifNo Y.here E.1 rfl (hb E.2.2.2.1 hd) rfl (XT.ll_ge_f hq) k
  · exact (G1 hq).step fun t k => XS.ifYes Y.here E.1 rfl (pc0 := pc) rfl (hb E.2.2.2.1 hd) rfl (XT.ll_ge_t hq) ho hp k
theorem gIc_gt (E : oE p l e R s m args below meth c Z bytes own nm maxL ret) (X : oX p l e R s m args below meth c Z T V cells slots) {x y : Int32} {o : Int} {q' : Nat} (hd : decode bytes pc = .ok (.if_icmp .gt o, 3)) (ho : 0 ≤ (pc : Int) + o) (hp : ((pc : Int) + o).toNat = q) (hp' : pc + 3 = q') (G1 : y < x → oG p e below s Z R Ret T (mkF m q Ls st)) (G0 : ¬ (y < x) → oG p e below s Z R Ret T (mkF m q' Ls st)) : oG p e below s Z R Ret T (mkF m pc Ls (.int y :: .int x :: st)) := by
  obtain ⟨_, _, _, _, _, Y, _⟩ := X
  by_cases hq : y < x
  · exact (G1 hq).step fun t k => XS.icmpYes Y.here E.1 rfl (pc0 := pc) rfl (hb E.2.2.2.1 hd) rfl (XT.ii_gt_t hq) ho hp k
  · subst hp'; exact (G0 hq).step fun t k => XS.icmpNo Y.here E.1 rfl (hb E.2.2.2.1 hd) rfl (XT.ii_gt_f hq) k
theorem gIf_gt (E : oE p l e R s m args below meth c Z bytes own nm maxL ret) (X : oX p l e R s m args below meth c Z T V cells slots) {x : Int32} {o : Int} {q' : Nat} (hd : decode bytes pc = .ok (.ifCond .gt o, 3)) (ho : 0 ≤ (pc : Int) + o) (hp : ((pc : Int) + o).toNat = q) (hp' : pc + 3 = q') (G1 : 0 < x → oG p e below s Z R Ret T (mkF m q Ls st)) (G0 : ¬ (0 < x) → oG p e below s Z R Ret T (mkF m q' Ls st)) : oG p e below s Z R Ret T (mkF m pc Ls (.int x :: st)) := by
  obtain ⟨_, _, _, _, _, Y, _⟩ := X
  by_cases hq : 0 < x
  · exact (G1 hq).step fun t k => XS.ifYes Y.here E.1 rfl (pc0 := pc) rfl (hb E.2.2.2.1 hd) rfl (XT.i0_gt_t hq) ho hp k
  · subst hp'; exact (G0 hq).step fun t k => XS.ifNo Y.here E.1 rfl (hb E.2.2.2.1 hd) rfl (XT.i0_gt_f hq) k
theorem gLc_gt (E : oE p l e R s m args below meth c Z bytes own nm maxL ret) (X : oX p l e R s m args below meth c Z T V cells slots) {x y : Int64} {o : Int} {q' : Nat} (hd : decode bytes pc = .ok (.ifCond .gt o, 3)) (ho : 0 ≤ (pc : Int) + o) (hp : ((pc : Int) + o).toNat = q) (hp' : pc + 3 = q') (G1 : y < x → oG p e below s Z R Ret T (mkF m q Ls st)) (G0 : ¬ (y < x) → oG p e below s Z R Ret T (mkF m q' Ls st)) : oG p e below s Z R Ret T (mkF m pc Ls (.int (XT.cmpL x y) :: st)) := by
  obtain ⟨_, _, _, _, _, Y, _⟩ := X
  by_cases hq : y < x
  · exact (G1 hq).step fun t k => XS.ifYes Y.here E.1 rfl (pc0 := pc) rfl (hb E.2.2.2.1 hd) rfl (XT.ll_gt_t hq) ho hp k
  · subst hp'; exact (G0 hq).step fun t k => XS.ifNo Y.here E.1 rfl (hb E.2.2.2.1 hd) rfl (XT.ll_gt_f hq) k
theorem gIc_le (E : oE p l e R s m args below meth c Z bytes own nm maxL ret) (X : oX p l e R s m args below meth c Z T V cells slots) {x y : Int32} {o : Int} {q' : Nat} (hd : decode bytes pc = .ok (.if_icmp .le o, 3)) (ho : 0 ≤ (pc : Int) + o) (hp : ((pc : Int) + o).toNat = q) (hp' : pc + 3 = q') (G1 : ¬ (y < x) → oG p e below s Z R Ret T (mkF m q Ls st)) (G0 : y < x → oG p e below s Z R Ret T (mkF m q' Ls st)) : oG p e below s Z R Ret T (mkF m pc Ls (.int y :: .int x :: st)) := by
  obtain ⟨_, _, _, _, _, Y, _⟩ := X
  by_cases hq : y < x
  · subst hp'; exact (G0 hq).step fun t k => XS.icmpNo Y.here E.1 rfl (hb E.2.2.2.1 hd) rfl (XT.ii_le_f hq) k
  · exact (G1 hq).step fun t k => XS.icmpYes Y.here E.1 rfl (pc0 := pc) rfl (hb E.2.2.2.1 hd) rfl (XT.ii_le_t hq) ho hp k
theorem gIf_le (E : oE p l e R s m args below meth c Z bytes own nm maxL ret) (X : oX p l e R s m args below meth c Z T V cells slots) {x : Int32} {o : Int} {q' : Nat} (hd : decode bytes pc = .ok (.ifCond .le o, 3)) (ho : 0 ≤ (pc : Int) + o) (hp : ((pc : Int) + o).toNat = q) (hp' : pc + 3 = q') (G1 : ¬ (0 < x) → oG p e below s Z R Ret T (mkF m q Ls st)) (G0 : 0 < x → oG p e below s Z R Ret T (mkF m q' Ls st)) : oG p e below s Z R Ret T (mkF m pc Ls (.int x :: st)) := by
  obtain ⟨_, _, _, _, _, Y, _⟩ := X
  by_cases hq : 0 < x
  · subst hp'; exact (G0 hq).step fun t k => XS.ifNo Y.here E.1 rfl (hb E.2.2.2.1 hd) rfl (XT.i0_le_f hq) k
  · exact (G1 hq).step fun t k => XS.ifYes Y.here E.1 rfl (pc0 := pc) rfl (hb E.2.2.2.1 hd) rfl (XT.i0_le_t hq) ho hp k
theorem gLc_le (E : oE p l e R s m args below meth c Z bytes own nm maxL ret) (X : oX p l e R s m args below meth c Z T V cells slots) {x y : Int64} {o : Int} {q' : Nat} (hd : decode bytes pc = .ok (.ifCond .le o, 3)) (ho : 0 ≤ (pc : Int) + o) (hp : ((pc : Int) + o).toNat = q) (hp' : pc + 3 = q') (G1 : ¬ (y < x) → oG p e below s Z R Ret T (mkF m q Ls st)) (G0 : y < x → oG p e below s Z R Ret T (mkF m q' Ls st)) : oG p e below s Z R Ret T (mkF m pc Ls (.int (XT.cmpL x y) :: st)) := by
  obtain ⟨_, _, _, _, _, Y, _⟩ := X
  by_cases hq : y < x
  · subst hp'; exact (G0 hq).step fun t k => XS.ifNo Y.here E.1 rfl (hb E.2.2.2.1 hd) rfl (XT.ll_le_f hq) k
  · exact (G1 hq).step fun t k => XS.ifYes Y.here E.1 rfl (pc0 := pc) rfl (hb E.2.2.2.1 hd) rfl (XT.ll_le_t hq) ho hp k
theorem gAc_eq (E : oE p l e R s m args below meth c Z bytes own nm maxL ret) (X : oX p l e R s m args below meth c Z T V cells slots) {v w : Value} (hv : v.isRef = true) (hw' : w.isRef = true) {o : Int} {q' : Nat} (hd : decode bytes pc = .ok (.if_acmp .eq o, 3)) (ho : 0 ≤ (pc : Int) + o) (hp : ((pc : Int) + o).toNat = q) (hp' : pc + 3 = q') (G1 : v = w → oG p e below s Z R Ret T (mkF m q Ls st)) (G0 : ¬ (v = w) → oG p e below s Z R Ret T (mkF m q' Ls st)) : oG p e below s Z R Ret T (mkF m pc Ls (w :: v :: st)) := by
  obtain ⟨_, _, _, _, _, Y, _⟩ := X
  by_cases hq : v = w
  · exact (G1 hq).step fun t k => XT.acmpYes Y.here E.1 rfl (pc0 := pc) rfl (hb E.2.2.2.1 hd) rfl hv hw' (XT.aa_eq_t hq) ho hp k
  · subst hp'; exact (G0 hq).step fun t k => XT.acmpNo Y.here E.1 rfl (hb E.2.2.2.1 hd) rfl hv hw' (XT.aa_eq_f hq) k
theorem gAc_ne (E : oE p l e R s m args below meth c Z bytes own nm maxL ret) (X : oX p l e R s m args below meth c Z T V cells slots) {v w : Value} (hv : v.isRef = true) (hw' : w.isRef = true) {o : Int} {q' : Nat} (hd : decode bytes pc = .ok (.if_acmp .ne o, 3)) (ho : 0 ≤ (pc : Int) + o) (hp : ((pc : Int) + o).toNat = q) (hp' : pc + 3 = q') (G1 : ¬ (v = w) → oG p e below s Z R Ret T (mkF m q Ls st)) (G0 : v = w → oG p e below s Z R Ret T (mkF m q' Ls st)) : oG p e below s Z R Ret T (mkF m pc Ls (w :: v :: st)) := by
  obtain ⟨_, _, _, _, _, Y, _⟩ := X
  by_cases hq : v = w
  · subst hp'; exact (G0 hq).step fun t k => XT.acmpNo Y.here E.1 rfl (hb E.2.2.2.1 hd) rfl hv hw' (XT.aa_ne_f hq) k
  · exact (G1 hq).step fun t k => XT.acmpYes Y.here E.1 rfl (pc0 := pc) rfl (hb E.2.2.2.1 hd) rfl hv hw' (XT.aa_ne_t hq) ho hp k
theorem gNull_y (E : oE p l e R s m args below meth c Z bytes own nm maxL ret) (X : oX p l e R s m args below meth c Z T V cells slots) {v : Value} (hv : v.isRef = true) {o : Int} {q' : Nat} (hd : decode bytes pc = .ok (.ifnull o, 3)) (ho : 0 ≤ (pc : Int) + o) (hp : ((pc : Int) + o).toNat = q) (hp' : pc + 3 = q') (G1 : v = .null → oG p e below s Z R Ret T (mkF m q Ls st)) (G0 : ¬ (v = .null) → oG p e below s Z R Ret T (mkF m q' Ls st)) : oG p e below s Z R Ret T (mkF m pc Ls (v :: st)) := by
  obtain ⟨_, _, _, _, _, Y, _⟩ := X
  by_cases hq : v = .null
  · exact (G1 hq).step fun t k => XT.nullYes Y.here E.1 rfl (pc0 := pc) rfl (hb E.2.2.2.1 hd) rfl hq ho hp k
  · subst hp'; exact (G0 hq).step fun t k => XT.nullNo Y.here E.1 rfl (hb E.2.2.2.1 hd) rfl hv hq k
theorem gNull_n (E : oE p l e R s m args below meth c Z bytes own nm maxL ret) (X : oX p l e R s m args below meth c Z T V cells slots) {v : Value} (hv : v.isRef = true) {o : Int} {q' : Nat} (hd : decode bytes pc = .ok (.ifnonnull o, 3)) (ho : 0 ≤ (pc : Int) + o) (hp : ((pc : Int) + o).toNat = q) (hp' : pc + 3 = q') (G1 : ¬ (v = .null) → oG p e below s Z R Ret T (mkF m q Ls st)) (G0 : v = .null → oG p e below s Z R Ret T (mkF m q' Ls st)) : oG p e below s Z R Ret T (mkF m pc Ls (v :: st)) := by
  obtain ⟨_, _, _, _, _, Y, _⟩ := X
  by_cases hq : v = .null
  · subst hp'; exact (G0 hq).step fun t k => XT.nonnullNo Y.here E.1 rfl (hb E.2.2.2.1 hd) rfl hq k
  · exact (G1 hq).step fun t k => XT.nonnullYes Y.here E.1 rfl (pc0 := pc) rfl (hb E.2.2.2.1 hd) rfl hv hq ho hp k
theorem gLdcI (E : oE p l e R s m args below meth c Z bytes own nm maxL ret) (X : oX p l e R s m args below meth c Z T V cells slots) {i : Nat} {v : Int32} (hd : decode bytes pc = .ok (.ldc i, 2)) (w : (Jvm.Cond.constant own i v).before a0 Z = true) (hp : pc + 2 = q) (G : oG p e below s Z R Ret T (mkF m q Ls (.int v :: st))) : oG p e below s Z R Ret T (mkF m pc Ls st) := by
  subst hp; obtain ⟨_, _, _, _, _, Y, _⟩ := X; exact G.step fun t k => Y.ldcI E.1 E.2.2.1 (mvT E.2.1 w) rfl (hb E.2.2.2.1 hd) k
theorem gLdcWI (E : oE p l e R s m args below meth c Z bytes own nm maxL ret) (X : oX p l e R s m args below meth c Z T V cells slots) {i : Nat} {v : Int32} (hd : decode bytes pc = .ok (.ldc_w i, 3)) (w : (Jvm.Cond.constant own i v).before a0 Z = true) (hp : pc + 3 = q) (G : oG p e below s Z R Ret T (mkF m q Ls (.int v :: st))) : oG p e below s Z R Ret T (mkF m pc Ls st) := by
  subst hp; obtain ⟨_, _, _, _, _, Y, _⟩ := X; exact G.step fun t k => Y.ldcWI E.1 E.2.2.1 (mvT E.2.1 w) rfl (hb E.2.2.2.1 hd) k
theorem gLdc2J (E : oE p l e R s m args below meth c Z bytes own nm maxL ret) (X : oX p l e R s m args below meth c Z T V cells slots) {i : Nat} {v : Int64} (hd : decode bytes pc = .ok (.ldc2_w i, 3)) (w : (Jvm.Cond.constantLong own i v).before a0 Z = true) (hp : pc + 3 = q) (G : oG p e below s Z R Ret T (mkF m q Ls (.long v :: st))) : oG p e below s Z R Ret T (mkF m pc Ls st) := by
  subst hp; obtain ⟨_, _, _, _, _, Y, _⟩ := X; exact G.step fun t k => Y.ldc2J E.1 E.2.2.1 (mvT E.2.1 w) rfl (hb E.2.2.2.1 hd) k
/-! 5. objects -/
theorem gGetF (E : oE p l e R s m args below meth c Z bytes own nm maxL ret) (X : oX p l e R s m args below meth c Z T V cells slots) {R0 O n d C : String} {index i j : Nat} {a : Addr} {fs : List (String × String × String × Value)} {v : Value} (hd : decode bytes pc = .ok (.getfield index, 3))
    (w : (Jvm.Cond.fieldLink own index R0 n d).before a0 Z = true) (via : Via Z R0 O n d) (hi : V[i]? = some (a, .inl (C, fs))) (hj : fs[j]? = some (O, n, d, v)) (hp : pc + 3 = q)
    (G : ∀ T', oX p l e R s m args below meth c Z T' V cells slots → oG p e below s Z R Ret T' (mkF m q Ls (v :: st))) : oG p e below s Z R Ret T (mkF m pc Ls (.ref a :: st)) := by
  subst hp; obtain ⟨locs, c', s', q1, q2, Y, N, H⟩ := X
  obtain ⟨T', Y', e', k⟩ := getF Y E.1 E.2.1 E.2.2.1 (host := "") (Or.inl w) via rfl ((H.sat hi).2.2 _ (List.mem_of_getElem? hj)) (g := mkF m pc Ls (.ref a :: st)) rfl rfl (hb E.2.2.2.1 hd)
  exact (G T' ⟨locs, c', s', q1, q2, Y', N, e' ▸ H⟩).step k
theorem gGetFN (E : oE p l e R s m args below meth c Z bytes own nm maxL ret) (X : oX p l e R s m args below meth c Z T V cells slots) {R0 O n d C host : String} {index i j : Nat} {a : Addr} {fs : List (String × String × String × Value)} {v : Value} (hd : decode bytes pc = .ok (.getfield index, 3))
    (w : (Jvm.Cond.fieldLinkNest own index R0 n d host).before a0 Z = true) (via : Via Z R0 O n d) (hi : V[i]? = some (a, .inl (C, fs))) (hj : fs[j]? = some (O, n, d, v)) (hp : pc + 3 = q)
    (G : ∀ T', oX p l e R s m args below meth c Z T' V cells slots → oG p e below s Z R Ret T' (mkF m q Ls (v :: st))) : oG p e below s Z R Ret T (mkF m pc Ls (.ref a :: st)) := by
  subst hp; obtain ⟨locs, c', s', q1, q2, Y, N, H⟩ := X
  obtain ⟨T', Y', e', k⟩ := getF Y E.1 E.2.1 E.2.2.1 (host := host) (Or.inr w) via rfl ((H.sat hi).2.2 _ (List.mem_of_getElem? hj)) (g := mkF m pc Ls (.ref a :: st)) rfl rfl (hb E.2.2.2.1 hd)
  exact (G T' ⟨locs, c', s', q1, q2, Y', N, e' ▸ H⟩).step k
/-- a field of an object that stood at the start -/
theorem gGetF0 (E : oE p l e R s m args below meth c Z bytes own nm maxL ret) (X : oX p l e R s m args below meth c Z T V cells slots) {R0 O n d : String} {index : Nat} {a : Addr} {v : Value} (hd : decode bytes pc = .ok (.getfield index, 3))
    (w : (Jvm.Cond.fieldLink own index R0 n d).before a0 Z = true) (via : Via Z R0 O n d) (F : Fld Z Z.heap a O n d v) (hp : pc + 3 = q)
    (G : ∀ T', oX p l e R s m args below meth c Z T' V cells slots → oG p e below s Z R Ret T' (mkF m q Ls (v :: st))) : oG p e below s Z R Ret T (mkF m pc Ls (.ref a :: st)) := by
  subst hp; obtain ⟨locs, c', s', q1, q2, Y, N, H⟩ := X
  obtain ⟨T', Y', e', k⟩ := getF Y E.1 E.2.1 E.2.2.1 (host := "") (Or.inl w) via rfl (F.ext H.1) (g := mkF m pc Ls (.ref a :: st)) rfl rfl (hb E.2.2.2.1 hd)
  exact (G T' ⟨locs, c', s', q1, q2, Y', N, e' ▸ H⟩).step k
theorem gGetS (E : oE p l e R s m args below meth c Z bytes own nm maxL ret) (X : oX p l e R s m args below meth c Z T V cells slots) {R0 O n d : String} {index : Nat} {v : Value} (hd : decode bytes pc = .ok (.getstatic index, 3))
    (w : (Jvm.Cond.fieldLink own index R0 n d).before a0 Z = true) (via : Via Z R0 O n d) (F : Sta Z Z.heap O n d v) (hp : pc + 3 = q)
    (G : ∀ T', oX p l e R s m args below meth c Z T' V cells slots → oG p e below s Z R Ret T' (mkF m q Ls (v :: st))) : oG p e below s Z R Ret T (mkF m pc Ls st) := by
  subst hp; obtain ⟨locs, c', s', q1, q2, Y, N, H⟩ := X
  obtain ⟨T', Y', e', k⟩ := getS Y E.1 E.2.1 E.2.2.1 (host := "") w via rfl (F.ext H.1) (g := mkF m pc Ls st) rfl (hb E.2.2.2.1 hd)
  exact (G T' ⟨locs, c', s', q1, q2, Y', N, e' ▸ H⟩).step k
theorem gPutF (E : oE p l e R s m args below meth c Z bytes own nm maxL ret) (X : oX p l e R s m args below meth c Z T V cells slots) {R0 O n d C : String} {index i j kk : Nat} {a : Addr} {fs : List (String × String × String × Value)} {v old : Value} {ty : FieldType} (hd : decode bytes pc = .ok (.putfield index, 3))
    (w : (Jvm.Cond.fieldLink own index R0 n d).before a0 Z = true) (via : Via Z R0 O n d) (hi : V[i]? = some (a, .inl (C, fs))) (hj : fs[j]? = some (O, n, d, old)) (L : (Jvm.Cond.lays C O n d).before a0 Z = true ∨ ((Jvm.Cond.laysFinal C O n d).before a0 Z = true ∧ own = O ∧ nm = "<init>")) (wi : (Jvm.Cond.instantiable C kk).before a0 Z = true)
    (hty : parseFieldDescriptor d = some ty) (hn : narrow ty v = v) (hf : fits ty v = true) (hV : V.set i (a, .inl (C, fs.set j (O, n, d, v))) = V') (hp : pc + 3 = q)
    (G : ∀ T', oX p l e R s m args below meth c Z T' V' cells slots → oG p e below s Z R Ret T' (mkF m q Ls st)) : oG p e below s Z R Ret T (mkF m pc Ls (v :: .ref a :: st)) := by
  subst hp hV; obtain ⟨locs, c', s', q1, q2, Y, N, H⟩ := X
  have S := H.sat hi
  obtain ⟨T', h', Y', e', W, k⟩ := putF Y E.1 E.2.1 E.2.2.1 (host := "") (Or.inl w) via rfl (S.2.2 _ (List.mem_of_getElem? hj)) S.1 (L.imp id fun z => ⟨z.1, z.2.1, E.2.2.2.2.2.2.1.trans z.2.2⟩) wi hty hn hf (g := mkF m pc Ls (v :: .ref a :: st)) rfl rfl (hb E.2.2.2.1 hd)
  subst e'
  exact (G T' ⟨_, c', s', q1, q2, Y', Fr.snoc Y' N (H.ge hi), H.wr W hi (S.wrF hj W)⟩).step k
theorem gPutFN (E : oE p l e R s m args below meth c Z bytes own nm maxL ret) (X : oX p l e R s m args below meth c Z T V cells slots) {R0 O n d C host : String} {index i j kk : Nat} {a : Addr} {fs : List (String × String × String × Value)} {v old : Value} {ty : FieldType} (hd : decode bytes pc = .ok (.putfield index, 3))
    (w : (Jvm.Cond.fieldLinkNest own index R0 n d host).before a0 Z = true) (via : Via Z R0 O n d) (hi : V[i]? = some (a, .inl (C, fs))) (hj : fs[j]? = some (O, n, d, old)) (L : (Jvm.Cond.lays C O n d).before a0 Z = true ∨ ((Jvm.Cond.laysFinal C O n d).before a0 Z = true ∧ own = O ∧ nm = "<init>")) (wi : (Jvm.Cond.instantiable C kk).before a0 Z = true)
    (hty : parseFieldDescriptor d = some ty) (hn : narrow ty v = v) (hf : fits ty v = true) (hV : V.set i (a, .inl (C, fs.set j (O, n, d, v))) = V') (hp : pc + 3 = q)
    (G : ∀ T', oX p l e R s m args below meth c Z T' V' cells slots → oG p e below s Z R Ret T' (mkF m q Ls st)) : oG p e below s Z R Ret T (mkF m pc Ls (v :: .ref a :: st)) := by
  subst hp hV; obtain ⟨locs, c', s', q1, q2, Y, N, H⟩ := X
  have S := H.sat hi
  obtain ⟨T', h', Y', e', W, k⟩ := putF Y E.1 E.2.1 E.2.2.1 (host := host) (Or.inr w) via rfl (S.2.2 _ (List.mem_of_getElem? hj)) S.1 (L.imp id fun z => ⟨z.1, z.2.1, E.2.2.2.2.2.2.1.trans z.2.2⟩) wi hty hn hf (g := mkF m pc Ls (v :: .ref a :: st)) rfl rfl (hb E.2.2.2.1 hd)
  subst e'
  exact (G T' ⟨_, c', s', q1, q2, Y', Fr.snoc Y' N (H.ge hi), H.wr W hi (S.wrF hj W)⟩).step k
theorem gNew (E : oE p l e R s m args below meth c Z bytes own nm maxL ret) (X : oX p l e R s m args below meth c Z T V cells slots) {C : String} {index n : Nat} {fs : List (String × String × String × Value)} (hd : decode bytes pc = .ok (.new index, 3))
    (w : (Jvm.Cond.classLink own index C).before a0 Z = true) (wi : (Jvm.Cond.instantiable C n).before a0 Z = true) (wz : (Jvm.Cond.initialized C).before a0 Z = true) (hL : oLay Z a0 C fs) (hc : cells + 1 ≤ c2) (hs : slots + n ≤ s2) (hc2 : c2 ≤ R.cells) (hs2 : s2 ≤ R.slots) (hp : pc + 3 = q)
    (G : ∀ T' a, oX p l e R s m args below meth c Z T' (V ++ [(a, .inl (C, fs))]) c2 s2 → oG p e below s Z R Ret T' (mkF m q Ls (.ref a :: st))) : oG p e below s Z R Ret T (mkF m pc Ls st) := by
  subst hp; obtain ⟨locs, c', s', q1, q2, Y, N, H⟩ := X
  obtain ⟨T', h', Y', e', Ex, A, D, -, k⟩ := newO Y E.1 E.2.1 E.2.2.1 w wi wz rfl (g := mkF m pc Ls st) rfl (hb E.2.2.2.1 hd) (by omega) (by omega)
  subst e'
  refine (G T' T.heap.size ⟨_, _, _, by omega, by omega, Y', N, H.new Ex ⟨A, hL.1, fun f hf => ?_⟩⟩).step k
  obtain ⟨L1, ty, t1, t2⟩ := hL.2 f hf
  rw [t2]; exact D L1 t1
theorem gInitO (E : oE p l e R s m args below meth c Z bytes own nm maxL ret) (X : oX p l e R s m args below meth c Z T V cells slots) {index : Nat} {a : Addr} {W : Nat} (hd : decode bytes pc = .ok (.invokespecial index, 3))
    (w1 : (Jvm.Cond.methodLink own index Lib.objectInit).before a0 Z = true) (w2 : (Jvm.Cond.instanceMethod Lib.objectInit).before a0 Z = true) (w3 : (Jvm.Cond.code Lib.objectInit ⟨#[0xb1]⟩ 1 none).before a0 Z = true) (hsz : Ls.size = maxL) (hf : 1 ≤ R.frames) (hW : (st.map fun v => v.category).sum ≤ W) (hl : W + 12 ≤ R.locals) (hp : pc + 3 = q)
    (G : ∀ T', oX p l e R s m args below meth c Z T' V cells slots → oG p e below s Z R Ret T' (mkF m q Ls st)) : oG p e below s Z R Ret T (mkF m pc Ls (.ref a :: st)) := by
  subst hp; obtain ⟨locs, c', s', q1, q2, Y, N, H⟩ := X
  obtain ⟨T', Y', e', k⟩ := initO Y E.1 E.2.1 E.2.2.1 w1 w2 w3 rfl (g := mkF m pc Ls (.ref a :: st)) rfl (by rw [E.2.2.2.2.1]; exact hsz) rfl (hb E.2.2.2.1 hd) hf (W := W) (by show 2 * 0 + _ ≤ _; omega) hl
  exact (G T' ⟨locs, c', s', q1, q2, Y', N, e' ▸ H⟩).step k
theorem gInstY (E : oE p l e R s m args below meth c Z bytes own nm maxL ret) (X : oX p l e R s m args below meth c Z T V cells slots) {K C : String} {index i : Nat} {a : Addr} {fs : List (String × String × String × Value)} (hd : decode bytes pc = .ok (.instanceof index, 3))
    (w : (Jvm.Cond.classLink own index K).before a0 Z = true) (hi : V[i]? = some (a, .inl (C, fs))) (wc : (Jvm.Cond.castable C K).before a0 Z = true) (hp : pc + 3 = q)
    (G : ∀ T', oX p l e R s m args below meth c Z T' V cells slots → oG p e below s Z R Ret T' (mkF m q Ls (.int 1 :: st))) : oG p e below s Z R Ret T (mkF m pc Ls (.ref a :: st)) := by
  subst hp; obtain ⟨locs, c', s', q1, q2, Y, N, H⟩ := X
  obtain ⟨T', Y', e', k⟩ := instY Y E.1 E.2.1 E.2.2.1 w rfl (Ins.of_exa (H.sat hi).1 wc) (g := mkF m pc Ls (.ref a :: st)) rfl rfl (hb E.2.2.2.1 hd)
  exact (G T' ⟨locs, c', s', q1, q2, Y', N, e' ▸ H⟩).step k
theorem gInstNo (E : oE p l e R s m args below meth c Z bytes own nm maxL ret) (X : oX p l e R s m args below meth c Z T V cells slots) {K C : String} {index : Nat} {a : Addr} (hd : decode bytes pc = .ok (.instanceof index, 3))
    (w : (Jvm.Cond.classLink own index K).before a0 Z = true) (hE : ∀ h, oHv Z h V → Exa Z h a C) (F : ∃ c t, Z.vm.findClass C = some c ∧ Z.vm.findClass K = some t ∧ Z.vm.assignable c t = false) (hp : pc + 3 = q)
    (G : ∀ T', oX p l e R s m args below meth c Z T' V cells slots → oG p e below s Z R Ret T' (mkF m q Ls (.int 0 :: st))) : oG p e below s Z R Ret T (mkF m pc Ls (.ref a :: st)) := by
  subst hp; obtain ⟨locs, c', s', q1, q2, Y, N, H⟩ := X
  obtain ⟨T', Y', e', k⟩ := instNo Y E.1 E.2.1 E.2.2.1 w rfl (hE _ H) F (g := mkF m pc Ls (.ref a :: st)) rfl rfl (hb E.2.2.2.1 hd)
  exact (G T' ⟨locs, c', s', q1, q2, Y', N, e' ▸ H⟩).step k
theorem gInstNull (E : oE p l e R s m args below meth c Z bytes own nm maxL ret) (X : oX p l e R s m args below meth c Z T V cells slots) {index : Nat} (hd : decode bytes pc = .ok (.instanceof index, 3)) (hp : pc + 3 = q) (G : oG p e below s Z R Ret T (mkF m q Ls (.int 0 :: st))) : oG p e below s Z R Ret T (mkF m pc Ls (.null :: st)) := by
  subst hp; obtain ⟨_, _, _, _, _, Y, _⟩ := X; exact G.step fun t k => Y.instanceofNull E.1 (g := mkF m pc Ls (.null :: st)) rfl rfl (hb E.2.2.2.1 hd) t k
theorem gCastY (E : oE p l e R s m args below meth c Z bytes own nm maxL ret) (X : oX p l e R s m args below meth c Z T V cells slots) {K C : String} {index i : Nat} {a : Addr} {fs : List (String × String × String × Value)} (hd : decode bytes pc = .ok (.checkcast index, 3))
    (w : (Jvm.Cond.classLink own index K).before a0 Z = true) (hi : V[i]? = some (a, .inl (C, fs))) (wc : (Jvm.Cond.castable C K).before a0 Z = true) (hp : pc + 3 = q)
    (G : ∀ T', oX p l e R s m args below meth c Z T' V cells slots → oG p e below s Z R Ret T' (mkF m q Ls (.ref a :: st))) : oG p e below s Z R Ret T (mkF m pc Ls (.ref a :: st)) := by
  subst hp; obtain ⟨locs, c', s', q1, q2, Y, N, H⟩ := X
  obtain ⟨T', Y', e', k⟩ := castY Y E.1 E.2.1 E.2.2.1 w rfl (Ins.of_exa (H.sat hi).1 wc) (g := mkF m pc Ls (.ref a :: st)) rfl rfl (hb E.2.2.2.1 hd)
  exact (G T' ⟨locs, c', s', q1, q2, Y', N, e' ▸ H⟩).step k
/-! 6. arrays -/
theorem oNat {j : Int32} (hj : ¬ j < 0) {n : Nat} (hn : n < 2 ^ 31) (h : n.toInt32 = j) : j.toNatClampNeg = n := by
  subst h; simp only [Int32.toNatClampNeg, len_toInt hn]; omega
theorem oIn {c : Cell} {vs : List Value} {j : Int32} {v : Value} (h : c.slots.toList = vs) (hj : ¬ j < 0) (hv : vs[j.toNatClampNeg]? = some v) : ¬ (j < 0 ∨ c.slots.size ≤ j.toNatClampNeg) ∧ c.slots[j.toNatClampNeg]? = some v := by
  subst h
  rw [Array.getElem?_toList] at hv
  exact ⟨fun z => z.elim hj fun y => (by rw [Array.getElem?_eq_none y] at hv; cases hv), hv⟩
theorem gNewA (E : oE p l e R s m args below meth c Z bytes own nm maxL ret) (X : oX p l e R s m args below meth c Z T V cells slots) {aty : ArrayType} {n : Int32} {cap : Nat} {vs : List Value} {ty : FieldType} (hty : newarray.typeOf aty = ty) (hd : decode bytes pc = .ok (.newarray aty, 2))
    (w : (Jvm.Cond.arrayClass (newarray.typeOf aty)).before a0 Z = true) (hn : ¬ n < 0) (hcap : n.toNatClampNeg ≤ cap) (hb8 : cap * 8 ≤ 536870912) (hvs : List.replicate n.toNatClampNeg (defaultValue ty) = vs) (hc : cells + 1 ≤ c2) (hs : slots + cap ≤ s2) (hc2 : c2 ≤ R.cells) (hs2 : s2 ≤ R.slots) (hp : pc + 2 = q)
    (G : ∀ T' a, oX p l e R s m args below meth c Z T' (V ++ [(a, .inr (ty, vs))]) c2 s2 → oG p e below s Z R Ret T' (mkF m q Ls (.ref a :: st))) : oG p e below s Z R Ret T (mkF m pc Ls (.int n :: st)) := by
  subst hp hvs hty; obtain ⟨locs, c', s', q1, q2, Y, N, H⟩ := X
  obtain ⟨T', h', cA, Y', e', Ex, A, k⟩ := newP Y E.1 E.2.1 w rfl (g := mkF m pc Ls (.int n :: st)) rfl (hb E.2.2.2.1 hd) rfl hn hcap hb8 (by omega) (by omega)
  subst e'
  refine (G T' T.heap.size ⟨_, _, _, by omega, by omega, Y', N, H.new Ex ⟨_, A, by simp [newA], ?_⟩⟩).step k
  rw [List.length_replicate]; exact (back32 hn).2
theorem gLen (E : oE p l e R s m args below meth c Z bytes own nm maxL ret) (X : oX p l e R s m args below meth c Z T V cells slots) {i : Nat} {a : Addr} {ty : FieldType} {vs : List Value} {z : Int32} (hd : decode bytes pc = .ok (.arraylength, 1))
    (hi : V[i]? = some (a, .inr (ty, vs))) (hz : vs.length.toInt32 = z) (hp : pc + 1 = q) (G : oG p e below s Z R Ret T (mkF m q Ls (.int z :: st))) : oG p e below s Z R Ret T (mkF m pc Ls (.ref a :: st)) := by
  subst hp hz; obtain ⟨locs, c', s', q1, q2, Y, N, H⟩ := X
  obtain ⟨cl, A, r1, r2⟩ := H.sat hi
  simp only at r1
  subst r1
  exact G.step fun t k => Y.arraylength E.1 A.1 (State.isArrayOf_alike E.2.1.alike A.2.1) (g := mkF m pc Ls (.ref a :: st)) rfl rfl (hb E.2.2.2.1 hd) t (by rw [Array.length_toList] at k; exact k)
/-- v's length, whether she stood at the start or was made since -/
def oLn (Z : State) (V : oVw) (a : Addr) (z : Int32) : Prop := (∃ cl ty, Arr Z Z.heap a cl ty ∧ cl.slots.size.toInt32 = z) ∨ ∃ (k : Nat) (ty : FieldType) (vs : List Value), V[k]? = some (a, .inr (ty, vs)) ∧ vs.length.toInt32 = z
theorem oLn.app {a : Addr} {z : Int32} {L : oVw} (h : oLn Z V a z) : oLn Z (V ++ L) a z := h.imp id fun ⟨k, ty, vs, h1, h2⟩ => ⟨k, ty, vs, oAppGet h1, h2⟩
theorem oLn.set {a b : Addr} {z : Int32} {i : Nat} {q q' : String × List (String × String × String × Value)} (h : oLn Z V a z) (hi : V[i]? = some (b, .inl q)) : oLn Z (V.set i (b, .inl q')) a z := h.imp id fun ⟨k, ty, vs, h1, h2⟩ => ⟨k, ty, vs, oSetNe (fun e => by subst e; rw [hi] at h1; cases h1) h1, h2⟩
theorem gLenG (E : oE p l e R s m args below meth c Z bytes own nm maxL ret) (X : oX p l e R s m args below meth c Z T V cells slots) {a : Addr} {z : Int32} (hd : decode bytes pc = .ok (.arraylength, 1))
    (hL : oLn Z V a z) (hp : pc + 1 = q) (G : oG p e below s Z R Ret T (mkF m q Ls (.int z :: st))) : oG p e below s Z R Ret T (mkF m pc Ls (.ref a :: st)) := by
  rcases hL with ⟨cl, ty, A, hz⟩ | ⟨k, ty, vs, h1, h2⟩
  · subst hp hz; obtain ⟨locs, c', s', q1, q2, Y, N, H⟩ := X
    exact G.step fun t k => Y.arraylength E.1 (A.ext H.1).1 (State.isArrayOf_alike E.2.1.alike A.2.1) (g := mkF m pc Ls (.ref a :: st)) rfl rfl (hb E.2.2.2.1 hd) t k
  · exact gLen E X hd h1 h2 hp G
theorem oRepLen {n : Int32} {d : Value} (hn : ¬ n < 0) : (List.replicate n.toNatClampNeg d).length.toInt32 = n := by rw [List.length_replicate]; exact (back32 hn).1
theorem gLen0 (E : oE p l e R s m args below meth c Z bytes own nm maxL ret) (X : oX p l e R s m args below meth c Z T V cells slots) {a : Addr} {ty : FieldType} {cl : Cell} {z : Int32} (hd : decode bytes pc = .ok (.arraylength, 1))
    (A : Arr Z Z.heap a cl ty) (hz : cl.slots.size.toInt32 = z) (hp : pc + 1 = q) (G : oG p e below s Z R Ret T (mkF m q Ls (.int z :: st))) : oG p e below s Z R Ret T (mkF m pc Ls (.ref a :: st)) := by
  subst hp hz; obtain ⟨locs, c', s', q1, q2, Y, N, H⟩ := X
  exact G.step fun t k => Y.arraylength E.1 (A.ext H.1).1 (State.isArrayOf_alike E.2.1.alike A.2.1) (g := mkF m pc Ls (.ref a :: st)) rfl rfl (hb E.2.2.2.1 hd) t k
theorem gBaload (E : oE p l e R s m args below meth c Z bytes own nm maxL ret) (X : oX p l e R s m args below meth c Z T V cells slots) {i : Nat} {a : Addr} {vs : List Value} {j : Int32} {v : Value} (hd : decode bytes pc = .ok (.baload, 1))
    (hi : V[i]? = some (a, .inr (.byte, vs))) (hj : ¬ j < 0) (hv : vs[j.toNatClampNeg]? = some v) (hp : pc + 1 = q) (G : oG p e below s Z R Ret T (mkF m q Ls (v :: st))) : oG p e below s Z R Ret T (mkF m pc Ls (.int j :: .ref a :: st)) := by
  subst hp; obtain ⟨locs, c', s', q1, q2, Y, N, H⟩ := X
  obtain ⟨cl, A, r1, r2⟩ := H.sat hi
  obtain ⟨z1, z2⟩ := oIn r1 hj hv
  exact G.step fun t k => Y.baloadBytes E.1 A.1 (State.isArrayOf_alike E.2.1.alike A.2.1) A.2.2 z1 z2 (g := mkF m pc Ls (.int j :: .ref a :: st)) rfl rfl (hb E.2.2.2.1 hd) t k
theorem gBaload0 (E : oE p l e R s m args below meth c Z bytes own nm maxL ret) (X : oX p l e R s m args below meth c Z T V cells slots) {a : Addr} {cl : Cell} {j : Int32} {v : Value} (hd : decode bytes pc = .ok (.baload, 1))
    (A : Arr Z Z.heap a cl .byte) (hj : ¬ (j < 0 ∨ cl.slots.size ≤ j.toNatClampNeg)) (hv : cl.slots[j.toNatClampNeg]? = some v) (hp : pc + 1 = q) (G : oG p e below s Z R Ret T (mkF m q Ls (v :: st))) : oG p e below s Z R Ret T (mkF m pc Ls (.int j :: .ref a :: st)) := by
  subst hp; obtain ⟨locs, c', s', q1, q2, Y, N, H⟩ := X
  exact G.step fun t k => Y.baloadBytes E.1 (A.ext H.1).1 (State.isArrayOf_alike E.2.1.alike A.2.1) A.2.2 hj hv (g := mkF m pc Ls (.int j :: .ref a :: st)) rfl rfl (hb E.2.2.2.1 hd) t k
theorem gIaload (E : oE p l e R s m args below meth c Z bytes own nm maxL ret) (X : oX p l e R s m args below meth c Z T V cells slots) {i : Nat} {a : Addr} {vs : List Value} {j : Int32} {v : Value} (hd : decode bytes pc = .ok (.iaload, 1))
    (hi : V[i]? = some (a, .inr (.int, vs))) (hj : ¬ j < 0) (hv : vs[j.toNatClampNeg]? = some v) (hp : pc + 1 = q) (G : oG p e below s Z R Ret T (mkF m q Ls (v :: st))) : oG p e below s Z R Ret T (mkF m pc Ls (.int j :: .ref a :: st)) := by
  subst hp; obtain ⟨locs, c', s', q1, q2, Y, N, H⟩ := X
  obtain ⟨cl, A, r1, r2⟩ := H.sat hi
  obtain ⟨z1, z2⟩ := oIn r1 hj hv
  exact G.step fun t k => Y.iaload E.1 A.1 (State.isArrayOf_alike E.2.1.alike A.2.1) A.2.2 z1 z2 (g := mkF m pc Ls (.int j :: .ref a :: st)) rfl rfl (hb E.2.2.2.1 hd) t k
theorem gIaload0 (E : oE p l e R s m args below meth c Z bytes own nm maxL ret) (X : oX p l e R s m args below meth c Z T V cells slots) {a : Addr} {cl : Cell} {j : Int32} {v : Value} (hd : decode bytes pc = .ok (.iaload, 1))
    (A : Arr Z Z.heap a cl .int) (hj : ¬ (j < 0 ∨ cl.slots.size ≤ j.toNatClampNeg)) (hv : cl.slots[j.toNatClampNeg]? = some v) (hp : pc + 1 = q) (G : oG p e below s Z R Ret T (mkF m q Ls (v :: st))) : oG p e below s Z R Ret T (mkF m pc Ls (.int j :: .ref a :: st)) := by
  subst hp; obtain ⟨locs, c', s', q1, q2, Y, N, H⟩ := X
  exact G.step fun t k => Y.iaload E.1 (A.ext H.1).1 (State.isArrayOf_alike E.2.1.alike A.2.1) A.2.2 hj hv (g := mkF m pc Ls (.int j :: .ref a :: st)) rfl rfl (hb E.2.2.2.1 hd) t k
theorem gLaload (E : oE p l e R s m args below meth c Z bytes own nm maxL ret) (X : oX p l e R s m args below meth c Z T V cells slots) {i : Nat} {a : Addr} {vs : List Value} {j : Int32} {v : Value} (hd : decode bytes pc = .ok (.laload, 1))
    (hi : V[i]? = some (a, .inr (.long, vs))) (hj : ¬ j < 0) (hv : vs[j.toNatClampNeg]? = some v) (hp : pc + 1 = q) (G : oG p e below s Z R Ret T (mkF m q Ls (v :: st))) : oG p e below s Z R Ret T (mkF m pc Ls (.int j :: .ref a :: st)) := by
  subst hp; obtain ⟨locs, c', s', q1, q2, Y, N, H⟩ := X
  obtain ⟨cl, A, r1, r2⟩ := H.sat hi
  obtain ⟨z1, z2⟩ := oIn r1 hj hv
  exact G.step fun t k => Y.laload E.1 A.1 (State.isArrayOf_alike E.2.1.alike A.2.1) A.2.2 z1 z2 (g := mkF m pc Ls (.int j :: .ref a :: st)) rfl rfl (hb E.2.2.2.1 hd) t k
theorem gLaload0 (E : oE p l e R s m args below meth c Z bytes own nm maxL ret) (X : oX p l e R s m args below meth c Z T V cells slots) {a : Addr} {cl : Cell} {j : Int32} {v : Value} (hd : decode bytes pc = .ok (.laload, 1))
    (A : Arr Z Z.heap a cl .long) (hj : ¬ (j < 0 ∨ cl.slots.size ≤ j.toNatClampNeg)) (hv : cl.slots[j.toNatClampNeg]? = some v) (hp : pc + 1 = q) (G : oG p e below s Z R Ret T (mkF m q Ls (v :: st))) : oG p e below s Z R Ret T (mkF m pc Ls (.int j :: .ref a :: st)) := by
  subst hp; obtain ⟨locs, c', s', q1, q2, Y, N, H⟩ := X
  exact G.step fun t k => Y.laload E.1 (A.ext H.1).1 (State.isArrayOf_alike E.2.1.alike A.2.1) A.2.2 hj hv (g := mkF m pc Ls (.int j :: .ref a :: st)) rfl rfl (hb E.2.2.2.1 hd) t k
theorem gCaload (E : oE p l e R s m args below meth c Z bytes own nm maxL ret) (X : oX p l e R s m args below meth c Z T V cells slots) {i : Nat} {a : Addr} {vs : List Value} {j : Int32} {v : Value} (hd : decode bytes pc = .ok (.caload, 1))
    (hi : V[i]? = some (a, .inr (.char, vs))) (hj : ¬ j < 0) (hv : vs[j.toNatClampNeg]? = some v) (hp : pc + 1 = q) (G : oG p e below s Z R Ret T (mkF m q Ls (v :: st))) : oG p e below s Z R Ret T (mkF m pc Ls (.int j :: .ref a :: st)) := by
  subst hp; obtain ⟨locs, c', s', q1, q2, Y, N, H⟩ := X
  obtain ⟨cl, A, r1, r2⟩ := H.sat hi
  obtain ⟨z1, z2⟩ := oIn r1 hj hv
  exact G.step fun t k => Y.caload E.1 A.1 (State.isArrayOf_alike E.2.1.alike A.2.1) A.2.2 z1 z2 (g := mkF m pc Ls (.int j :: .ref a :: st)) rfl rfl (hb E.2.2.2.1 hd) t k
theorem gCaload0 (E : oE p l e R s m args below meth c Z bytes own nm maxL ret) (X : oX p l e R s m args below meth c Z T V cells slots) {a : Addr} {cl : Cell} {j : Int32} {v : Value} (hd : decode bytes pc = .ok (.caload, 1))
    (A : Arr Z Z.heap a cl .char) (hj : ¬ (j < 0 ∨ cl.slots.size ≤ j.toNatClampNeg)) (hv : cl.slots[j.toNatClampNeg]? = some v) (hp : pc + 1 = q) (G : oG p e below s Z R Ret T (mkF m q Ls (v :: st))) : oG p e below s Z R Ret T (mkF m pc Ls (.int j :: .ref a :: st)) := by
  subst hp; obtain ⟨locs, c', s', q1, q2, Y, N, H⟩ := X
  exact G.step fun t k => Y.caload E.1 (A.ext H.1).1 (State.isArrayOf_alike E.2.1.alike A.2.1) A.2.2 hj hv (g := mkF m pc Ls (.int j :: .ref a :: st)) rfl rfl (hb E.2.2.2.1 hd) t k
theorem gAaload (E : oE p l e R s m args below meth c Z bytes own nm maxL ret) (X : oX p l e R s m args below meth c Z T V cells slots) {i : Nat} {a : Addr} {ty : FieldType} {vs : List Value} {j : Int32} {v : Value} (hd : decode bytes pc = .ok (.aaload, 1))
    (hi : V[i]? = some (a, .inr (ty, vs))) (ht : ty.isReference = true) (hj : ¬ j < 0) (hv : vs[j.toNatClampNeg]? = some v) (hp : pc + 1 = q) (G : oG p e below s Z R Ret T (mkF m q Ls (v :: st))) : oG p e below s Z R Ret T (mkF m pc Ls (.int j :: .ref a :: st)) := by
  subst hp; obtain ⟨locs, c', s', q1, q2, Y, N, H⟩ := X
  obtain ⟨cl, A, r1, r2⟩ := H.sat hi
  obtain ⟨z1, z2⟩ := oIn r1 hj hv
  exact G.step fun t k => Y.aaload E.1 A.1 (State.isArrayOf_alike E.2.1.alike A.2.1) ht A.2.2 z1 z2 (g := mkF m pc Ls (.int j :: .ref a :: st)) rfl rfl (hb E.2.2.2.1 hd) t k
theorem gAaload0 (E : oE p l e R s m args below meth c Z bytes own nm maxL ret) (X : oX p l e R s m args below meth c Z T V cells slots) {a : Addr} {ty : FieldType} {cl : Cell} {j : Int32} {v : Value} (hd : decode bytes pc = .ok (.aaload, 1))
    (A : Arr Z Z.heap a cl ty) (ht : ty.isReference = true) (hj : ¬ (j < 0 ∨ cl.slots.size ≤ j.toNatClampNeg)) (hv : cl.slots[j.toNatClampNeg]? = some v) (hp : pc + 1 = q) (G : oG p e below s Z R Ret T (mkF m q Ls (v :: st))) : oG p e below s Z R Ret T (mkF m pc Ls (.int j :: .ref a :: st)) := by
  subst hp; obtain ⟨locs, c', s', q1, q2, Y, N, H⟩ := X
  exact G.step fun t k => Y.aaload E.1 (A.ext H.1).1 (State.isArrayOf_alike E.2.1.alike A.2.1) ht A.2.2 hj hv (g := mkF m pc Ls (.int j :: .ref a :: st)) rfl rfl (hb E.2.2.2.1 hd) t k
theorem gBastore (E : oE p l e R s m args below meth c Z bytes own nm maxL ret) (X : oX p l e R s m args below meth c Z T V cells slots) {i jn : Nat} {a : Addr} {vs : List Value} {j : Int32} {x x' : Int32} (hd : decode bytes pc = .ok (.bastore, 1))
    (hi : V[i]? = some (a, .inr (.byte, vs))) (hj : ¬ j < 0) (hjn : j.toNatClampNeg = jn) (hlt : jn < vs.length) (hx' : nar .byte x = x') (hV : V.set i (a, .inr (.byte, vs.set jn (.int x'))) = V') (hp : pc + 1 = q)
    (G : ∀ T', oX p l e R s m args below meth c Z T' V' cells slots → oG p e below s Z R Ret T' (mkF m q Ls st)) : oG p e below s Z R Ret T (mkF m pc Ls (.int x :: .int j :: .ref a :: st)) := by
  subst hp hV hjn hx'; obtain ⟨locs, c', s', q1, q2, Y, N, H⟩ := X
  have S := H.sat hi
  obtain ⟨cl, A, r1, r2⟩ := id S
  have hin : ¬ (j < 0 ∨ cl.slots.size ≤ j.toNatClampNeg) := fun z => z.elim hj fun y => by
    have r1' : cl.slots.toList = vs := r1
    rw [← r1', Array.length_toList] at hlt; omega
  obtain ⟨T', h', Y', e', W, k⟩ := stB Y E.1 E.2.1 rfl A hin (g := mkF m pc Ls (.int x :: .int j :: .ref a :: st)) rfl rfl (hb E.2.2.2.1 hd)
  subst e'
  exact (G T' ⟨_, c', s', q1, q2, Y', Fr.snoc Y' N (H.ge hi), H.wr W hi (S.wrA W)⟩).step k
theorem gIastore (E : oE p l e R s m args below meth c Z bytes own nm maxL ret) (X : oX p l e R s m args below meth c Z T V cells slots) {i jn : Nat} {a : Addr} {vs : List Value} {j : Int32} {x x' : Int32} (hd : decode bytes pc = .ok (.iastore, 1))
    (hi : V[i]? = some (a, .inr (.int, vs))) (hj : ¬ j < 0) (hjn : j.toNatClampNeg = jn) (hlt : jn < vs.length) (hx' : x = x') (hV : V.set i (a, .inr (.int, vs.set jn (.int x'))) = V') (hp : pc + 1 = q)
    (G : ∀ T', oX p l e R s m args below meth c Z T' V' cells slots → oG p e below s Z R Ret T' (mkF m q Ls st)) : oG p e below s Z R Ret T (mkF m pc Ls (.int x :: .int j :: .ref a :: st)) := by
  subst hp hV hjn hx'; obtain ⟨locs, c', s', q1, q2, Y, N, H⟩ := X
  have S := H.sat hi
  obtain ⟨cl, A, r1, r2⟩ := id S
  have hin : ¬ (j < 0 ∨ cl.slots.size ≤ j.toNatClampNeg) := fun z => z.elim hj fun y => by
    have r1' : cl.slots.toList = vs := r1
    rw [← r1', Array.length_toList] at hlt; omega
  obtain ⟨T', h', Y', e', W, k⟩ := stI Y E.1 E.2.1 rfl A hin (g := mkF m pc Ls (.int x :: .int j :: .ref a :: st)) rfl rfl (hb E.2.2.2.1 hd)
  subst e'
  exact (G T' ⟨_, c', s', q1, q2, Y', Fr.snoc Y' N (H.ge hi), H.wr W hi (S.wrA W)⟩).step k
theorem gLastore (E : oE p l e R s m args below meth c Z bytes own nm maxL ret) (X : oX p l e R s m args below meth c Z T V cells slots) {i jn : Nat} {a : Addr} {vs : List Value} {j : Int32} {x x' : Int64} (hd : decode bytes pc = .ok (.lastore, 1))
    (hi : V[i]? = some (a, .inr (.long, vs))) (hj : ¬ j < 0) (hjn : j.toNatClampNeg = jn) (hlt : jn < vs.length) (hx' : x = x') (hV : V.set i (a, .inr (.long, vs.set jn (.long x'))) = V') (hp : pc + 1 = q)
    (G : ∀ T', oX p l e R s m args below meth c Z T' V' cells slots → oG p e below s Z R Ret T' (mkF m q Ls st)) : oG p e below s Z R Ret T (mkF m pc Ls (.long x :: .int j :: .ref a :: st)) := by
  subst hp hV hjn hx'; obtain ⟨locs, c', s', q1, q2, Y, N, H⟩ := X
  have S := H.sat hi
  obtain ⟨cl, A, r1, r2⟩ := id S
  have hin : ¬ (j < 0 ∨ cl.slots.size ≤ j.toNatClampNeg) := fun z => z.elim hj fun y => by
    have r1' : cl.slots.toList = vs := r1
    rw [← r1', Array.length_toList] at hlt; omega
  obtain ⟨T', h', Y', e', W, k⟩ := stJ Y E.1 E.2.1 rfl A hin (g := mkF m pc Ls (.long x :: .int j :: .ref a :: st)) rfl rfl (hb E.2.2.2.1 hd)
  subst e'
  exact (G T' ⟨_, c', s', q1, q2, Y', Fr.snoc Y' N (H.ge hi), H.wr W hi (S.wrA W)⟩).step k
theorem gCastore (E : oE p l e R s m args below meth c Z bytes own nm maxL ret) (X : oX p l e R s m args below meth c Z T V cells slots) {i jn : Nat} {a : Addr} {vs : List Value} {j : Int32} {x x' : Int32} (hd : decode bytes pc = .ok (.castore, 1))
    (hi : V[i]? = some (a, .inr (.char, vs))) (hj : ¬ j < 0) (hjn : j.toNatClampNeg = jn) (hlt : jn < vs.length) (hx' : nar .char x = x') (hV : V.set i (a, .inr (.char, vs.set jn (.int x'))) = V') (hp : pc + 1 = q)
    (G : ∀ T', oX p l e R s m args below meth c Z T' V' cells slots → oG p e below s Z R Ret T' (mkF m q Ls st)) : oG p e below s Z R Ret T (mkF m pc Ls (.int x :: .int j :: .ref a :: st)) := by
  subst hp hV hjn hx'; obtain ⟨locs, c', s', q1, q2, Y, N, H⟩ := X
  have S := H.sat hi
  obtain ⟨cl, A, r1, r2⟩ := id S
  have hin : ¬ (j < 0 ∨ cl.slots.size ≤ j.toNatClampNeg) := fun z => z.elim hj fun y => by
    have r1' : cl.slots.toList = vs := r1
    rw [← r1', Array.length_toList] at hlt; omega
  obtain ⟨T', h', Y', e', W, k⟩ := stC Y E.1 E.2.1 rfl A hin (g := mkF m pc Ls (.int x :: .int j :: .ref a :: st)) rfl rfl (hb E.2.2.2.1 hd)
  subst e'
  exact (G T' ⟨_, c', s', q1, q2, Y', Fr.snoc Y' N (H.ge hi), H.wr W hi (S.wrA W)⟩).step k
/-! 7. calls -/
theorem oBack {y : MethodName} {bs : ByteArray} {mx : Nat} {rt : Option FieldType} {rm : Room} {as' : Array Value} {Ret' : Option Value → oVw → Prop} {W len : Nat} (E : oE p l e R s m args below meth c Z bytes own nm maxL ret) (K : oCon l Z y bs mx rt rm as' V Ret') {h : Heap} (H : oHv Z h V)
    (wc : (Jvm.Cond.code y bs mx rt).before a0 Z = true) (wz : (Jvm.Cond.initialized y.cls).before a0 Z = true) (hf : rm.frames + 1 ≤ R.frames) (hl : W + (mx + 11) + rm.locals ≤ R.locals) :
    Back l R p e below s args y len W (fun A a => a = as' ∧ A.U.heap = h ∧ A.cells + rm.cells ≤ R.cells ∧ A.slots + rm.slots ≤ R.slots) (fun A _ v B => ∃ L, (Fr Z.heap.size L ∧ ∃ V', Ret' v V' ∧ oHv Z B.U.heap V') ∧ B.locs = A.locs ++ L ∧ B.cells = A.cells + rm.cells ∧ B.slots = A.slots + rm.slots) :=
  backOf (W := W) (Q := fun v h L => Fr Z.heap.size L ∧ ∃ V', Ret' v V' ∧ oHv Z h V') (K [] h H) E.2.1 wc wz hf hl
theorem gCallS (E : oE p l e R s m args below meth c Z bytes own nm maxL ret) (X : oX p l e R s m args below meth c Z T V cells slots) {y : MethodName} {index : Nat} {bs : ByteArray} {mx : Nat} {rt : Option FieldType} {rm : Room} {Ret' : Option Value → oVw → Prop} {W : Nat} {ps : List FieldType} {r : Option FieldType} (argsL rest : List Value) (hd : decode bytes pc = .ok (.invokestatic index, 3))
    (w1 : (Jvm.Cond.methodLink own index y).before a0 Z = true) (w2 : (Jvm.Cond.static y).before a0 Z = true) (w3 : (Jvm.Cond.initialized y.cls).before a0 Z = true) (w4 : (Jvm.Cond.code y bs mx rt).before a0 Z = true) (hy : y.cls ≠ "java/lang/invoke/MethodHandle" ∧ y.cls ≠ "java/lang/invoke/VarHandle")
    (K : oCon l Z y bs mx rt rm argsL.toArray V Ret') (hds : parseMethodDescriptor y.desc = some ⟨ps, r⟩) (hlen : argsL.length = ps.length) (hst : st = argsL.reverse ++ rest) (hsz : Ls.size = maxL) (hf : rm.frames + 1 ≤ R.frames) (hW : (rest.map fun v => v.category).sum ≤ W) (hl : W + (mx + 11) + rm.locals ≤ R.locals)
    (hc : cells + rm.cells ≤ c2) (hs : slots + rm.slots ≤ s2) (hc2 : c2 ≤ R.cells) (hs2 : s2 ≤ R.slots) (hp : pc + 3 = q)
    (G : ∀ T' v V', Ret' v V' → oX p l e R s m args below meth c Z T' V' c2 s2 → oG p e below s Z R Ret T' (mkF m q Ls (v.toList ++ rest))) : oG p e below s Z R Ret T (mkF m pc Ls st) := by
  subst hp; obtain ⟨locs, c', s', q1, q2, Y, N, H⟩ := X
  obtain ⟨v, vm₁, ⟨T', L', k', n'⟩, -, Y', ⟨Lc, ⟨hN, V', hR, hV⟩, l', y', z'⟩, k⟩ := Jvm.LawKit.callS Y E.1 (y := y) E.2.2.1 (mvT E.2.1 w1) (mvT E.2.1 w2) (mvT E.2.1 w3) (mvT E.2.1 w4) hy (oBack (W := W) E K H w4 w3 hf hl) (g := mkF m pc Ls st) rfl (by rw [E.2.2.2.2.1]; exact hsz) (argsL := argsL) (rest := rest) (lenOf hds hlen) hst (by show 2 * 0 + _ ≤ _; omega) (hb E.2.2.2.1 hd) (fun _ _ => ⟨rfl, rfl, by dsimp only [Pt.cells]; omega, by dsimp only [Pt.slots]; omega⟩)
  dsimp only [Pt.U, Pt.locs, Pt.cells, Pt.slots] at Y' l' y' z' k hV
  subst l' y' z'
  exact (G T' v V' hR ⟨_, _, _, by omega, by omega, Y', Fr.app N hN, hV⟩).step k
theorem gCallI (E : oE p l e R s m args below meth c Z bytes own nm maxL ret) (X : oX p l e R s m args below meth c Z T V cells slots) {y : MethodName} {index : Nat} {bs : ByteArray} {mx : Nat} {rm : Room} {Ret' : Option Value → oVw → Prop} {W : Nat} {ps : List FieldType} {r : Option FieldType} {a : Addr} (argsL rest : List Value) (hd : decode bytes pc = .ok (.invokespecial index, 3)) (hy1 : y.name = "<init>")
    (w1 : (Jvm.Cond.methodLink own index y).before a0 Z = true) (w2 : (Jvm.Cond.instanceMethod y).before a0 Z = true) (w3 : (Jvm.Cond.initialized y.cls).before a0 Z = true) (w4 : (Jvm.Cond.code y bs mx none).before a0 Z = true) (hy : y.cls ≠ "java/lang/invoke/MethodHandle" ∧ y.cls ≠ "java/lang/invoke/VarHandle")
    (K : oCon l Z y bs mx none rm (.ref a :: argsL).toArray V Ret') (hds : parseMethodDescriptor y.desc = some ⟨ps, r⟩) (hlen : argsL.length = ps.length) (hst : st = argsL.reverse ++ .ref a :: rest) (hsz : Ls.size = maxL) (hf : rm.frames + 1 ≤ R.frames) (hW : (rest.map fun v => v.category).sum ≤ W) (hl : W + (mx + 11) + rm.locals ≤ R.locals)
    (hc : cells + rm.cells ≤ c2) (hs : slots + rm.slots ≤ s2) (hc2 : c2 ≤ R.cells) (hs2 : s2 ≤ R.slots) (hp : pc + 3 = q)
    (G : ∀ T' v V', Ret' v V' → oX p l e R s m args below meth c Z T' V' c2 s2 → oG p e below s Z R Ret T' (mkF m q Ls (v.toList ++ rest))) : oG p e below s Z R Ret T (mkF m pc Ls st) := by
  subst hp; obtain ⟨locs, c', s', q1, q2, Y, N, H⟩ := X
  obtain ⟨v, vm₁, ⟨T', L', k', n'⟩, -, Y', ⟨Lc, ⟨hN, V', hR, hV⟩, l', y', z'⟩, k⟩ := Y.specialBack E.1 (y := y) hy1 E.2.2.1 (mvT E.2.1 w1) (mvT E.2.1 w2) (mvT E.2.1 w4) hy (oBack (W := W) E K H w4 w3 hf hl) (g := mkF m pc Ls st) rfl (by rw [E.2.2.2.2.1]; exact hsz) (Steps.refl _) (a := a) (argsL := argsL) (rest := rest) (lenOf hds hlen) hst (by show 2 * 0 + _ ≤ _; omega) (hb E.2.2.2.1 hd) (fun _ _ => ⟨rfl, rfl, by dsimp only [Pt.cells]; omega, by dsimp only [Pt.slots]; omega⟩)
  dsimp only [Pt.U, Pt.locs, Pt.cells, Pt.slots] at Y' l' y' z' k hV
  subst l' y' z'
  exact (G T' v V' hR ⟨_, _, _, by omega, by omega, Y', Fr.app N hN, hV⟩).steps k
theorem gCallV (E : oE p l e R s m args below meth c Z bytes own nm maxL ret) (X : oX p l e R s m args below meth c Z T V cells slots) {y z : MethodName} {C : String} {index i : Nat} {bs : ByteArray} {mx : Nat} {rt : Option FieldType} {rm : Room} {Ret' : Option Value → oVw → Prop} {W : Nat} {ps : List FieldType} {r : Option FieldType} {a : Addr} {fs : List (String × String × String × Value)} (argsL rest : List Value) (hd : decode bytes pc = .ok (.invokevirtual index, 3)) (hi : V[i]? = some (a, .inl (C, fs)))
    (w1 : (Jvm.Cond.methodLink own index y).before a0 Z = true) (w2 : (Jvm.Cond.declares y).before a0 Z = true) (w5 : (Jvm.Cond.selects C y z).before a0 Z = true) (w6 : (Jvm.Cond.selects y.cls y y).before a0 Z = true) (w7 : (Jvm.Cond.instanceMethod z).before a0 Z = true) (w3 : (Jvm.Cond.initialized z.cls).before a0 Z = true) (w4 : (Jvm.Cond.code z bs mx rt).before a0 Z = true) (hy : y.cls ≠ "java/lang/invoke/MethodHandle" ∧ y.cls ≠ "java/lang/invoke/VarHandle")
    (K : oCon l Z z bs mx rt rm (.ref a :: argsL).toArray V Ret') (hds : parseMethodDescriptor y.desc = some ⟨ps, r⟩) (hlen : argsL.length = ps.length) (hst : st = argsL.reverse ++ .ref a :: rest) (hsz : Ls.size = maxL) (hf : rm.frames + 1 ≤ R.frames) (hW : (rest.map fun v => v.category).sum ≤ W) (hl : W + (mx + 11) + rm.locals ≤ R.locals)
    (hc : cells + rm.cells ≤ c2) (hs : slots + rm.slots ≤ s2) (hc2 : c2 ≤ R.cells) (hs2 : s2 ≤ R.slots) (hp : pc + 3 = q)
    (G : ∀ T' v V', Ret' v V' → oX p l e R s m args below meth c Z T' V' c2 s2 → oG p e below s Z R Ret T' (mkF m q Ls (v.toList ++ rest))) : oG p e below s Z R Ret T (mkF m pc Ls st) := by
  subst hp; obtain ⟨locs, c', s', q1, q2, Y, N, H⟩ := X
  obtain ⟨cq, kq, qa, qb, qc⟩ := isOf E.2.1 (T := T) rfl (H.sat hi).1
  obtain ⟨v, vm₁, ⟨T', L', k', n'⟩, -, Y', ⟨Lc, ⟨hN, V', hR, hV⟩, l', y', z'⟩, k⟩ := Y.virtualBack E.1 (y := y) (z := z) E.2.2.1 (mvT E.2.1 w1) (mvT E.2.1 w2) (notFace_of_selects (args := #[]) (mvT E.2.1 w6)) (mvT E.2.1 w5) (mvT E.2.1 w7) hy (oBack (W := W) E K H w4 w3 hf hl) qa qc (g := mkF m pc Ls st) rfl (by rw [E.2.2.2.2.1]; exact hsz) (Steps.refl _) (argsL := argsL) (rest := rest) (lenOf hds hlen) hst (by show 2 * 0 + _ ≤ _; omega) (hb E.2.2.2.1 hd) (fun _ _ => ⟨rfl, rfl, by dsimp only [Pt.cells]; omega, by dsimp only [Pt.slots]; omega⟩)
  dsimp only [Pt.U, Pt.locs, Pt.cells, Pt.slots] at Y' l' y' z' k hV
  subst l' y' z'
  exact (G T' v V' hR ⟨_, _, _, by omega, by omega, Y', Fr.app N hN, hV⟩).steps k
theorem gCallV0 (E : oE p l e R s m args below meth c Z bytes own nm maxL ret) (X : oX p l e R s m args below meth c Z T V cells slots) {y z : MethodName} {C : String} {index : Nat} {bs : ByteArray} {mx : Nat} {rt : Option FieldType} {rm : Room} {Ret' : Option Value → oVw → Prop} {W : Nat} {ps : List FieldType} {r : Option FieldType} {a : Addr} (argsL rest : List Value) (hd : decode bytes pc = .ok (.invokevirtual index, 3)) (hE : Exa Z Z.heap a C)
    (w1 : (Jvm.Cond.methodLink own index y).before a0 Z = true) (w2 : (Jvm.Cond.declares y).before a0 Z = true) (w5 : (Jvm.Cond.selects C y z).before a0 Z = true) (w6 : (Jvm.Cond.selects y.cls y y).before a0 Z = true) (w7 : (Jvm.Cond.instanceMethod z).before a0 Z = true) (w3 : (Jvm.Cond.initialized z.cls).before a0 Z = true) (w4 : (Jvm.Cond.code z bs mx rt).before a0 Z = true) (hy : y.cls ≠ "java/lang/invoke/MethodHandle" ∧ y.cls ≠ "java/lang/invoke/VarHandle")
    (K : oCon l Z z bs mx rt rm (.ref a :: argsL).toArray V Ret') (hds : parseMethodDescriptor y.desc = some ⟨ps, r⟩) (hlen : argsL.length = ps.length) (hst : st = argsL.reverse ++ .ref a :: rest) (hsz : Ls.size = maxL) (hf : rm.frames + 1 ≤ R.frames) (hW : (rest.map fun v => v.category).sum ≤ W) (hl : W + (mx + 11) + rm.locals ≤ R.locals)
    (hc : cells + rm.cells ≤ c2) (hs : slots + rm.slots ≤ s2) (hc2 : c2 ≤ R.cells) (hs2 : s2 ≤ R.slots) (hp : pc + 3 = q)
    (G : ∀ T' v V', Ret' v V' → oX p l e R s m args below meth c Z T' V' c2 s2 → oG p e below s Z R Ret T' (mkF m q Ls (v.toList ++ rest))) : oG p e below s Z R Ret T (mkF m pc Ls st) := by
  subst hp; obtain ⟨locs, c', s', q1, q2, Y, N, H⟩ := X
  obtain ⟨cq, kq, qa, qb, qc⟩ := isOf E.2.1 (T := T) rfl (hE.ext H.1)
  obtain ⟨v, vm₁, ⟨T', L', k', n'⟩, -, Y', ⟨Lc, ⟨hN, V', hR, hV⟩, l', y', z'⟩, k⟩ := Y.virtualBack E.1 (y := y) (z := z) E.2.2.1 (mvT E.2.1 w1) (mvT E.2.1 w2) (notFace_of_selects (args := #[]) (mvT E.2.1 w6)) (mvT E.2.1 w5) (mvT E.2.1 w7) hy (oBack (W := W) E K H w4 w3 hf hl) qa qc (g := mkF m pc Ls st) rfl (by rw [E.2.2.2.2.1]; exact hsz) (Steps.refl _) (argsL := argsL) (rest := rest) (lenOf hds hlen) hst (by show 2 * 0 + _ ≤ _; omega) (hb E.2.2.2.1 hd) (fun _ _ => ⟨rfl, rfl, by dsimp only [Pt.cells]; omega, by dsimp only [Pt.slots]; omega⟩)
  dsimp only [Pt.U, Pt.locs, Pt.cells, Pt.slots] at Y' l' y' z' k hV
  subst l' y' z'
  exact (G T' v V' hR ⟨_, _, _, by omega, by omega, Y', Fr.app N hN, hV⟩).steps k
end Walk

theorem oRemEq (x y : Int32) : x - x / y * y = x % y := by
  apply Int32.toInt_inj.mp
  rw [Int32.toInt_sub, Int32.toInt_mul, Int32.toInt_div, Int32.toInt_mod, Int.bmod_mul_bmod, Int.sub_bmod_bmod]
  have : x.toInt - x.toInt.tdiv y.toInt * y.toInt = x.toInt.tmod y.toInt := by rw [Int.tmod_def, Int.mul_comm]
  rw [this, ← Int32.toInt_mod]
  have h := rng32 (x % y)
  exact Int.bmod_eq_of_le (by omega) (by omega)
theorem oRemEqL (x y : Int64) : x - x / y * y = x % y := by
  apply Int64.toInt_inj.mp
  rw [Int64.toInt_sub, Int64.toInt_mul, Int64.toInt_div, Int64.toInt_mod, Int.bmod_mul_bmod, Int.sub_bmod_bmod]
  have : x.toInt - x.toInt.tdiv y.toInt * y.toInt = x.toInt.tmod y.toInt := by rw [Int.tmod_def, Int.mul_comm]
  rw [this, ← Int64.toInt_mod]
  have h := rng64 (x % y)
  exact Int.bmod_eq_of_le (by omega) (by omega)
theorem oBm32 {n : Int} (h : -2147483648 ≤ n ∧ n < 2147483648) : n.bmod (2 ^ 32) = n := Int.bmod_eq_of_le (by have := h.1; omega) (by have := h.2; omega)
theorem oBm64 {n : Int} (h : -9223372036854775808 ≤ n ∧ n < 9223372036854775808) : n.bmod (2 ^ 64) = n := Int.bmod_eq_of_le (by have := h.1; omega) (by have := h.2; omega)
theorem oAdd32 {x y : Int32} (h : -2147483648 ≤ (x.toInt + y.toInt) ∧ (x.toInt + y.toInt) < 2147483648) : (x + y).toInt = x.toInt + y.toInt := by rw [Int32.toInt_add, oBm32 h]
theorem oSub32 {x y : Int32} (h : -2147483648 ≤ (x.toInt - y.toInt) ∧ (x.toInt - y.toInt) < 2147483648) : (x - y).toInt = x.toInt - y.toInt := by rw [Int32.toInt_sub, oBm32 h]
theorem oMul32 {x y : Int32} (h : -2147483648 ≤ (x.toInt * y.toInt) ∧ (x.toInt * y.toInt) < 2147483648) : (x * y).toInt = x.toInt * y.toInt := by rw [Int32.toInt_mul, oBm32 h]
theorem oAdd64 {x y : Int64} (h : -9223372036854775808 ≤ (x.toInt + y.toInt) ∧ (x.toInt + y.toInt) < 9223372036854775808) : (x + y).toInt = x.toInt + y.toInt := by rw [Int64.toInt_add, oBm64 h]
theorem oSub64 {x y : Int64} (h : -9223372036854775808 ≤ (x.toInt - y.toInt) ∧ (x.toInt - y.toInt) < 9223372036854775808) : (x - y).toInt = x.toInt - y.toInt := by rw [Int64.toInt_sub, oBm64 h]
theorem oMul64 {x y : Int64} (h : -9223372036854775808 ≤ (x.toInt * y.toInt) ∧ (x.toInt * y.toInt) < 9223372036854775808) : (x * y).toInt = x.toInt * y.toInt := by rw [Int64.toInt_mul, oBm64 h]
theorem oRem32 {x y : Int32} (hx : 0 ≤ x.toInt) : (x % y).toInt = x.toInt % y.toInt := by rw [Int32.toInt_mod, Int.tmod_eq_emod_of_nonneg hx]
theorem oIx (x k : Int32) (hx : 0 ≤ x.toInt) (hk : 0 ≤ k.toInt) (h : x.toInt + k.toInt < 2147483648) : ¬ (x + k) < 0 ∧ (x + k).toNatClampNeg = x.toNatClampNeg + k.toNatClampNeg := by
  have e : (x + k).toInt = x.toInt + k.toInt := XT.add32 ⟨by omega, by omega⟩
  refine ⟨by rw [XT.negI32]; omega, ?_⟩
  simp only [Int32.toNatClampNeg, e]; omega
theorem oSto {l l' : Array Slot} {i : Nat} {v : Value} {o : Slot} (hold : l[i]? = some o) (ho : One o) (hv : v.category = 1) (e : l.setIfInBounds i (.val v) = l') : storeLocals l i v = some l' := by rw [XS.store1 hold ho hv, e]
theorem oEqI {t : Term} {n : Int32} {args : Array Value} {s : State} (h : (Jvm.Cond.eq t (.int n)).value args s none s [] = some true) : t.eval args s none [] s = some (.int n) := by
  simp only [Cond.value, Term.eval] at h
  cases ht : t.eval args s none [] s with
  | none => simp [ht] at h
  | some x => cases x <;> simp [ht] at h ⊢ <;> exact h
theorem oEqR {t u : Term} {b : Addr} {args : Array Value} {s : State} (h : (Jvm.Cond.eq t u).value args s none s [] = some true) (hu : u.eval args s none [] s = some (.ref b)) : t.eval args s none [] s = some (.ref b) := by
  simp only [Cond.value, hu] at h
  cases ht : t.eval args s none [] s with
  | none => simp [ht] at h
  | some x => cases x <;> simp [ht] at h ⊢ <;> exact h
theorem oN0 {x : Int32} (hx : 0 ≤ x.toInt) : ¬ x < 0 := by rw [XT.negI32]; omega
theorem oB8 (x : Int32) : nar .byte x.toInt8.toInt32 = x.toInt8.toInt32 := by simp [nar]
theorem oLt {α : Type} {l : List α} {i : Nat} {x : α} (h : l[i]? = some x) : i < l.length := (List.getElem?_eq_some_iff.mp h).1
theorem oNarR {t : FieldType} {v : Value} (h : v.isRef = true) : narrow t v = v := by cases v <;> simp [Value.isRef] at h <;> cases t <;> rfl
theorem oFitR {t : FieldType} {v : Value} (ht : t.isReference = true) (h : v.isRef = true) : fits t v = true := by cases v <;> simp [Value.isRef] at h <;> cases t <;> first | rfl | cases ht
theorem own_shl2 (x : Int32) : x <<< ((2 : Int32) &&& 31) = x * 4 := by
  apply Int32.toBitVec_inj.mp
  simp
  rw [BitVec.shiftLeft_eq_mul_twoPow]; rfl
theorem own_m4 (x m : Int32) (k : Nat) (hk : k ≤ 8) (hm : m.toBitVec.toNat = 2 ^ k - 1) : ((x &&& m) <<< ((2 : Int32) &&& 31)).toInt = 4 * (x.toInt % (2 ^ k : Nat)) ∧ 0 ≤ x.toInt % (2 ^ k : Nat) ∧ x.toInt % (2 ^ k : Nat) < (2 ^ k : Nat) := by
  have h := c_mask x m k (by omega) hm
  have p : (0 : Int) < (2 ^ k : Nat) := by have := Nat.two_pow_pos k; omega
  have h1 := Int.emod_nonneg x.toInt (Int.ne_of_gt p)
  have h2 := Int.emod_lt_of_pos x.toInt p
  have h3 : (2 ^ k : Nat) ≤ 2 ^ 8 := Nat.pow_le_pow_right (by omega) hk
  have e : (4 : Int32).toInt = 4 := rfl
  refine ⟨?_, h1, h2⟩
  rw [own_shl2, oMul32] <;> rw [e, h] <;> omega
theorem own_neg (b : Int32) : (b ||| (-2147483648 : Int32)) < 0 := by
  rw [XT.neg32, Int32.toBitVec_or, BitVec.msb_or]
  have : (-2147483648 : Int32).toBitVec.msb = true := by decide
  rw [this]; simp
def own_mk (cd : Int32) : Int32 := -(XT.ushr (-cd) (31 : Int32))
theorem own_mk0 : own_mk 0 = 0 := by decide
theorem own_mk1 {cd : Int32} (h : 0 < cd.toInt) : own_mk cd = -1 := by
  have q : (-cd).toInt < 0 := by
    rw [Int32.toInt_neg, oBm32] <;> (have := cd.toInt_lt; omega)
  have q2 : (-cd).toBitVec.msb = true := (XT.neg32 _).mp ((XT.negI32 _).mpr q)
  have q3 : XT.ushr (-cd) 31 = 1 := by
    apply Int32.toBitVec_inj.mp
    simp only [XT.ushr]
    have e : ((31 : Int32) &&& 31).toUInt32 = 31 := by decide
    rw [e]
    generalize (-cd) = y at *
    show (y.toUInt32 >>> 31).toBitVec = 1#32
    rw [UInt32.toBitVec_shiftRight]
    show y.toBitVec >>> _ = _
    ext i hi
    simp
    rcases Nat.eq_zero_or_pos i with h0 | h0
    · subst h0
      rw [BitVec.msb_eq_getLsbD_last] at q2
      simpa using q2
    · rw [BitVec.getLsbD_of_ge _ _ (by omega)]
      have : ¬ i = 0 := by omega
      simp [this]
  rw [own_mk, q3]
def own_so (st cd bs ck : Int32) : Int32 := if ((ck ^^^ st) &&& own_mk cd) = 0 then ((bs + cd) &&& own_mk cd) else (if cd = 0 then 0 else -1)
theorem own_fin (st cd bs ck : Int32) (h : 0 ≤ cd.toInt) : own_so st cd bs ck = if cd = 0 then 0 else if ck = st then bs + cd else -1 := by
  unfold own_so
  by_cases q : cd = 0
  · subst q; rw [own_mk0]; simp
  · have : 0 < cd.toInt := by
      have : ¬ cd.toInt = 0 := fun z => q (Int32.toInt_inj.mp z)
      omega
    rw [own_mk1 this, if_neg q]
    simp only [Int32.and_neg_one]
    have e : ((ck ^^^ st) = 0) ↔ ck = st := by
      constructor
      · intro z; simpa using z
      · intro z; subst z; simp
    simp only [e, if_neg q]
theorem own_ix {b d : Int32} (h1 : 0 ≤ b.toInt) (h2 : b.toInt ≤ 28) (h3 : 0 ≤ d.toInt) (h4 : d.toInt ≤ 28) : ¬ (b + d + (1 : Int32)) < 0 ∧ (b + d + (1 : Int32)).toNatClampNeg = b.toNatClampNeg + d.toNatClampNeg + 1 := by
  have e1 : (1 : Int32).toInt = 1 := rfl
  have e2 : (b + d).toInt = b.toInt + d.toInt := by rw [oAdd32]; omega
  have e3 : (b + d + (1 : Int32)).toInt = b.toInt + d.toInt + 1 := by rw [oAdd32] <;> rw [e2, e1]; omega
  rw [XT.negI32]
  simp only [Int32.toNatClampNeg, e3]; omega
def own_sa (cd : Int32) : Int32 := if cd = 0 then 0 else -1
theorem d1_0 : decode prog_11_method_20_code 0 = .ok (.iload_n 2, 1) := by decide +kernel
theorem d1_1 : decode prog_11_method_20_code 1 = .ok (.ineg, 1) := by decide +kernel
theorem d1_2 : decode prog_11_method_20_code 2 = .ok (.bipush 31, 2) := by decide +kernel
theorem d1_4 : decode prog_11_method_20_code 4 = .ok (.iushr, 1) := by decide +kernel
theorem d1_5 : decode prog_11_method_20_code 5 = .ok (.ineg, 1) := by decide +kernel
theorem d1_6 : decode prog_11_method_20_code 6 = .ok (.istore_n 3, 1) := by decide +kernel
theorem d1_7 : decode prog_11_method_20_code 7 = .ok (.aload_n 0, 1) := by decide +kernel
theorem d1_8 : decode prog_11_method_20_code 8 = .ok (.iload_n 1, 1) := by decide +kernel
theorem d1_9 : decode prog_11_method_20_code 9 = .ok (.iconst 0, 1) := by decide +kernel
theorem d1_10 : decode prog_11_method_20_code 10 = .ok (.iadd, 1) := by decide +kernel
theorem d1_11 : decode prog_11_method_20_code 11 = .ok (.iaload, 1) := by decide +kernel
theorem d1_12 : decode prog_11_method_20_code 12 = .ok (.istore 4, 2) := by decide +kernel
theorem d1_14 : decode prog_11_method_20_code 14 = .ok (.iload 4, 2) := by decide +kernel
theorem d1_16 : decode prog_11_method_20_code 16 = .ok (.ifCond .lt 29, 3) := by decide +kernel
theorem d1_45 : decode prog_11_method_20_code 45 = .ok (.iload_n 2, 1) := by decide +kernel
theorem d1_46 : decode prog_11_method_20_code 46 = .ok (.ifCond .ne 9, 3) := by decide +kernel
theorem d1_49 : decode prog_11_method_20_code 49 = .ok (.iconst 0, 1) := by decide +kernel
theorem d1_50 : decode prog_11_method_20_code 50 = .ok (.istore 5, 2) := by decide +kernel
theorem d1_52 : decode prog_11_method_20_code 52 = .ok (.goto 6, 3) := by decide +kernel
theorem d1_55 : decode prog_11_method_20_code 55 = .ok (.iconst (-1), 1) := by decide +kernel
theorem d1_56 : decode prog_11_method_20_code 56 = .ok (.istore 5, 2) := by decide +kernel
theorem d1_58 : decode prog_11_method_20_code 58 = .ok (.iload 5, 2) := by decide +kernel
theorem d1_60 : decode prog_11_method_20_code 60 = .ok (.ireturn, 1) := by decide +kernel
theorem pn_com_example_rakau_rakau_DoubleArray : plainName "com/example/rakau/rakau/DoubleArray" = true := by first | (simp [plainName, overriddenIn]; done) | decide +kernel
set_option maxRecDepth 65536 in
set_option maxHeartbeats 40000000 in
theorem cA (l : Launch) (Z : State) (a0 : Array Value) (hw : ∀ d ∈ tables_1, d.before a0 Z = true) {V : oVw} (a : Addr) (st : Int32) (cd : Int32) (bs : Int32) (ck : Int32) (vs : List Value) {i : Nat} (hi : V[i]? = some (a, (.inr (.int, vs)))) (g0 : ¬ st < 0) (r0 : vs[st.toNatClampNeg]? = some (.int bs)) (hb : bs < 0) :
    oCon l Z (⟨"com/example/rakau/rakau/DoubleArray", "straightOnWithoutBranch", "([III)I"⟩ : MethodName) prog_11_method_20_code 6 (some .int) ({ frames := 0, cells := 0, slots := 0, locals := 0 } : Room) #[(.ref a), (.int st), (.int cd)] V (fun v V' => v = some (.int (own_sa cd)) ∧ V' = V) := by
  refine oEnter (plainFor_of_name pn_com_example_rakau_rakau_DoubleArray) (Ls := #[.val (.ref a), .val (.int st), .val (.int cd), .unset, .unset, .unset]) (fun m => by first | (simp [entryFrame, mkF, argsToLocals, Value.category]; done) | rfl) ?_
  intro p e s m below meth c T E X
  refine gIloadN E X d1_0 rfl (q := 1) rfl ?_
  refine gIneg E X d1_1 (z := (-cd)) rfl (q := 2) rfl ?_
  refine gBipush E X d1_2 (v := (31 : Int32)) (by decide) (q := 4) rfl ?_
  refine gIushr E X d1_4 (z := (XT.ushr (-cd) (31 : Int32))) rfl (q := 5) rfl ?_
  refine gIneg E X d1_5 (z := (own_mk cd)) rfl (q := 6) rfl ?_
  refine gIstoreN E X d1_6 (l' := #[.val (.ref a), .val (.int st), .val (.int cd), .val (.int (own_mk cd)), .unset, .unset]) rfl (q := 7) rfl ?_
  refine gAloadN E X d1_7 rfl rfl (q := 8) rfl ?_
  refine gIloadN E X d1_8 rfl (q := 9) rfl ?_
  refine gIconst E X d1_9 (v := (0 : Int32)) (by decide) (q := 10) rfl ?_
  refine gIadd E X d1_10 (z := st) (Int32.add_zero st) (q := 11) rfl ?_
  refine gIaload E X (i := i) (v := (.int bs)) d1_11 hi g0 r0 (q := 12) rfl ?_
  refine gIstore E X d1_12 (l' := #[.val (.ref a), .val (.int st), .val (.int cd), .val (.int (own_mk cd)), .val (.int bs), .unset]) rfl (q := 14) rfl ?_
  refine gIload E X d1_14 rfl (q := 16) rfl ?_
  refine gIf_lt E X d1_16 (by decide) (q := 45) (by decide) (q' := 19) rfl (fun h16 => ?_) (fun h16 => by exfalso; exact h16 hb)
  refine gIloadN E X d1_45 rfl (q := 46) rfl ?_
  have k46 : ∀ (j46 : Int32) (hj46 : j46 = (if cd = 0 then (0 : Int32) else (-1 : Int32))), oG p e below s Z ({ frames := 0, cells := 0, slots := 0, locals := 0 } : Room) (fun v V' => v = some (.int (own_sa cd)) ∧ V' = V) T (mkF m 58 #[.val (.ref a), .val (.int st), .val (.int cd), .val (.int (own_mk cd)), .val (.int bs), .val (.int j46)] []) := by
    intro j46 hj46
    refine gIload E X d1_58 rfl (q := 60) rfl ?_
    exact gRetI E X d1_60 (by decide) (by decide) (⟨by rw [hj46]; rfl, rfl⟩)
  refine gIf_ne E X d1_46 (by decide) (q := 55) (by decide) (q' := 49) rfl (fun h46 => ?_) (fun h46 => ?_)
  · refine gIconst E X d1_55 (v := (-1 : Int32)) (by decide) (q := 56) rfl ?_
    refine gIstore E X d1_56 (l' := #[.val (.ref a), .val (.int st), .val (.int cd), .val (.int (own_mk cd)), .val (.int bs), .val (.int (-1 : Int32))]) rfl (q := 58) rfl ?_
    exact k46 _ (by simp only [if_neg h46])
  · refine gIconst E X d1_49 (v := (0 : Int32)) (by decide) (q := 50) rfl ?_
    refine gIstore E X d1_50 (l' := #[.val (.ref a), .val (.int st), .val (.int cd), .val (.int (own_mk cd)), .val (.int bs), .val (.int (0 : Int32))]) rfl (q := 52) rfl ?_
    refine gGoto E X d1_52 (by decide) (q := 58) (by decide) ?_
    exact k46 _ (by simp only [if_pos h46])
theorem d1_19 : decode prog_11_method_20_code 19 = .ok (.aload_n 0, 1) := by decide +kernel
theorem d1_20 : decode prog_11_method_20_code 20 = .ok (.iload 4, 2) := by decide +kernel
theorem d1_22 : decode prog_11_method_20_code 22 = .ok (.iload_n 2, 1) := by decide +kernel
theorem d1_23 : decode prog_11_method_20_code 23 = .ok (.iadd, 1) := by decide +kernel
theorem d1_24 : decode prog_11_method_20_code 24 = .ok (.iconst 1, 1) := by decide +kernel
theorem d1_25 : decode prog_11_method_20_code 25 = .ok (.iadd, 1) := by decide +kernel
theorem d1_26 : decode prog_11_method_20_code 26 = .ok (.iaload, 1) := by decide +kernel
theorem d1_27 : decode prog_11_method_20_code 27 = .ok (.iload_n 1, 1) := by decide +kernel
theorem d1_28 : decode prog_11_method_20_code 28 = .ok (.ixor, 1) := by decide +kernel
theorem d1_29 : decode prog_11_method_20_code 29 = .ok (.iload_n 3, 1) := by decide +kernel
theorem d1_30 : decode prog_11_method_20_code 30 = .ok (.iand, 1) := by decide +kernel
theorem d1_31 : decode prog_11_method_20_code 31 = .ok (.ifCond .ne 14, 3) := by decide +kernel
theorem d1_34 : decode prog_11_method_20_code 34 = .ok (.iload 4, 2) := by decide +kernel
theorem d1_36 : decode prog_11_method_20_code 36 = .ok (.iload_n 2, 1) := by decide +kernel
theorem d1_37 : decode prog_11_method_20_code 37 = .ok (.iadd, 1) := by decide +kernel
theorem d1_38 : decode prog_11_method_20_code 38 = .ok (.iload_n 3, 1) := by decide +kernel
theorem d1_39 : decode prog_11_method_20_code 39 = .ok (.iand, 1) := by decide +kernel
theorem d1_40 : decode prog_11_method_20_code 40 = .ok (.istore 5, 2) := by decide +kernel
theorem d1_42 : decode prog_11_method_20_code 42 = .ok (.goto 16, 3) := by decide +kernel
set_option maxRecDepth 65536 in
set_option maxHeartbeats 40000000 in
theorem cB (l : Launch) (Z : State) (a0 : Array Value) (hw : ∀ d ∈ tables_1, d.before a0 Z = true) {V : oVw} (a : Addr) (st : Int32) (cd : Int32) (bs : Int32) (ck : Int32) (vs : List Value) {i : Nat} (hi : V[i]? = some (a, (.inr (.int, vs)))) (g0 : ¬ st < 0) (r0 : vs[st.toNatClampNeg]? = some (.int bs)) (hb : ¬ bs < 0) (g1 : ¬ (bs + cd + (1 : Int32)) < 0) (r1 : vs[(bs + cd + (1 : Int32)).toNatClampNeg]? = some (.int ck)) :
    oCon l Z (⟨"com/example/rakau/rakau/DoubleArray", "straightOnWithoutBranch", "([III)I"⟩ : MethodName) prog_11_method_20_code 6 (some .int) ({ frames := 0, cells := 0, slots := 0, locals := 0 } : Room) #[(.ref a), (.int st), (.int cd)] V (fun v V' => v = some (.int (own_so st cd bs ck)) ∧ V' = V) := by
  refine oEnter (plainFor_of_name pn_com_example_rakau_rakau_DoubleArray) (Ls := #[.val (.ref a), .val (.int st), .val (.int cd), .unset, .unset, .unset]) (fun m => by first | (simp [entryFrame, mkF, argsToLocals, Value.category]; done) | rfl) ?_
  intro p e s m below meth c T E X
  refine gIloadN E X d1_0 rfl (q := 1) rfl ?_
  refine gIneg E X d1_1 (z := (-cd)) rfl (q := 2) rfl ?_
  refine gBipush E X d1_2 (v := (31 : Int32)) (by decide) (q := 4) rfl ?_
  refine gIushr E X d1_4 (z := (XT.ushr (-cd) (31 : Int32))) rfl (q := 5) rfl ?_
  refine gIneg E X d1_5 (z := (own_mk cd)) rfl (q := 6) rfl ?_
  refine gIstoreN E X d1_6 (l' := #[.val (.ref a), .val (.int st), .val (.int cd), .val (.int (own_mk cd)), .unset, .unset]) rfl (q := 7) rfl ?_
  refine gAloadN E X d1_7 rfl rfl (q := 8) rfl ?_
  refine gIloadN E X d1_8 rfl (q := 9) rfl ?_
  refine gIconst E X d1_9 (v := (0 : Int32)) (by decide) (q := 10) rfl ?_
  refine gIadd E X d1_10 (z := st) (Int32.add_zero st) (q := 11) rfl ?_
  refine gIaload E X (i := i) (v := (.int bs)) d1_11 hi g0 r0 (q := 12) rfl ?_
  refine gIstore E X d1_12 (l' := #[.val (.ref a), .val (.int st), .val (.int cd), .val (.int (own_mk cd)), .val (.int bs), .unset]) rfl (q := 14) rfl ?_
  refine gIload E X d1_14 rfl (q := 16) rfl ?_
  refine gIf_lt E X d1_16 (by decide) (q := 45) (by decide) (q' := 19) rfl (fun h16 => by exfalso; exact hb h16) (fun h16 => ?_)
  refine gAloadN E X d1_19 rfl rfl (q := 20) rfl ?_
  refine gIload E X d1_20 rfl (q := 22) rfl ?_
  refine gIloadN E X d1_22 rfl (q := 23) rfl ?_
  refine gIadd E X d1_23 (z := (bs + cd)) rfl (q := 24) rfl ?_
  refine gIconst E X d1_24 (v := (1 : Int32)) (by decide) (q := 25) rfl ?_
  refine gIadd E X d1_25 (z := ((bs + cd) + (1 : Int32))) rfl (q := 26) rfl ?_
  refine gIaload E X (i := i) (v := (.int ck)) d1_26 hi g1 r1 (q := 27) rfl ?_
  refine gIloadN E X d1_27 rfl (q := 28) rfl ?_
  refine gIxor E X d1_28 (z := (ck ^^^ st)) rfl (q := 29) rfl ?_
  refine gIloadN E X d1_29 rfl (q := 30) rfl ?_
  refine gIand E X d1_30 (z := ((ck ^^^ st) &&& (own_mk cd))) rfl (q := 31) rfl ?_
  have k31 : ∀ (j31 : Int32) (hj31 : j31 = (if ((ck ^^^ st) &&& (own_mk cd)) = 0 then ((bs + cd) &&& (own_mk cd)) else (if cd = 0 then (0 : Int32) else (-1 : Int32)))), oG p e below s Z ({ frames := 0, cells := 0, slots := 0, locals := 0 } : Room) (fun v V' => v = some (.int (own_so st cd bs ck)) ∧ V' = V) T (mkF m 58 #[.val (.ref a), .val (.int st), .val (.int cd), .val (.int (own_mk cd)), .val (.int bs), .val (.int j31)] []) := by
    intro j31 hj31
    refine gIload E X d1_58 rfl (q := 60) rfl ?_
    exact gRetI E X d1_60 (by decide) (by decide) (⟨by rw [hj31]; rfl, rfl⟩)
  refine gIf_ne E X d1_31 (by decide) (q := 45) (by decide) (q' := 34) rfl (fun h31 => ?_) (fun h31 => ?_)
  · refine gIloadN E X d1_45 rfl (q := 46) rfl ?_
    refine gIf_ne E X d1_46 (by decide) (q := 55) (by decide) (q' := 49) rfl (fun h46 => ?_) (fun h46 => ?_)
    · refine gIconst E X d1_55 (v := (-1 : Int32)) (by decide) (q := 56) rfl ?_
      refine gIstore E X d1_56 (l' := #[.val (.ref a), .val (.int st), .val (.int cd), .val (.int (own_mk cd)), .val (.int bs), .val (.int (-1 : Int32))]) rfl (q := 58) rfl ?_
      exact k31 _ (by simp only [if_neg h31, if_neg h46])
    · refine gIconst E X d1_49 (v := (0 : Int32)) (by decide) (q := 50) rfl ?_
      refine gIstore E X d1_50 (l' := #[.val (.ref a), .val (.int st), .val (.int cd), .val (.int (own_mk cd)), .val (.int bs), .val (.int (0 : Int32))]) rfl (q := 52) rfl ?_
      refine gGoto E X d1_52 (by decide) (q := 58) (by decide) ?_
      exact k31 _ (by simp only [if_neg h31, if_pos h46])
  · refine gIload E X d1_34 rfl (q := 36) rfl ?_
    refine gIloadN E X d1_36 rfl (q := 37) rfl ?_
    refine gIadd E X d1_37 (z := (bs + cd)) rfl (q := 38) rfl ?_
    refine gIloadN E X d1_38 rfl (q := 39) rfl ?_
    refine gIand E X d1_39 (z := ((bs + cd) &&& (own_mk cd))) rfl (q := 40) rfl ?_
    refine gIstore E X d1_40 (l' := #[.val (.ref a), .val (.int st), .val (.int cd), .val (.int (own_mk cd)), .val (.int bs), .val (.int ((bs + cd) &&& (own_mk cd)))]) rfl (q := 42) rfl ?_
    refine gGoto E X d1_42 (by decide) (q := 58) (by decide) ?_
    exact k31 _ (by simp only [if_pos h31])
theorem pd_0 : parseMethodDescriptor "([III)I" = some ⟨[(.array .int), .int, .int], some .int⟩ := by decide +kernel
theorem pn_com_example_rakau_rakau_DoubleArrayStraightOnWithoutBranchPinLaw : plainName "com/example/rakau/rakau/DoubleArrayStraightOnWithoutBranchPinLaw" = true := by first | (simp [plainName, overriddenIn]; done) | decide +kernel
set_option maxRecDepth 65536 in
set_option maxHeartbeats 40000000 in
theorem rm0 (l : Launch) (Z : State) (a0 : Array Value) (hw : ∀ d ∈ tables_1, d.before a0 Z = true) (u0 : Int32) (u1 : Int32) (u2 : Int32) (u3 : Int32)  :
    oCon l Z x code maxLocals ret room_1 #[(.int u0), (.int u1), (.int u2), (.int u3)] [] (fun v _ => v = some (.int 1)) := by
  refine oEnter (plainFor_of_name pn_com_example_rakau_rakau_DoubleArrayStraightOnWithoutBranchPinLaw) (Ls := #[.val (.int u0), .val (.int u1), .val (.int u2), .val (.int u3), .unset, .unset, .unset, .unset, .unset, .unset, .unset, .unset, .unset]) (fun m => by first | (simp [entryFrame, mkF, argsToLocals, Value.category, maxLocals]; done) | rfl) ?_
  intro p e s m below meth c T E X
  refine gIloadN E X at_0 rfl (q := 1) rfl ?_
  refine gBipush E X at_1 (v := (15 : Int32)) (by decide) (q := 3) rfl ?_
  refine gIand E X at_3 (z := (u0 &&& (15 : Int32))) rfl (q := 4) rfl ?_
  refine gIconst E X at_4 (v := (2 : Int32)) (by decide) (q := 5) rfl ?_
  refine gIshl E X at_5 (z := ((u0 &&& (15 : Int32)) <<< ((2 : Int32) &&& 31))) rfl (q := 6) rfl ?_
  refine gIstore E X at_6 (l' := #[.val (.int u0), .val (.int u1), .val (.int u2), .val (.int u3), .val (.int ((u0 &&& (15 : Int32)) <<< ((2 : Int32) &&& 31))), .unset, .unset, .unset, .unset, .unset, .unset, .unset, .unset]) rfl (q := 8) rfl ?_
  refine (fun (k : ∀ (st : Int32), st = ((u0 &&& (15 : Int32)) <<< ((2 : Int32) &&& 31)) → oG p e below s Z room_1 (fun v _ => v = some (.int 1)) T (mkF m 8 #[.val (.int u0), .val (.int u1), .val (.int u2), .val (.int u3), .val (.int st), .unset, .unset, .unset, .unset, .unset, .unset, .unset, .unset] [])) => k _ rfl) ?_
  intro st hst
  have hs := own_m4 u0 15 4 (by decide) (by decide)
  rw [← hst] at hs
  obtain ⟨hs1, hs2, hs3⟩ := hs
  generalize u0.toInt % (2 ^ 4 : Nat) = xs at hs1 hs2 hs3
  have hs0 : 0 ≤ st.toInt := by omega
  have hn : st.toNatClampNeg = 4 * xs.toNat := by simp only [Int32.toNatClampNeg, hs1]; omega
  refine gIloadN E X at_8 rfl (q := 9) rfl ?_
  refine gBipush E X at_9 (v := (16 : Int32)) (by decide) (q := 11) rfl ?_
  refine gIand E X at_11 (z := (u0 &&& (16 : Int32))) rfl (q := 12) rfl ?_
  refine gIf_eq E X at_12 (by decide) (q := 19) (by decide) (q' := 15) rfl (fun h12 => ?_) (fun h12 => ?_)
  · refine gIconst E X at_19 (v := (0 : Int32)) (by decide) (q := 20) rfl ?_
    refine gIstore E X at_20 (l' := #[.val (.int u0), .val (.int u1), .val (.int u2), .val (.int u3), .val (.int st), .val (.int (0 : Int32)), .unset, .unset, .unset, .unset, .unset, .unset, .unset]) rfl (q := 22) rfl ?_
    refine gIloadN E X at_22 rfl (q := 23) rfl ?_
    refine gBipush E X at_23 (v := (32 : Int32)) (by decide) (q := 25) rfl ?_
    refine gIand E X at_25 (z := (u0 &&& (32 : Int32))) rfl (q := 26) rfl ?_
    have k26 : ∀ (j26 : Int32) (hj26 : j26 = (if (u0 &&& (32 : Int32)) = 0 then (0 : Int32) else (1 : Int32))), oG p e below s Z room_1 (fun v _ => v = some (.int 1)) T (mkF m 34 #[.val (.int u0), .val (.int u1), .val (.int u2), .val (.int u3), .val (.int st), .val (.int (0 : Int32)), .unset, .unset, .unset, .unset, .unset, .unset, .unset] [(.int j26)]) := by
      intro j26 hj26
      refine gIstore E X at_34 (l' := #[.val (.int u0), .val (.int u1), .val (.int u2), .val (.int u3), .val (.int st), .val (.int (0 : Int32)), .val (.int j26), .unset, .unset, .unset, .unset, .unset, .unset]) rfl (q := 36) rfl ?_
      refine gIloadN E X at_36 rfl (q := 37) rfl ?_
      refine gBipush E X at_37 (v := (64 : Int32)) (by decide) (q := 39) rfl ?_
      refine gIand E X at_39 (z := (u0 &&& (64 : Int32))) rfl (q := 40) rfl ?_
      have k40 : ∀ (j40 : Int32) (hj40 : j40 = (if (u0 &&& (64 : Int32)) = 0 then (0 : Int32) else (1 : Int32))), oG p e below s Z room_1 (fun v _ => v = some (.int 1)) T (mkF m 48 #[.val (.int u0), .val (.int u1), .val (.int u2), .val (.int u3), .val (.int st), .val (.int (0 : Int32)), .val (.int j26), .unset, .unset, .unset, .unset, .unset, .unset] [(.int j40)]) := by
        intro j40 hj40
        refine gIstore E X at_48 (l' := #[.val (.int u0), .val (.int u1), .val (.int u2), .val (.int u3), .val (.int st), .val (.int (0 : Int32)), .val (.int j26), .val (.int j40), .unset, .unset, .unset, .unset, .unset]) rfl (q := 50) rfl ?_
        refine gIload E X at_50 rfl (q := 52) rfl ?_
        refine gIf_eq E X at_52 (by decide) (q := 62) (by decide) (q' := 55) rfl (fun h52 => ?_) (fun h52 => by exfalso; exact absurd h52 (by decide))
        refine gIloadN E X at_62 rfl (q := 63) rfl ?_
        refine gBipush E X at_63 (v := (7 : Int32)) (by decide) (q := 65) rfl ?_
        refine gIand E X at_65 (z := (u1 &&& (7 : Int32))) rfl (q := 66) rfl ?_
        refine gIconst E X at_66 (v := (2 : Int32)) (by decide) (q := 67) rfl ?_
        refine gIshl E X at_67 (z := ((u1 &&& (7 : Int32)) <<< ((2 : Int32) &&& 31))) rfl (q := 68) rfl ?_
        refine gIstore E X at_68 (l' := #[.val (.int u0), .val (.int u1), .val (.int u2), .val (.int u3), .val (.int st), .val (.int (0 : Int32)), .val (.int j26), .val (.int j40), .val (.int ((u1 &&& (7 : Int32)) <<< ((2 : Int32) &&& 31))), .unset, .unset, .unset, .unset]) rfl (q := 70) rfl ?_
        refine (fun (k : ∀ (bs : Int32), bs = ((u1 &&& (7 : Int32)) <<< ((2 : Int32) &&& 31)) → oG p e below s Z room_1 (fun v _ => v = some (.int 1)) T (mkF m 70 #[.val (.int u0), .val (.int u1), .val (.int u2), .val (.int u3), .val (.int st), .val (.int (0 : Int32)), .val (.int j26), .val (.int j40), .val (.int bs), .unset, .unset, .unset, .unset] [])) => k _ rfl) ?_
        intro bs hbs
        have hb := own_m4 u1 7 3 (by decide) (by decide)
        rw [← hbs] at hb
        obtain ⟨hb1', hb2, hb3⟩ := hb
        generalize u1.toInt % (2 ^ 3 : Nat) = xb at hb1' hb2 hb3
        have hb0 : 0 ≤ bs.toInt := by omega
        have hb1 : bs.toInt ≤ 28 := by omega
        have hbn : bs.toNatClampNeg = 4 * xb.toNat := by simp only [Int32.toNatClampNeg, hb1']; omega
        refine gIload E X at_70 rfl (q := 72) rfl ?_
        have k72 : ∀ (j72 : Int32) (hj72 : j72 = (if j26 = 0 then ((u2 &&& (7 : Int32)) <<< ((2 : Int32) &&& 31)) else (0 : Int32))), oG p e below s Z room_1 (fun v _ => v = some (.int 1)) T (mkF m 103 #[.val (.int u0), .val (.int u1), .val (.int u2), .val (.int u3), .val (.int st), .val (.int (0 : Int32)), .val (.int j26), .val (.int j40), .val (.int bs), .val (.int j72), .unset, .unset, .unset] []) := by
          intro j72 hj72
          obtain ⟨hc1', hc2, hc3⟩ := own_m4 u2 7 3 (by decide) (by decide)
          have hcc : ∃ xc : Int, j72.toInt = 4 * xc ∧ 0 ≤ xc ∧ xc < 8 := by
            rw [hj72]; split
            · exact ⟨_, hc1', hc2, hc3⟩
            · exact ⟨0, rfl, by omega, by omega⟩
          obtain ⟨xc, hx1, hx2, hx3⟩ := hcc
          have hc0 : 0 ≤ j72.toInt := by omega
          have hc1 : j72.toInt ≤ 28 := by omega
          have hcn : j72.toNatClampNeg = 4 * xc.toNat := by simp only [Int32.toNatClampNeg, hx1]; omega
          refine gIload E X at_103 rfl (q := 105) rfl ?_
          have k105 : ∀ (j105 : Int32) (hj105 : j105 = (if j40 = 0 then u3 else st)), oG p e below s Z room_1 (fun v _ => v = some (.int 1)) T (mkF m 114 #[.val (.int u0), .val (.int u1), .val (.int u2), .val (.int u3), .val (.int st), .val (.int (0 : Int32)), .val (.int j26), .val (.int j40), .val (.int bs), .val (.int j72), .unset, .unset, .unset] [(.int j105)]) := by
            intro j105 hj105
            refine gIstore E X at_114 (l' := #[.val (.int u0), .val (.int u1), .val (.int u2), .val (.int u3), .val (.int st), .val (.int (0 : Int32)), .val (.int j26), .val (.int j40), .val (.int bs), .val (.int j72), .val (.int j105), .unset, .unset]) rfl (q := 116) rfl ?_
            refine gBipush E X at_116 (v := (64 : Int32)) (by decide) (q := 118) rfl ?_
            refine gNewA E X (c2 := 1) (s2 := 64) (cap := 64) (vs := (List.replicate 64 (.int (0 : Int32)))) (ty := .int) rfl at_118 (hw _ (List.mem_of_getElem? (i := 0) rfl)) (by decide) (by decide) (by decide) rfl (by decide) (by decide) (by decide) (by decide) (q := 120) rfl ?_
            intro T1 a1 X1
            refine gAstore E X1 at_120 rfl (l' := #[.val (.int u0), .val (.int u1), .val (.int u2), .val (.int u3), .val (.int st), .val (.int (0 : Int32)), .val (.int j26), .val (.int j40), .val (.int bs), .val (.int j72), .val (.int j105), .val (.ref a1), .unset]) rfl (q := 122) rfl ?_
            refine gAload E X1 at_122 rfl rfl (q := 124) rfl ?_
            refine gIload E X1 at_124 rfl (q := 126) rfl ?_
            refine gIload E X1 at_126 rfl (q := 128) rfl ?_
            refine gIastore E X1 (i := 0) (jn := st.toNatClampNeg) (x' := bs) (V' := [(a1, (.inr (.int, ((List.replicate 64 (.int (0 : Int32))).set st.toNatClampNeg (.int bs)))))]) at_128 rfl (oN0 hs0) rfl (by simp; omega) rfl rfl (q := 129) rfl ?_
            intro T2 X2
            refine gIload E X2 at_129 rfl (q := 131) rfl ?_
            refine gIf_ne E X2 at_131 (by decide) (q := 146) (by decide) (q' := 134) rfl (fun h131 => by exfalso; exact absurd h131 (by decide)) (fun h131 => ?_)
            refine gAload E X2 at_134 rfl rfl (q := 136) rfl ?_
            refine gIload E X2 at_136 rfl (q := 138) rfl ?_
            refine gIload E X2 at_138 rfl (q := 140) rfl ?_
            refine gIadd E X2 at_140 (z := (bs + j72)) rfl (q := 141) rfl ?_
            refine gIconst E X2 at_141 (v := (1 : Int32)) (by decide) (q := 142) rfl ?_
            refine gIadd E X2 at_142 (z := ((bs + j72) + (1 : Int32))) rfl (q := 143) rfl ?_
            refine gIload E X2 at_143 rfl (q := 145) rfl ?_
            refine gIastore E X2 (i := 0) (jn := (bs.toNatClampNeg + j72.toNatClampNeg + 1)) (x' := j105) (V' := [(a1, (.inr (.int, (((List.replicate 64 (.int (0 : Int32))).set st.toNatClampNeg (.int bs)).set (bs.toNatClampNeg + j72.toNatClampNeg + 1) (.int j105)))))]) at_145 rfl (own_ix hb0 hb1 hc0 hc1).1 (own_ix hb0 hb1 hc0 hc1).2 (by simp; omega) rfl rfl (q := 146) rfl ?_
            intro T3 X3
            refine gIload E X3 at_146 rfl (q := 148) rfl ?_
            have k148 : ∀ (j148 : Int32) (hj148 : j148 = (if j72 = 0 then (0 : Int32) else (if j105 = st then (bs + j72) else (-1 : Int32)))), oG p e below s Z room_1 (fun v _ => v = some (.int 1)) T3 (mkF m 182 #[.val (.int u0), .val (.int u1), .val (.int u2), .val (.int u3), .val (.int st), .val (.int (0 : Int32)), .val (.int j26), .val (.int j40), .val (.int bs), .val (.int j72), .val (.int j105), .val (.ref a1), .val (.int j148)] []) := by
              intro j148 hj148
              refine gAload E X3 at_182 rfl rfl (q := 184) rfl ?_
              refine gIload E X3 at_184 rfl (q := 186) rfl ?_
              refine gIload E X3 at_186 rfl (q := 188) rfl ?_
              refine gCallS E X3 (W := 0) (c2 := 1) (s2 := 64) [(.ref a1), (.int st), (.int j72)] [] at_188 (hw _ (List.mem_of_getElem? (i := 1) rfl)) (hw _ (List.mem_of_getElem? (i := 2) rfl)) (hw _ (List.mem_of_getElem? (i := 3) rfl)) (hw _ (List.mem_of_getElem? (i := 4) rfl)) (by decide) (cB l Z a0 hw a1 st j72 bs j105 _ (i := 0) rfl (oN0 hs0) (by rw [List.getElem?_set_ne (by omega)]; exact List.getElem?_set_self (by rw [List.length_replicate]; omega)) (oN0 hb0) (own_ix hb0 hb1 hc0 hc1).1 (by rw [(own_ix hb0 hb1 hc0 hc1).2]; exact List.getElem?_set_self (by rw [List.length_set, List.length_replicate]; omega))) pd_0 rfl rfl rfl (by decide) (Nat.le_of_eq rfl) (by decide) (by decide) (by decide) (by decide) (by decide) (q := 191) rfl ?_
              intro T4 v4 V4 R4 X4
              obtain ⟨rfl, rfl⟩ := R4
              replace X4 : oX p l e room_1 s m #[(.int u0), (.int u1), (.int u2), (.int u3)] below meth c Z T4 [(a1, (.inr (.int, (((List.replicate 64 (.int (0 : Int32))).set st.toNatClampNeg (.int bs)).set (bs.toNatClampNeg + j72.toNatClampNeg + 1) (.int j105)))))] 1 64 := X4
              show oG p e below s Z room_1 (fun v _ => v = some (.int 1)) T4 (mkF m 191 #[.val (.int u0), .val (.int u1), .val (.int u2), .val (.int u3), .val (.int st), .val (.int (0 : Int32)), .val (.int j26), .val (.int j40), .val (.int bs), .val (.int j72), .val (.int j105), .val (.ref a1), .val (.int j148)] [(.int (own_so st j72 bs j105))])
              refine gIload E X4 at_191 rfl (q := 193) rfl ?_
              refine gIc_ne E X4 at_193 (by decide) (q := 200) (by decide) (q' := 196) rfl (fun h193 => by exfalso; exact h193 (by rw [hj148]; exact own_fin _ _ _ _ hc0)) (fun h193 => ?_)
              refine gIconst E X4 at_196 (v := (1 : Int32)) (by decide) (q := 197) rfl ?_
              refine gGoto E X4 at_197 (by decide) (q := 201) (by decide) ?_
              exact gRetN E X4 (by simp) at_201 (by decide) (by decide) (rfl)
            refine gIf_ne E X3 at_148 (by decide) (q := 157) (by decide) (q' := 151) rfl (fun h148 => ?_) (fun h148 => ?_)
            · refine gIload E X3 at_157 rfl (q := 159) rfl ?_
              refine gIf_ne E X3 at_159 (by decide) (q := 179) (by decide) (q' := 162) rfl (fun h159 => by exfalso; exact absurd h159 (by decide)) (fun h159 => ?_)
              refine gIload E X3 at_162 rfl (q := 164) rfl ?_
              refine gIload E X3 at_164 rfl (q := 166) rfl ?_
              refine gIc_ne E X3 at_166 (by decide) (q := 179) (by decide) (q' := 169) rfl (fun h166 => ?_) (fun h166 => ?_)
              · refine gIconst E X3 at_179 (v := (-1 : Int32)) (by decide) (q := 180) rfl ?_
                refine gIstore E X3 at_180 (l' := #[.val (.int u0), .val (.int u1), .val (.int u2), .val (.int u3), .val (.int st), .val (.int (0 : Int32)), .val (.int j26), .val (.int j40), .val (.int bs), .val (.int j72), .val (.int j105), .val (.ref a1), .val (.int (-1 : Int32))]) rfl (q := 182) rfl ?_
                exact k148 _ (by simp only [if_neg h148, if_neg h166])
              · refine gIload E X3 at_169 rfl (q := 171) rfl ?_
                refine gIload E X3 at_171 rfl (q := 173) rfl ?_
                refine gIadd E X3 at_173 (z := (bs + j72)) rfl (q := 174) rfl ?_
                refine gIstore E X3 at_174 (l' := #[.val (.int u0), .val (.int u1), .val (.int u2), .val (.int u3), .val (.int st), .val (.int (0 : Int32)), .val (.int j26), .val (.int j40), .val (.int bs), .val (.int j72), .val (.int j105), .val (.ref a1), .val (.int (bs + j72))]) rfl (q := 176) rfl ?_
                refine gGoto E X3 at_176 (by decide) (q := 182) (by decide) ?_
                exact k148 _ (by simp only [if_neg h148, if_pos h166])
            · refine gIconst E X3 at_151 (v := (0 : Int32)) (by decide) (q := 152) rfl ?_
              refine gIstore E X3 at_152 (l' := #[.val (.int u0), .val (.int u1), .val (.int u2), .val (.int u3), .val (.int st), .val (.int (0 : Int32)), .val (.int j26), .val (.int j40), .val (.int bs), .val (.int j72), .val (.int j105), .val (.ref a1), .val (.int (0 : Int32))]) rfl (q := 154) rfl ?_
              refine gGoto E X3 at_154 (by decide) (q := 182) (by decide) ?_
              exact k148 _ (by simp only [if_pos h148])
          refine gIf_eq E X at_105 (by decide) (q := 113) (by decide) (q' := 108) rfl (fun h105 => ?_) (fun h105 => ?_)
          · refine gIloadN E X at_113 rfl (q := 114) rfl ?_
            exact k105 _ (by simp only [if_pos h105])
          · refine gIload E X at_108 rfl (q := 110) rfl ?_
            refine gGoto E X at_110 (by decide) (q := 114) (by decide) ?_
            exact k105 _ (by simp only [if_neg h105])
        refine gIf_eq E X at_72 (by decide) (q := 81) (by decide) (q' := 75) rfl (fun h72 => ?_) (fun h72 => ?_)
        · refine gIload E X at_81 rfl (q := 83) rfl ?_
          refine gIf_eq E X at_83 (by decide) (q := 95) (by decide) (q' := 86) rfl (fun h83 => ?_) (fun h83 => by exfalso; exact absurd h83 (by decide))
          refine gIloadN E X at_95 rfl (q := 96) rfl ?_
          refine gBipush E X at_96 (v := (7 : Int32)) (by decide) (q := 98) rfl ?_
          refine gIand E X at_98 (z := (u2 &&& (7 : Int32))) rfl (q := 99) rfl ?_
          refine gIconst E X at_99 (v := (2 : Int32)) (by decide) (q := 100) rfl ?_
          refine gIshl E X at_100 (z := ((u2 &&& (7 : Int32)) <<< ((2 : Int32) &&& 31))) rfl (q := 101) rfl ?_
          refine gIstore E X at_101 (l' := #[.val (.int u0), .val (.int u1), .val (.int u2), .val (.int u3), .val (.int st), .val (.int (0 : Int32)), .val (.int j26), .val (.int j40), .val (.int bs), .val (.int ((u2 &&& (7 : Int32)) <<< ((2 : Int32) &&& 31))), .unset, .unset, .unset]) rfl (q := 103) rfl ?_
          exact k72 _ (by simp only [if_pos h72])
        · refine gIconst E X at_75 (v := (0 : Int32)) (by decide) (q := 76) rfl ?_
          refine gIstore E X at_76 (l' := #[.val (.int u0), .val (.int u1), .val (.int u2), .val (.int u3), .val (.int st), .val (.int (0 : Int32)), .val (.int j26), .val (.int j40), .val (.int bs), .val (.int (0 : Int32)), .unset, .unset, .unset]) rfl (q := 78) rfl ?_
          refine gGoto E X at_78 (by decide) (q := 103) (by decide) ?_
          exact k72 _ (by simp only [if_neg h72])
      refine gIf_eq E X at_40 (by decide) (q := 47) (by decide) (q' := 43) rfl (fun h40 => ?_) (fun h40 => ?_)
      · refine gIconst E X at_47 (v := (0 : Int32)) (by decide) (q := 48) rfl ?_
        exact k40 _ (by simp only [if_pos h40])
      · refine gIconst E X at_43 (v := (1 : Int32)) (by decide) (q := 44) rfl ?_
        refine gGoto E X at_44 (by decide) (q := 48) (by decide) ?_
        exact k40 _ (by simp only [if_neg h40])
    refine gIf_eq E X at_26 (by decide) (q := 33) (by decide) (q' := 29) rfl (fun h26 => ?_) (fun h26 => ?_)
    · refine gIconst E X at_33 (v := (0 : Int32)) (by decide) (q := 34) rfl ?_
      exact k26 _ (by simp only [if_pos h26])
    · refine gIconst E X at_29 (v := (1 : Int32)) (by decide) (q := 30) rfl ?_
      refine gGoto E X at_30 (by decide) (q := 34) (by decide) ?_
      exact k26 _ (by simp only [if_neg h26])
  · refine gIconst E X at_15 (v := (1 : Int32)) (by decide) (q := 16) rfl ?_
    refine gGoto E X at_16 (by decide) (q := 20) (by decide) ?_
    refine gIstore E X at_20 (l' := #[.val (.int u0), .val (.int u1), .val (.int u2), .val (.int u3), .val (.int st), .val (.int (1 : Int32)), .unset, .unset, .unset, .unset, .unset, .unset, .unset]) rfl (q := 22) rfl ?_
    refine gIloadN E X at_22 rfl (q := 23) rfl ?_
    refine gBipush E X at_23 (v := (32 : Int32)) (by decide) (q := 25) rfl ?_
    refine gIand E X at_25 (z := (u0 &&& (32 : Int32))) rfl (q := 26) rfl ?_
    have k26 : ∀ (j26 : Int32) (hj26 : j26 = (if (u0 &&& (32 : Int32)) = 0 then (0 : Int32) else (1 : Int32))), oG p e below s Z room_1 (fun v _ => v = some (.int 1)) T (mkF m 34 #[.val (.int u0), .val (.int u1), .val (.int u2), .val (.int u3), .val (.int st), .val (.int (1 : Int32)), .unset, .unset, .unset, .unset, .unset, .unset, .unset] [(.int j26)]) := by
      intro j26 hj26
      refine gIstore E X at_34 (l' := #[.val (.int u0), .val (.int u1), .val (.int u2), .val (.int u3), .val (.int st), .val (.int (1 : Int32)), .val (.int j26), .unset, .unset, .unset, .unset, .unset, .unset]) rfl (q := 36) rfl ?_
      refine gIloadN E X at_36 rfl (q := 37) rfl ?_
      refine gBipush E X at_37 (v := (64 : Int32)) (by decide) (q := 39) rfl ?_
      refine gIand E X at_39 (z := (u0 &&& (64 : Int32))) rfl (q := 40) rfl ?_
      have k40 : ∀ (j40 : Int32) (hj40 : j40 = (if (u0 &&& (64 : Int32)) = 0 then (0 : Int32) else (1 : Int32))), oG p e below s Z room_1 (fun v _ => v = some (.int 1)) T (mkF m 48 #[.val (.int u0), .val (.int u1), .val (.int u2), .val (.int u3), .val (.int st), .val (.int (1 : Int32)), .val (.int j26), .unset, .unset, .unset, .unset, .unset, .unset] [(.int j40)]) := by
        intro j40 hj40
        refine gIstore E X at_48 (l' := #[.val (.int u0), .val (.int u1), .val (.int u2), .val (.int u3), .val (.int st), .val (.int (1 : Int32)), .val (.int j26), .val (.int j40), .unset, .unset, .unset, .unset, .unset]) rfl (q := 50) rfl ?_
        refine gIload E X at_50 rfl (q := 52) rfl ?_
        refine gIf_eq E X at_52 (by decide) (q := 62) (by decide) (q' := 55) rfl (fun h52 => by exfalso; exact absurd h52 (by decide)) (fun h52 => ?_)
        refine gIloadN E X at_55 rfl (q := 56) rfl ?_
        refine gLdcI E X at_56 (hw _ (List.mem_of_getElem? (i := 5) rfl)) (q := 58) rfl ?_
        refine gIor E X at_58 (z := (u1 ||| (-2147483648 : Int32))) rfl (q := 59) rfl ?_
        refine gGoto E X at_59 (by decide) (q := 68) (by decide) ?_
        refine gIstore E X at_68 (l' := #[.val (.int u0), .val (.int u1), .val (.int u2), .val (.int u3), .val (.int st), .val (.int (1 : Int32)), .val (.int j26), .val (.int j40), .val (.int (u1 ||| (-2147483648 : Int32))), .unset, .unset, .unset, .unset]) rfl (q := 70) rfl ?_
        refine (fun (k : ∀ (bs : Int32), bs = (u1 ||| (-2147483648 : Int32)) → oG p e below s Z room_1 (fun v _ => v = some (.int 1)) T (mkF m 70 #[.val (.int u0), .val (.int u1), .val (.int u2), .val (.int u3), .val (.int st), .val (.int (1 : Int32)), .val (.int j26), .val (.int j40), .val (.int bs), .unset, .unset, .unset, .unset] [])) => k _ rfl) ?_
        intro bs hbs
        have hb : bs < 0 := by rw [hbs]; exact own_neg u1
        refine gIload E X at_70 rfl (q := 72) rfl ?_
        have k72 : ∀ (j72 : Int32) (hj72 : j72 = (if j26 = 0 then (u2 &&& (2147483647 : Int32)) else (0 : Int32))), oG p e below s Z room_1 (fun v _ => v = some (.int 1)) T (mkF m 103 #[.val (.int u0), .val (.int u1), .val (.int u2), .val (.int u3), .val (.int st), .val (.int (1 : Int32)), .val (.int j26), .val (.int j40), .val (.int bs), .val (.int j72), .unset, .unset, .unset] []) := by
          intro j72 hj72
          refine gIload E X at_103 rfl (q := 105) rfl ?_
          have k105 : ∀ (j105 : Int32) (hj105 : j105 = (if j40 = 0 then u3 else st)), oG p e below s Z room_1 (fun v _ => v = some (.int 1)) T (mkF m 114 #[.val (.int u0), .val (.int u1), .val (.int u2), .val (.int u3), .val (.int st), .val (.int (1 : Int32)), .val (.int j26), .val (.int j40), .val (.int bs), .val (.int j72), .unset, .unset, .unset] [(.int j105)]) := by
            intro j105 hj105
            refine gIstore E X at_114 (l' := #[.val (.int u0), .val (.int u1), .val (.int u2), .val (.int u3), .val (.int st), .val (.int (1 : Int32)), .val (.int j26), .val (.int j40), .val (.int bs), .val (.int j72), .val (.int j105), .unset, .unset]) rfl (q := 116) rfl ?_
            refine gBipush E X at_116 (v := (64 : Int32)) (by decide) (q := 118) rfl ?_
            refine gNewA E X (c2 := 1) (s2 := 64) (cap := 64) (vs := (List.replicate 64 (.int (0 : Int32)))) (ty := .int) rfl at_118 (hw _ (List.mem_of_getElem? (i := 0) rfl)) (by decide) (by decide) (by decide) rfl (by decide) (by decide) (by decide) (by decide) (q := 120) rfl ?_
            intro T5 a5 X5
            refine gAstore E X5 at_120 rfl (l' := #[.val (.int u0), .val (.int u1), .val (.int u2), .val (.int u3), .val (.int st), .val (.int (1 : Int32)), .val (.int j26), .val (.int j40), .val (.int bs), .val (.int j72), .val (.int j105), .val (.ref a5), .unset]) rfl (q := 122) rfl ?_
            refine gAload E X5 at_122 rfl rfl (q := 124) rfl ?_
            refine gIload E X5 at_124 rfl (q := 126) rfl ?_
            refine gIload E X5 at_126 rfl (q := 128) rfl ?_
            refine gIastore E X5 (i := 0) (jn := st.toNatClampNeg) (x' := bs) (V' := [(a5, (.inr (.int, ((List.replicate 64 (.int (0 : Int32))).set st.toNatClampNeg (.int bs)))))]) at_128 rfl (oN0 hs0) rfl (by simp; omega) rfl rfl (q := 129) rfl ?_
            intro T6 X6
            refine gIload E X6 at_129 rfl (q := 131) rfl ?_
            refine gIf_ne E X6 at_131 (by decide) (q := 146) (by decide) (q' := 134) rfl (fun h131 => ?_) (fun h131 => by exfalso; exact absurd h131 (by decide))
            refine gIload E X6 at_146 rfl (q := 148) rfl ?_
            have k148 : ∀ (j148 : Int32) (hj148 : j148 = (if j72 = 0 then (0 : Int32) else (-1 : Int32))), oG p e below s Z room_1 (fun v _ => v = some (.int 1)) T6 (mkF m 182 #[.val (.int u0), .val (.int u1), .val (.int u2), .val (.int u3), .val (.int st), .val (.int (1 : Int32)), .val (.int j26), .val (.int j40), .val (.int bs), .val (.int j72), .val (.int j105), .val (.ref a5), .val (.int j148)] []) := by
              intro j148 hj148
              refine gAload E X6 at_182 rfl rfl (q := 184) rfl ?_
              refine gIload E X6 at_184 rfl (q := 186) rfl ?_
              refine gIload E X6 at_186 rfl (q := 188) rfl ?_
              refine gCallS E X6 (W := 0) (c2 := 1) (s2 := 64) [(.ref a5), (.int st), (.int j72)] [] at_188 (hw _ (List.mem_of_getElem? (i := 1) rfl)) (hw _ (List.mem_of_getElem? (i := 2) rfl)) (hw _ (List.mem_of_getElem? (i := 3) rfl)) (hw _ (List.mem_of_getElem? (i := 4) rfl)) (by decide) (cA l Z a0 hw a5 st j72 bs 0 _ (i := 0) rfl (oN0 hs0) (List.getElem?_set_self (by rw [List.length_replicate]; omega)) hb) pd_0 rfl rfl rfl (by decide) (Nat.le_of_eq rfl) (by decide) (by decide) (by decide) (by decide) (by decide) (q := 191) rfl ?_
              intro T7 v7 V7 R7 X7
              obtain ⟨rfl, rfl⟩ := R7
              replace X7 : oX p l e room_1 s m #[(.int u0), (.int u1), (.int u2), (.int u3)] below meth c Z T7 [(a5, (.inr (.int, ((List.replicate 64 (.int (0 : Int32))).set st.toNatClampNeg (.int bs)))))] 1 64 := X7
              show oG p e below s Z room_1 (fun v _ => v = some (.int 1)) T7 (mkF m 191 #[.val (.int u0), .val (.int u1), .val (.int u2), .val (.int u3), .val (.int st), .val (.int (1 : Int32)), .val (.int j26), .val (.int j40), .val (.int bs), .val (.int j72), .val (.int j105), .val (.ref a5), .val (.int j148)] [(.int (own_sa j72))])
              refine gIload E X7 at_191 rfl (q := 193) rfl ?_
              refine gIc_ne E X7 at_193 (by decide) (q := 200) (by decide) (q' := 196) rfl (fun h193 => by exfalso; exact h193 (by rw [hj148]; rfl)) (fun h193 => ?_)
              refine gIconst E X7 at_196 (v := (1 : Int32)) (by decide) (q := 197) rfl ?_
              refine gGoto E X7 at_197 (by decide) (q := 201) (by decide) ?_
              exact gRetN E X7 (by simp) at_201 (by decide) (by decide) (rfl)
            refine gIf_ne E X6 at_148 (by decide) (q := 157) (by decide) (q' := 151) rfl (fun h148 => ?_) (fun h148 => ?_)
            · refine gIload E X6 at_157 rfl (q := 159) rfl ?_
              refine gIf_ne E X6 at_159 (by decide) (q := 179) (by decide) (q' := 162) rfl (fun h159 => ?_) (fun h159 => by exfalso; exact absurd h159 (by decide))
              refine gIconst E X6 at_179 (v := (-1 : Int32)) (by decide) (q := 180) rfl ?_
              refine gIstore E X6 at_180 (l' := #[.val (.int u0), .val (.int u1), .val (.int u2), .val (.int u3), .val (.int st), .val (.int (1 : Int32)), .val (.int j26), .val (.int j40), .val (.int bs), .val (.int j72), .val (.int j105), .val (.ref a5), .val (.int (-1 : Int32))]) rfl (q := 182) rfl ?_
              exact k148 _ (by simp only [if_neg h148])
            · refine gIconst E X6 at_151 (v := (0 : Int32)) (by decide) (q := 152) rfl ?_
              refine gIstore E X6 at_152 (l' := #[.val (.int u0), .val (.int u1), .val (.int u2), .val (.int u3), .val (.int st), .val (.int (1 : Int32)), .val (.int j26), .val (.int j40), .val (.int bs), .val (.int j72), .val (.int j105), .val (.ref a5), .val (.int (0 : Int32))]) rfl (q := 154) rfl ?_
              refine gGoto E X6 at_154 (by decide) (q := 182) (by decide) ?_
              exact k148 _ (by simp only [if_pos h148])
          refine gIf_eq E X at_105 (by decide) (q := 113) (by decide) (q' := 108) rfl (fun h105 => ?_) (fun h105 => ?_)
          · refine gIloadN E X at_113 rfl (q := 114) rfl ?_
            exact k105 _ (by simp only [if_pos h105])
          · refine gIload E X at_108 rfl (q := 110) rfl ?_
            refine gGoto E X at_110 (by decide) (q := 114) (by decide) ?_
            exact k105 _ (by simp only [if_neg h105])
        refine gIf_eq E X at_72 (by decide) (q := 81) (by decide) (q' := 75) rfl (fun h72 => ?_) (fun h72 => ?_)
        · refine gIload E X at_81 rfl (q := 83) rfl ?_
          refine gIf_eq E X at_83 (by decide) (q := 95) (by decide) (q' := 86) rfl (fun h83 => by exfalso; exact absurd h83 (by decide)) (fun h83 => ?_)
          refine gIloadN E X at_86 rfl (q := 87) rfl ?_
          refine gLdcI E X at_87 (hw _ (List.mem_of_getElem? (i := 6) rfl)) (q := 89) rfl ?_
          refine gIand E X at_89 (z := (u2 &&& (2147483647 : Int32))) rfl (q := 90) rfl ?_
          refine gIstore E X at_90 (l' := #[.val (.int u0), .val (.int u1), .val (.int u2), .val (.int u3), .val (.int st), .val (.int (1 : Int32)), .val (.int j26), .val (.int j40), .val (.int bs), .val (.int (u2 &&& (2147483647 : Int32))), .unset, .unset, .unset]) rfl (q := 92) rfl ?_
          refine gGoto E X at_92 (by decide) (q := 103) (by decide) ?_
          exact k72 _ (by simp only [if_pos h72])
        · refine gIconst E X at_75 (v := (0 : Int32)) (by decide) (q := 76) rfl ?_
          refine gIstore E X at_76 (l' := #[.val (.int u0), .val (.int u1), .val (.int u2), .val (.int u3), .val (.int st), .val (.int (1 : Int32)), .val (.int j26), .val (.int j40), .val (.int bs), .val (.int (0 : Int32)), .unset, .unset, .unset]) rfl (q := 78) rfl ?_
          refine gGoto E X at_78 (by decide) (q := 103) (by decide) ?_
          exact k72 _ (by simp only [if_neg h72])
      refine gIf_eq E X at_40 (by decide) (q := 47) (by decide) (q' := 43) rfl (fun h40 => ?_) (fun h40 => ?_)
      · refine gIconst E X at_47 (v := (0 : Int32)) (by decide) (q := 48) rfl ?_
        exact k40 _ (by simp only [if_pos h40])
      · refine gIconst E X at_43 (v := (1 : Int32)) (by decide) (q := 44) rfl ?_
        refine gGoto E X at_44 (by decide) (q := 48) (by decide) ?_
        exact k40 _ (by simp only [if_neg h40])
    refine gIf_eq E X at_26 (by decide) (q := 33) (by decide) (q' := 29) rfl (fun h26 => ?_) (fun h26 => ?_)
    · refine gIconst E X at_33 (v := (0 : Int32)) (by decide) (q := 34) rfl ?_
      exact k26 _ (by simp only [if_pos h26])
    · refine gIconst E X at_29 (v := (1 : Int32)) (by decide) (q := 30) rfl ?_
      refine gGoto E X at_30 (by decide) (q := 34) (by decide) ?_
      exact k26 _ (by simp only [if_neg h26])
set_option maxRecDepth 65536 in
set_option maxHeartbeats 40000000 in
theorem comes_1 {Post : Tables → Env → Array Value → State → Outcome → State → Prop} (hpost : ∀ tb e args s v u, (limb_1_1.after args s (.returned v) u = true ∧ limb_1_2.after args s (.returned v) u = true ∧ True) → FrameEnd s (.returned v) u (Jvm.fieldLocs frame_1_writes args s ++ Jvm.arrayLocs frame_1_arrays args s ++ Jvm.staticLocs frame_1_statics s) 16 192 → Post tb e args s (.returned v) u) :
    ArmFor flags0 classFile x code maxLocals ret World_1 tables_1 room_1 Calls_1 rest_1 Pre_1 Post := by
  intro l hfl _ _ p e ha hc hk s m args below hf hA hF happ hP
  obtain ⟨hcalls, hrest, hpre⟩ := hP
  obtain ⟨-, -, -, hnamed, -, -, -, hat⟩ := (Spec.applies_iff hf).mp happ
  obtain ⟨hg, hn⟩ := and_e (Cond.before_iff.mp (show (Jvm.Cond.and given_1 narrow_1).before args s = true from hpre))
  obtain ⟨h1, hg0⟩ := and_e hg
  obtain ⟨g0, hg1⟩ := and_e hg0
  obtain ⟨g1, hg2⟩ := and_e hg1
  obtain ⟨g2, hg3⟩ := and_e hg2
  obtain ⟨w0, w1, w2, w3, rfl⟩ : ∃ w0 w1 w2 w3 : Value, args = #[w0, w1, w2, w3] := by
    have hs : args.size = 4 := by simpa [Cond.value, given_1] using h1
    obtain ⟨L⟩ := args
    match L, hs with
    | [w0, w1, w2, w3], _ => exact ⟨w0, w1, w2, w3, rfl⟩
  have hw := fun d (hd : d ∈ tables_1) => atoms_spec (ws := Jvm.Cond.code x code maxLocals ret :: tables_1) hat d (List.mem_cons_of_mem _ hd)
  have hfit : Fit s := fun {y c} hc i hi => by
    obtain ⟨ha, rfl⟩ := Array.getElem?_eq_some_iff.mp hc
    have q := List.all_eq_true.mp ((Array.all_eq_true_iff_forall_mem.mp hF) _ (Array.getElem_mem ha)) i (List.mem_range.mpr hi)
    simpa [Array.getElem?_eq_getElem hi] using q
  obtain ⟨i0, e0⟩ := is_v g0
  obtain rfl : w0 = (.int i0) := Option.some.inj e0
  obtain ⟨i1, e1⟩ := is_v g1
  obtain rfl : w1 = (.int i1) := Option.some.inj e1
  obtain ⟨i2, e2⟩ := is_v g2
  obtain rfl : w2 = (.int i2) := Option.some.inj e2
  obtain ⟨i3, e3⟩ := is_v hg3
  obtain rfl : w3 = (.int i3) := Option.some.inj e3
  obtain ⟨n, o, h1, h2, h3, v, L, rfl, ⟨N, V', rfl, -⟩, hq⟩ := rm0 l s _ hw i0 i1 i2 i3 tables_1 s.heap (oHv.nil s) p e ha hc hk s m _ below hf ((Spec.applies_iff_loose hf).mp happ).1 ⟨rfl, State.Warmed39.refl s, rfl⟩ trivial
  refine ⟨n, _, h1, h2, h3, hpost _ _ _ _ _ _ ⟨Cond.after_iff.mpr rfl, Cond.after_iff.mpr (eq_i res_at (Term.int_eval (1)) rfl), trivial⟩ ⟨hq.1, hq.2.1, (hq.2.2.sift fun y hy => Or.inr (N y hy)).mono (by decide) (by decide)⟩⟩
theorem main_1_1 : Claimed_1_1 := comes_1 fun _ _ _ _ _ _ h hF => ⟨h.1, hF⟩
theorem main_1_2 : Claimed_1_2 := comes_1 fun _ _ _ _ _ _ h hF => ⟨h.2.1, hF⟩
end Jvm.Pilot.@@N@@
namespace Jvm.Pilot.@@N@@
open Jvm Jvm.ClassFile Sem Op Lib Jvm.Free Jvm.Stand Jvm.Pilot.@@N@@.Jvm.D
/-! MADE BY PROGRAM (witnessworld.py) out of the Statement's table words and the real class files: 9 classes; the members and pool entries that the words name. The judged class is class 1, her method 1. -/
namespace start1
open Jvm.ClassFile
def u (s : String) : CpInfo := .utf8 (stringToUtf16 s)
/-- a pool by its gaps: so many unusable entries, then the entry; so many at the end -/
def gap : Nat → List CpInfo → List CpInfo
  | 0, r => r
  | n + 1, r => .unusable :: gap n r
def poolList (es : List (Nat × CpInfo)) (last : Nat) : List CpInfo := es.foldr (fun e r => gap e.1 (e.2 :: r)) (gap last [])
def pool (es : List (Nat × CpInfo)) (last : Nat) : Array CpInfo := ⟨poolList es last⟩
def fileOf (pool : Array CpInfo) (this : Nat) (attrs : Array Attribute := #[]) (ms : Array MethodInfo := #[]) (fl : Nat := 33) (sup : Nat := 0) (ifs : Array Nat := #[]) (fds : Array FieldInfo := #[]) : ClassFile where
  minorVersion := 0
  majorVersion := 65
  constantPool := pool
  accessFlags := fl
  thisClass := this
  superClass := sup
  interfaces := ifs
  fields := fds
  methods := ms
  attributes := attrs
def plain (name : String) (sup : Option ClassId) : Class where
  name := name
  kind := .ordinary
  loader := none
  accessFlags := 33
  super := sup
  interfaces := #[]
  cf := none
  fields := #[]
  methods := #[]
  instanceTypes := #[]
  staticTypes := #[]
  resolved := #[]
  callSites := []
  init := .initialized
  statics := none
  mirror := none

def pool0 : Array CpInfo := pool [(5, u "<init>"), (0, u "()V"), (1, .class_ 10), (1, u "java/lang/Object")] 113

def k0m0 : Method := { name := "<init>", desc := "()V", sig := { parameters := [], returnType := none }, accessFlags := 1, code := none }
/-- java/lang/Object -/
def k0 : Class := { plain "java/lang/Object" none with
  accessFlags := 33
  interfaces := #[]
  cf := some (fileOf pool0 8 #[] #[{ accessFlags := 1, nameIndex := 5, descriptorIndex := 6, attributes := #[] }] 33 0 #[] #[])
  fields := #[]
  methods := #[k0m0]
  instanceTypes := #[]
  staticTypes := #[]
  resolved := Array.replicate 124 none
  statics := none }

def pool1 : Array CpInfo := pool [(2, .class_ 4), (1, u "java/lang/Object"), (0, u "<init>"), (0, u "()V"), (2, .integer 2147483648), (0, .integer 2147483647), (0, .methodref 12 13), (0, .class_ 14), (0, .nameAndType 15 16), (0, u "com/example/rakau/rakau/DoubleArray"), (0, u "straightOnWithoutBranch"), (0, u "([III)I"), (0, .class_ 18), (0, u "com/example/rakau/rakau/DoubleArrayStraightOnWithoutBranchPinLaw"), (2, u "law"), (0, u "(IIII)Z")] 5

def k1m0 : Method := { name := "<init>", desc := "()V", sig := { parameters := [], returnType := none }, accessFlags := 2, code := none }
def k1c1 : Code := { maxStack := 3, maxLocals := 13, code := code, exceptionTable := #[], attributes := #[] }
def k1m1 : Method := { name := "law", desc := "(IIII)Z", sig := { parameters := [.int, .int, .int, .int], returnType := some .boolean }, accessFlags := 9, code := some k1c1 }
/-- com/example/rakau/rakau/DoubleArrayStraightOnWithoutBranchPinLaw -/
def k1 : Class := { plain "com/example/rakau/rakau/DoubleArrayStraightOnWithoutBranchPinLaw" (some 0) with
  accessFlags := 49
  interfaces := #[]
  cf := some (fileOf pool1 17 #[] #[{ accessFlags := 2, nameIndex := 5, descriptorIndex := 6, attributes := #[] }, { accessFlags := 9, nameIndex := 21, descriptorIndex := 22, attributes := #[] }] 49 2 #[] #[])
  fields := #[]
  methods := #[k1m0, k1m1]
  instanceTypes := #[]
  staticTypes := #[]
  resolved := Array.replicate 28 none
  statics := none }

def pool2 : Array CpInfo := pool [(1, .class_ 2), (0, u "com/example/rakau/rakau/DoubleArray"), (4, .class_ 9), (1, u "com/example/rakau/rakau/DoubleArray$Placement"), (7, .class_ 19), (1, u "java/lang/Object"), (3, u "codes"), (3, u "[I"), (2, u "states"), (4, u "segments"), (3, u "[[I"), (2, u "segmentShift"), (3, u "I"), (2, u "hashed"), (10, u "depths"), (24, u "outputs"), (0, u "Lcom/example/rakau/rakau/OutputLists;"), (23, u "([III)I"), (78, u "ROOT"), (2, u "NONE"), (1, u "STATE_SHIFT"), (1, u "STATE_FIELDS"), (1, u "BASE"), (0, u "CHECK"), (1, u "FAIL"), (0, u "OUTPUTS"), (1, u "ONE_ARRAY_SLOTS"), (0, u "SEGMENT_SHIFT"), (1, u "HASHED_FROM"), (1, u "SCATTER"), (0, u "FIBONACCI"), (10, u "straightOnWithoutBranch")] 27

def k2c0 : Code := { maxStack := 3, maxLocals := 6, code := prog_11_method_20_code, exceptionTable := #[], attributes := #[] }
def k2m0 : Method := { name := "straightOnWithoutBranch", desc := "([III)I", sig := { parameters := [(.array .int), .int, .int], returnType := some .int }, accessFlags := 8, code := some k2c0 }
/-- com/example/rakau/rakau/DoubleArray -/
def k2 : Class := { plain "com/example/rakau/rakau/DoubleArray" (some 0) with
  accessFlags := 48
  interfaces := #[]
  cf := some (fileOf pool2 1 #[.nestMembers #[7]] #[{ accessFlags := 8, nameIndex := 221, descriptorIndex := 110, attributes := #[] }] 48 17 #[] #[{ accessFlags := 24, nameIndex := 189, descriptorIndex := 46, attributes := #[] }, { accessFlags := 24, nameIndex := 192, descriptorIndex := 46, attributes := #[] }, { accessFlags := 26, nameIndex := 194, descriptorIndex := 46, attributes := #[] }, { accessFlags := 26, nameIndex := 196, descriptorIndex := 46, attributes := #[] }, { accessFlags := 26, nameIndex := 198, descriptorIndex := 46, attributes := #[] }, { accessFlags := 26, nameIndex := 199, descriptorIndex := 46, attributes := #[] }, { accessFlags := 24, nameIndex := 201, descriptorIndex := 46, attributes := #[] }, { accessFlags := 24, nameIndex := 202, descriptorIndex := 46, attributes := #[] }, { accessFlags := 26, nameIndex := 204, descriptorIndex := 46, attributes := #[] }, { accessFlags := 26, nameIndex := 205, descriptorIndex := 46, attributes := #[] }, { accessFlags := 26, nameIndex := 207, descriptorIndex := 46, attributes := #[] }, { accessFlags := 26, nameIndex := 209, descriptorIndex := 46, attributes := #[] }, { accessFlags := 26, nameIndex := 210, descriptorIndex := 46, attributes := #[] }, { accessFlags := 18, nameIndex := 23, descriptorIndex := 27, attributes := #[] }, { accessFlags := 18, nameIndex := 30, descriptorIndex := 27, attributes := #[] }, { accessFlags := 18, nameIndex := 35, descriptorIndex := 39, attributes := #[] }, { accessFlags := 18, nameIndex := 42, descriptorIndex := 46, attributes := #[] }, { accessFlags := 18, nameIndex := 49, descriptorIndex := 27, attributes := #[] }, { accessFlags := 18, nameIndex := 85, descriptorIndex := 86, attributes := #[] }, { accessFlags := 18, nameIndex := 60, descriptorIndex := 27, attributes := #[] }])
  fields := #[{ name := "ROOT", type := .int, accessFlags := 24, slot := 0, constantValue := 0 }, { name := "NONE", type := .int, accessFlags := 24, slot := 1, constantValue := 0 }, { name := "STATE_SHIFT", type := .int, accessFlags := 26, slot := 2, constantValue := 0 }, { name := "STATE_FIELDS", type := .int, accessFlags := 26, slot := 3, constantValue := 0 }, { name := "BASE", type := .int, accessFlags := 26, slot := 4, constantValue := 0 }, { name := "CHECK", type := .int, accessFlags := 26, slot := 5, constantValue := 0 }, { name := "FAIL", type := .int, accessFlags := 24, slot := 6, constantValue := 0 }, { name := "OUTPUTS", type := .int, accessFlags := 24, slot := 7, constantValue := 0 }, { name := "ONE_ARRAY_SLOTS", type := .int, accessFlags := 26, slot := 8, constantValue := 0 }, { name := "SEGMENT_SHIFT", type := .int, accessFlags := 26, slot := 9, constantValue := 0 }, { name := "HASHED_FROM", type := .int, accessFlags := 26, slot := 10, constantValue := 0 }, { name := "SCATTER", type := .int, accessFlags := 26, slot := 11, constantValue := 0 }, { name := "FIBONACCI", type := .int, accessFlags := 26, slot := 12, constantValue := 0 }, { name := "codes", type := (.array .int), accessFlags := 18, slot := 0, constantValue := 0 }, { name := "states", type := (.array .int), accessFlags := 18, slot := 1, constantValue := 0 }, { name := "segments", type := (.array (.array .int)), accessFlags := 18, slot := 2, constantValue := 0 }, { name := "segmentShift", type := .int, accessFlags := 18, slot := 3, constantValue := 0 }, { name := "hashed", type := (.array .int), accessFlags := 18, slot := 4, constantValue := 0 }, { name := "outputs", type := (.object "com/example/rakau/rakau/OutputLists"), accessFlags := 18, slot := 5, constantValue := 0 }, { name := "depths", type := (.array .int), accessFlags := 18, slot := 6, constantValue := 0 }]
  methods := #[k2m0]
  instanceTypes := #[(.array .int), (.array .int), (.array (.array .int)), .int, (.array .int), (.object "com/example/rakau/rakau/OutputLists"), (.array .int)]
  staticTypes := #[.int, .int, .int, .int, .int, .int, .int, .int, .int, .int, .int, .int, .int]
  resolved := Array.replicate 249 none
  statics := none }

def pool3 : Array CpInfo := pool [(1, u "java/lang/Cloneable"), (0, .class_ 1), (0, u "java/lang/Object"), (0, .class_ 3)] 3

/-- java/lang/Cloneable -/
def k3 : Class := { plain "java/lang/Cloneable" (some 0) with
  accessFlags := 1537
  interfaces := #[]
  cf := some (fileOf pool3 2 #[] #[] 1537 4 #[] #[])
  fields := #[]
  methods := #[]
  instanceTypes := #[]
  staticTypes := #[]
  resolved := Array.replicate 8 none
  statics := none }

def pool4 : Array CpInfo := pool [(1, u "java/io/Serializable"), (0, .class_ 1), (0, u "java/lang/Object"), (0, .class_ 3)] 3

/-- java/io/Serializable -/
def k4 : Class := { plain "java/io/Serializable" (some 0) with
  accessFlags := 1537
  interfaces := #[]
  cf := some (fileOf pool4 2 #[] #[] 1537 4 #[] #[])
  fields := #[]
  methods := #[]
  instanceTypes := #[]
  staticTypes := #[]
  resolved := Array.replicate 8 none
  statics := none }

/-- the primitive byte -/
def k5 : Class := { plain "byte" none with kind := .primitive 'B', accessFlags := 0x411 }
/-- [B -/
def k6 : Class := { plain "[B" (some 0) with kind := .array 5 .byte, interfaces := #[3, 4], accessFlags := 1041 }

/-- the primitive int -/
def k7 : Class := { plain "int" none with kind := .primitive 'I', accessFlags := 0x411 }
/-- [I -/
def k8 : Class := { plain "[I" (some 0) with kind := .array 7 .int, interfaces := #[3, 4], accessFlags := 1041 }

def heap : Heap := #[]
def classes : Array Class := #[k0, k1, k2, k3, k4, k5, k6, k7, k8]
def interned : List (Array UInt16 × Addr) := []
def slotsUsed : Nat := 0
def theMethod : MethodId := ⟨1, 1⟩
def args0 : Array Value := #[.int 5, .int 7, .int 7, .int 7]
def aboutOver (below : List Frame) : State where
  vm := { classes := classes, interned := interned.toArray }
  heap := heap
  slotsUsed := slotsUsed
  threads := #[{ frames := .invoking theMethod args0 :: below }]
def below0 : List Frame := [.native { method := ⟨0, 0⟩, args := #[] }]
def about1 : State := aboutOver below0
def p0 : Program := .bare "" "" ""
def e0 : Env := launch0.env 0 0 0
theorem w_frames : about1.frames = Frame.invoking theMethod args0 :: below0 := rfl
set_option maxRecDepth 65536 in
theorem w_args : argsFit about1.vm theMethod args0 = true := by decide +kernel
set_option maxRecDepth 65536 in
theorem w_heap : heapFits about1 = true := by decide +kernel
set_option maxRecDepth 65536 in
theorem w_runnable : about1.curStatus? = some .runnable := by decide +kernel
set_option maxRecDepth 65536 in
theorem w_alone : about1.alone = true := by decide +kernel
set_option maxRecDepth 65536 in
theorem w_named : about1.methodNamed? x = some theMethod := by decide +kernel
set_option maxRecDepth 65536 in
theorem w_hears : about1.hears theMethod below0 = true := by decide +kernel
set_option maxRecDepth 65536 in
theorem w_ripe : about1.ripe theMethod args0 below0 = true := by decide +kernel
theorem w_running : about1.status = .running := rfl
set_option maxRecDepth 65536 in
theorem w_room : about1.hasRoom e0.platform room_1 = true :=
  launch0.hasRoom_least _ room_1 (by decide +kernel) (by decide +kernel) (by decide +kernel) (by decide +kernel) (by decide +kernel) (by decide +kernel)
theorem allAtoms_all (ts : List Jvm.Cond) (a : Array Jvm.Value) (st : Jvm.State) : (allAtoms ts).before a st = ts.all (fun c => c.before a st) := by
  induction ts with
  | nil => rfl
  | cons c t ih =>
    show (Jvm.Cond.and c (allAtoms t)).before a st = _
    rw [Jvm.Cond.before_and, ih, List.all_cons]
def words1 : List Jvm.Cond := Jvm.Cond.code x code maxLocals ret :: tables_1
/-- a 'code' word, met by the world's own term for the bytes: nothing is compared byte by byte -/
theorem code_word {y : MethodName} {bytes : ByteArray} {mx : Nat} {rt : Option FieldType} {a : Array Value} {s : State} {m : MethodId} {meth : Method} {c : Code} (h1 : s.methodNamed? y = some m) (h2 : s.vm.method? m = some meth) (h3 : meth.code = some c) (h4 : c.code = bytes)
    (h5 : (c.maxLocals == mx && c.exceptionTable.isEmpty && decide (c.maxStack ≤ mostOperands) && decide (meth.sig.returnType = rt) && !meth.locks && decide (parseMethodDescriptor y.desc = some meth.sig)) = true) : (Jvm.Cond.code y bytes mx rt).before a s = true := by
  simp only [Bool.and_eq_true, beq_iff_eq, Bool.not_eq_true', decide_eq_true_eq] at h5
  obtain ⟨⟨⟨⟨⟨g1, g2⟩, g3⟩, g4⟩, g5⟩, g6⟩ := h5
  simp [Cond.before, Cond.holds, Cond.value, h1, h2, h3, h4, g1, g2, g3, g4, g5, g6]
def isCode : Jvm.Cond → Bool
  | .code _ _ _ _ => true
  | _ => false
theorem all_split {L : List Jvm.Cond} {P : Jvm.Cond → Bool} (h1 : L.all (fun c => isCode c || P c) = true) (h2 : ∀ c ∈ L.filter isCode, P c = true) : L.all P = true := by
  refine List.all_eq_true.mpr fun c hc => ?_
  have h := List.all_eq_true.mp h1 c hc
  rcases Bool.eq_false_or_eq_true (isCode c) with hi | hi
  · exact h2 c (List.mem_filter.mpr ⟨hc, hi⟩)
  · simpa [hi] using h
set_option maxRecDepth 65536 in
theorem w_c0 : (Jvm.Cond.code x code maxLocals ret).before args0 about1 = true := code_word (m := ⟨1, 1⟩) (meth := k1m1) (c := k1c1) (by decide +kernel) rfl rfl rfl (by decide +kernel)
set_option maxRecDepth 65536 in
theorem w_c1 : (Jvm.Cond.code ({ cls := "com/example/rakau/rakau/DoubleArray", name := "straightOnWithoutBranch", desc := "([III)I" } : Jvm.MethodName) prog_11_method_20_code (6 : Nat) (Option.some Jvm.ClassFile.FieldType.int)).before args0 about1 = true := code_word (m := ⟨2, 0⟩) (meth := k2m0) (c := k2c0) (by decide +kernel) rfl rfl rfl (by decide +kernel)
def codes1 : List Jvm.Cond := [Jvm.Cond.code x code maxLocals ret, Jvm.Cond.code ({ cls := "com/example/rakau/rakau/DoubleArray", name := "straightOnWithoutBranch", desc := "([III)I" } : Jvm.MethodName) prog_11_method_20_code (6 : Nat) (Option.some Jvm.ClassFile.FieldType.int)]
set_option maxRecDepth 65536 in
theorem codes_eq : words1.filter isCode = codes1 := rfl
theorem w_codes : ∀ c ∈ words1.filter isCode, c.before args0 about1 = true := by
  rw [codes_eq]
  intro c hc
  simp only [codes1, List.mem_cons, List.not_mem_nil, or_false] at hc
  rcases hc with rfl | rfl
  · exact w_c0
  · exact w_c1
set_option maxRecDepth 65536 in
theorem w_t1 : words1.all (fun c => isCode c || c.before args0 about1) = true := by decide +kernel
theorem w_tables : (allAtoms (Jvm.Cond.code x code maxLocals ret :: tables_1)).before args0 about1 = true := by
  rw [allAtoms_all]
  show words1.all (fun c => c.before args0 about1) = true
  refine all_split ?_ w_codes
  rw [w_t1]
set_option maxRecDepth 65536 in
theorem w_case : (Jvm.Cond.and given_1 narrow_1).before args0 about1 = true := by decide +kernel
theorem w_applies : (headSpec (Jvm.Cond.code x code maxLocals ret :: tables_1) room_1).applies x e0.platform about1 = true :=
  (Spec.applies_iff w_frames).mpr ⟨w_running, w_runnable, w_alone, w_named, w_hears, w_ripe, w_room, w_tables⟩
theorem atStart : AtStart classFile x code maxLocals ret World_1 tables_1 room_1 Calls_1 rest_1 Pre_1 launch0 p0 e0 about1 theMethod args0 below0 :=
  ⟨lists_1, trivial, launch0.admits_env _ _ _, launch0.least_env, fairChoices_fair.cas, fairChoices_fair.clock, w_frames, w_args, w_heap, w_applies, trivial, trivial, w_case⟩
end start1
theorem witness_1 : WitnessClaimed_1 := ⟨start1.p0, start1.e0, start1.about1, start1.theMethod, start1.args0, start1.below0, start1.atStart⟩
end Jvm.Pilot.@@N@@
