import JvmDerived
import JvmDerived.Pilot.@@N@@Statement
import JvmDerived.Pilot.@@N@@Code
set_option linter.unusedVariables false
set_option linter.unusedSimpArgs false
namespace Jvm.Pilot.@@N@@
open Jvm Jvm.ClassFile Sem Op Lib Jvm.Free Jvm.Stand Jvm.LawKit Jvm.RoadKit Bundle Jvm.Pilot.@@N@@.Jvm.D
/-! 1. what is known of the heap: a list of objects made since the start -/
abbrev oOb : Type := (String × List (String × String × String × Value)) ⊕ (FieldType × List Value)
abbrev oVw : Type := List (Addr × oOb)
def oSat (Z : State) (h : Heap) (a : Addr) : oOb → Prop
  | .inl q => Exa Z h a q.1 ∧ (q.2.map fun f => Jvm.RoadKit.slotOf Z f.1 f.2.1 f.2.2.1).Nodup ∧ ∀ f ∈ q.2, Fld Z h a f.1 f.2.1 f.2.2.1 f.2.2.2
  | .inr q => ∃ c : Cell, Arr Z h a c q.1 ∧ c.slots.toList = q.2 ∧ q.2.length < 2 ^ 31
def oHv (Z : State) (h : Heap) (V : oVw) : Prop := Ext Z.heap h ∧ (V.map Prod.fst).Nodup ∧ ∀ x ∈ V, Z.heap.size ≤ x.1 ∧ oSat Z h x.1 x.2
theorem oSat.ext {Z : State} {h h' : Heap} {a : Addr} {o : oOb} (E : Ext h h') (S : oSat Z h a o) : oSat Z h' a o := by
  cases o with
  | inl q => exact ⟨S.1.ext E, S.2.1, fun f hf => (S.2.2 f hf).ext E⟩
  | inr q => obtain ⟨c, A, r⟩ := S; exact ⟨c, A.ext E, r⟩
theorem oSat.other {Z : State} {h h' : Heap} {a b : Addr} {o : oOb} {sl : Nat} {v : Value} (W : Wr h h' b sl v) (ne : a ≠ b) (S : oSat Z h a o) : oSat Z h' a o := by
  cases o with
  | inl q => exact ⟨S.1.wr W, S.2.1, fun f hf => (S.2.2 f hf).other W (Or.inl ne)⟩
  | inr q => obtain ⟨c, A, r⟩ := S; exact ⟨c, A.other W ne, r⟩
theorem oSat.lt {Z : State} {h : Heap} {a : Addr} {o : oOb} (S : oSat Z h a o) : a < h.size := by
  cases o with
  | inl q => exact S.1.lt
  | inr q => obtain ⟨c, A, r⟩ := S; exact A.lt
theorem oSetSame {α : Type} : ∀ {l : List α} {i : Nat} {x : α}, l[i]? = some x → l.set i x = l
  | [], _, _, h => by simp at h
  | y :: r, 0, x, h => by simp at h; simp [h]
  | y :: r, i + 1, x, h => by simp at h; simp [oSetSame h]
theorem oSetGet {α : Type} {l : List α} {i : Nat} {x y : α} (h : l[i]? = some x) : (l.set i y)[i]? = some y := by
  obtain ⟨hi, -⟩ := List.getElem?_eq_some_iff.mp h
  simp [hi]
theorem oSetNe {α : Type} {l : List α} {i k : Nat} {x y : α} (ne : i ≠ k) (h : l[k]? = some x) : (l.set i y)[k]? = some x := by
  rw [List.getElem?_set_ne ne]; exact h
theorem oAppGet {α : Type} {l r : List α} {i : Nat} {x : α} (h : l[i]? = some x) : (l ++ r)[i]? = some x := by
  obtain ⟨hi, -⟩ := List.getElem?_eq_some_iff.mp h
  rw [List.getElem?_append_left hi]; exact h
theorem oAppLast {α : Type} {l : List α} {x : α} : (l ++ [x])[l.length]? = some x := by simp
theorem oAppSet {α : Type} {l r : List α} {i : Nat} {x y : α} (h : l[i]? = some x) : (l ++ r).set i y = l.set i y ++ r := by
  obtain ⟨hi, -⟩ := List.getElem?_eq_some_iff.mp h
  simp [List.set_append, hi]
theorem oAppSetLast {α : Type} {l : List α} {x y : α} : (l ++ [x]).set l.length y = l ++ [y] := by simp [List.set_append]
theorem oNd {α β : Type} {f : α → β} {l : List α} (nd : (l.map f).Nodup) {i k : Nat} {x y : α} (hi : l[i]? = some x) (hk : l[k]? = some y) (ne : i ≠ k) : f x ≠ f y := by
  intro e
  have h1 : (l.map f)[i]? = some (f x) := by simp [hi]
  have h2 : (l.map f)[k]? = some (f x) := by simp [hk, e]
  obtain ⟨hi', g1⟩ := List.getElem?_eq_some_iff.mp h1
  obtain ⟨hk', g2⟩ := List.getElem?_eq_some_iff.mp h2
  exact ne ((List.getElem_inj nd).mp (g1.trans g2.symm))
theorem oMapSet {α β : Type} {f : α → β} {l : List α} {i : Nat} {x y : α} (hi : l[i]? = some x) (e : f y = f x) : (l.set i y).map f = l.map f := by
  rw [List.map_set]; exact oSetSame (by simp [hi, e])
theorem oMemSet {α : Type} {l : List α} {i : Nat} {y z : α} (h : z ∈ l.set i y) : z = y ∨ ∃ k, k ≠ i ∧ l[k]? = some z := by
  obtain ⟨k, hk⟩ := List.mem_iff_getElem?.mp h
  by_cases e : i = k
  · subst e
    obtain ⟨hi, g⟩ := List.getElem?_eq_some_iff.mp hk
    left; simp at g; exact g.symm
  · right; exact ⟨k, fun q => e q.symm, by rwa [List.getElem?_set_ne e] at hk⟩
theorem oHv.new {Z : State} {h h' : Heap} {V : oVw} {o : oOb} (H : oHv Z h V) (E : Ext h h') (S : oSat Z h' h.size o) : oHv Z h' (V ++ [(h.size, o)]) := by
  obtain ⟨H1, H2, H3⟩ := H
  refine ⟨⟨Nat.le_trans H1.1 E.1, fun a c q => E.2 _ _ (H1.2 _ _ q)⟩, ?_, fun x hx => ?_⟩
  · rw [List.map_append, List.nodup_append]
    refine ⟨H2, by simp, fun a ha b hb => ?_⟩
    simp at hb
    subst hb
    obtain ⟨x, hx, rfl⟩ := List.mem_map.mp ha
    exact Nat.ne_of_lt (H3 x hx).2.lt
  · rcases List.mem_append.mp hx with hx | hx
    · exact ⟨(H3 x hx).1, (H3 x hx).2.ext E⟩
    · simp at hx; subst hx; exact ⟨H1.1, S⟩
theorem oHv.wr {Z : State} {h h' : Heap} {V : oVw} {a : Addr} {o o' : oOb} {i sl : Nat} {v : Value} (H : oHv Z h V) (W : Wr h h' a sl v) (hi : V[i]? = some (a, o)) (S : oSat Z h' a o') : oHv Z h' (V.set i (a, o')) := by
  obtain ⟨H1, H2, H3⟩ := H
  have hm := H3 _ (List.mem_of_getElem? hi)
  refine ⟨(Old.wr (n0 := Z.heap.size) ⟨rfl, H1⟩ W hm.1).2, ?_, fun x hx => ?_⟩
  · rw [oMapSet (y := (a, o')) hi rfl]; exact H2
  · rcases oMemSet hx with rfl | ⟨k, hk, hx⟩
    · exact ⟨hm.1, S⟩
    · have q := H3 _ (List.mem_of_getElem? hx)
      exact ⟨q.1, q.2.other W (oNd H2 hx hi hk)⟩
theorem oSat.wrF {Z : State} {h h' : Heap} {a : Addr} {C O n d : String} {fs : List (String × String × String × Value)} {j : Nat} {v old : Value} (S : oSat Z h a (.inl (C, fs))) (hj : fs[j]? = some (O, n, d, old)) (W : Wr h h' a (Jvm.RoadKit.slotOf Z O n d) v) :
    oSat Z h' a (.inl (C, fs.set j (O, n, d, v))) := by
  obtain ⟨S1, S2, S3⟩ := S
  refine ⟨S1.wr W, ?_, fun f hf => ?_⟩
  · show ((fs.set j (O, n, d, v)).map _).Nodup
    rw [oMapSet (y := (O, n, d, v)) hj rfl]; exact S2
  · rcases oMemSet hf with rfl | ⟨k, hk, hf⟩
    · exact (S3 _ (List.mem_of_getElem? hj)).same W
    · have S2' : (fs.map fun f => Jvm.RoadKit.slotOf Z f.1 f.2.1 f.2.2.1).Nodup := S2
      have q := oNd S2' hf hj hk
      dsimp only at q
      exact (S3 _ (List.mem_of_getElem? hf)).other W (Or.inr q)
theorem oSat.wrA {Z : State} {h h' : Heap} {a : Addr} {ty : FieldType} {vs : List Value} {j : Nat} {v : Value} (S : oSat Z h a (.inr (ty, vs))) (W : Wr h h' a j v) : oSat Z h' a (.inr (ty, vs.set j v)) := by
  obtain ⟨c, A, r1, r2⟩ := S
  refine ⟨_, A.same W, ?_, by rw [List.length_set]; exact r2⟩
  show (c.setSlot j v).slots.toList = _
  simp only [Cell.setSlot, Array.toList_setIfInBounds, r1]
theorem oHv.sat {Z : State} {h : Heap} {V : oVw} {a : Addr} {o : oOb} {i : Nat} (H : oHv Z h V) (hi : V[i]? = some (a, o)) : oSat Z h a o := (H.2.2 _ (List.mem_of_getElem? hi)).2
theorem oHv.ge {Z : State} {h : Heap} {V : oVw} {a : Addr} {o : oOb} {i : Nat} (H : oHv Z h V) (hi : V[i]? = some (a, o)) : Z.heap.size ≤ a := (H.2.2 _ (List.mem_of_getElem? hi)).1
theorem oHv.nil (Z : State) : oHv Z Z.heap [] := ⟨⟨Nat.le_refl _, fun _ _ q => q⟩, List.nodup_nil, fun _ q => nomatch q⟩
/-- the fields of a class, as they are at first -/
def oLay (Z : State) (a0 : Array Value) (C : String) (fs : List (String × String × String × Value)) : Prop := (fs.map fun f => Jvm.RoadKit.slotOf Z f.1 f.2.1 f.2.2.1).Nodup ∧ ∀ f ∈ fs, Laid Z a0 C f.1 f.2.1 f.2.2.1 ∧ ∃ ty, parseFieldDescriptor f.2.2.1 = some ty ∧ f.2.2.2 = defaultValue ty
def oAll {α : Type} (P : α → Prop) : List α → Prop
  | [] => True
  | x :: r => P x ∧ oAll P r
theorem oAll.mem {α : Type} {P : α → Prop} : ∀ {l : List α}, oAll P l → ∀ x ∈ l, P x
  | [], _, _, q => nomatch q
  | y :: r, H, x, q => (List.mem_cons.mp q).elim (fun u => u ▸ H.1) (oAll.mem H.2 x)
theorem oLay.of {Z : State} {a0 : Array Value} {C : String} {fs : List (String × String × String × Value)} (hn : (fs.map fun f => f.2.1).Nodup) (hL : oAll (fun f => Laid Z a0 C f.1 f.2.1 f.2.2.1 ∧ ∃ ty, parseFieldDescriptor f.2.2.1 = some ty ∧ f.2.2.2 = defaultValue ty) fs) : oLay Z a0 C fs := by
  have hL := hL.mem
  refine ⟨?_, hL⟩
  have hn' := List.pairwise_map.mp hn
  refine List.pairwise_map.mpr (List.Pairwise.imp_of_mem (fun {x z} hx hz ne => ?_) hn')
  obtain ⟨L1, t1, p1, -⟩ := hL _ hx
  obtain ⟨L2, t2, p2, -⟩ := hL _ hz
  exact slot_ne L1 L2 ne p1 p2
/-! 2. where the run stands, and where it goes -/
section Walk
variable {p : Program} {l : Launch} {e : Env} {R : Room} {s : State} {m : MethodId} {args : Array Value} {below : List Frame} {meth : Method} {c : Code} {Z : State} {bytes : ByteArray} {own nm : String} {maxL : Nat} {ret : Option FieldType} {T : State} {V V' : oVw} {cells slots c2 s2 : Nat} {Ret : Option Value → oVw → Prop} {a0 : Array Value} {pc q : Nat} {Ls : Array Slot} {st rest : List Value}
def oE (p : Program) (l : Launch) (e : Env) (R : Room) (s : State) (m : MethodId) (args : Array Value) (below : List Frame) (meth : Method) (c : Code) (Z : State) (bytes : ByteArray) (own nm : String) (maxL : Nat) (ret : Option FieldType) : Prop :=
  p.tables.exec = Jvm.exec ∧ Z.Warmed39 s.vm ∧ s.vm.findClass own = some m.cls ∧ c.code = bytes ∧ c.maxLocals = maxL ∧ meth.sig.returnType = ret ∧ meth.name = nm ∧ meth.locks = false
def oX (p : Program) (l : Launch) (e : Env) (R : Room) (s : State) (m : MethodId) (args : Array Value) (below : List Frame) (meth : Method) (c : Code) (Z T : State) (V : oVw) (cells slots : Nat) : Prop :=
  ∃ locs c' s', c' ≤ cells ∧ s' ≤ slots ∧ (∃ vm0 k0, Stand p l e R (s.setVm vm0) m args below meth c T locs c' s' ∧ s.Since vm0 k0 ∧ k0 ≤ T.heap.size) ∧ Fr Z.heap.size locs ∧ oHv Z T.heap V
def oG (p : Program) (e : Env) (below : List Frame) (s Z : State) (R : Room) (Ret : Option Value → oVw → Prop) (T : State) (g : JFrame) : Prop :=
  ∃ t o, Steps p.tables e below (T.setTop g) t ∧ t.status = .running ∧ Ended t below o ∧ ∃ v L, o = .returned v ∧ (Fr Z.heap.size L ∧ ∃ V', Ret v V' ∧ oHv Z t.heap V') ∧ ReturnedEndW s o t L R.cells R.slots
/-- the contract of a method at a view V of the heap -/
def oCon (l : Launch) (Z : State) (y : MethodName) (bytes : ByteArray) (maxL : Nat) (ret : Option FieldType) (rm : Room) (as' : Array Value) (V : oVw) (Ret : Option Value → oVw → Prop) : Prop :=
  ∀ (ws : List Jvm.Cond) (h0 : Heap), oHv Z h0 V → MetFree l y (head1 (Jvm.Cond.code y bytes maxL ret :: ws) rm) (fun a U => a = as' ∧ Z.Warmed39 U.vm ∧ U.heap = h0) (fun _ _ _ _ _ => True) (fun _ U o U' => ∃ v L, o = .returned v ∧ (Fr Z.heap.size L ∧ ∃ V', Ret v V' ∧ oHv Z U'.heap V') ∧ ReturnedEndW U o U' L rm.cells rm.slots)
theorem oG.step {T' : State} {g g' : JFrame} (k : ∀ t, Steps p.tables e below (T'.setTop g') t → Steps p.tables e below (T.setTop g) t) (G : oG p e below s Z R Ret T' g') : oG p e below s Z R Ret T g := by
  obtain ⟨t, o, h1, r⟩ := G; exact ⟨t, o, k t h1, r⟩
theorem oG.steps {T' : State} {g g' : JFrame} (k : Steps p.tables e below (T.setTop g) (T'.setTop g')) (G : oG p e below s Z R Ret T' g') : oG p e below s Z R Ret T g := by
  obtain ⟨t, o, h1, r⟩ := G; exact ⟨t, o, k.trans h1, r⟩
theorem oX.le (X : oX p l e R s m args below meth c Z T V cells slots) (h1 : cells ≤ c2) (h2 : slots ≤ s2) : oX p l e R s m args below meth c Z T V c2 s2 := by
  obtain ⟨locs, c', s', q1, q2, r⟩ := X; exact ⟨locs, c', s', Nat.le_trans q1 h1, Nat.le_trans q2 h2, r⟩
theorem oX.hv (X : oX p l e R s m args below meth c Z T V cells slots) : oHv Z T.heap V := by
  obtain ⟨_, _, _, _, _, _, _, H⟩ := X; exact H
/-- entering a method -/
theorem oEnter {y : MethodName} {as' : Array Value} {rm : Room} (hpl : plainFor y = true) (hent : ∀ m, entryFrame m as' maxL = mkF m 0 Ls [])
    (body : ∀ p e s m below meth c T, oE p l e rm s m as' below meth c Z bytes y.cls y.name maxL ret → oX p l e rm s m as' below meth c Z T V 0 0 → oG p e below s Z rm Ret T (mkF m 0 Ls [])) :
    oCon l Z y bytes maxL ret rm as' V Ret := by
  intro ws h0 H
  refine MetFree.of_bodySF hpl hisR ?_
  intro p e s m args below meth c s₁ Bd hml0 hP hK
  obtain ⟨rfl, hZ, hh⟩ := hP
  have e0 : s₁.heap = h0 := by rw [← hh, Bd.state]; rfl
  have G := body p e s m below meth c s₁ ⟨Bd.exec, hZ, findClass_of_methodNamed Bd.named, Bd.bytes, hml0, Bd.returns, (name_of_methodNamed Bd.named Bd.method).1, BodyLoose.notSynchronized Bd⟩ ⟨[], 0, 0, Nat.le_refl _, Nat.le_refl _, ⟨s.vm, 0, (Stand.of_body Bd : Stand p l e rm (s.setVm s.vm) m _ below meth c s₁ [] 0 0), (State.WarmedH.refl s).since 0, Nat.zero_le _⟩, Fr.nil _, e0 ▸ H⟩
  obtain ⟨t, o, h1, r⟩ := G
  exact ⟨t, o, castTop (hent m) h1, r⟩
/-! 3. leaving -/
theorem oWm {vm0 : Vm} {k0 : Nat} (E : oE p l e R s m args below meth c Z bytes own nm maxL ret) (hS : s.Since vm0 k0) : Z.Warmed39 (s.setVm vm0).vm := State.Warmed39.trans E.2.1 hS.1
theorem oOw {vm0 : Vm} {k0 : Nat} (E : oE p l e R s m args below meth c Z bytes own nm maxL ret) (hS : s.Since vm0 k0) : (s.setVm vm0).vm.findClass own = some m.cls := (hS.1.alike.findClass _ _).trans E.2.2.1
theorem oLeave (E : oE p l e R s m args below meth c Z bytes own nm maxL ret) (X : oX p l e R s m args below meth c Z T V cells slots) (hc : cells ≤ R.cells) (hs : slots ≤ R.slots) {v : Option Value} (hv : meth.sig.returnType = none → v = none) (hR : Ret v V) {g : JFrame}
    (k : ∀ {vm0 locs c' s'}, Stand p l e R (s.setVm vm0) m args below meth c T locs c' s' → ∀ fs, (∀ (f : JFrame) (acts : List Action), f.method = m → f.locked = none → f.entered = [] → (doReturn e (T.setTop f) acts v).1 = T.setFrames fs) → Steps p.tables e below (T.setTop g) (T.setFrames fs)) :
    oG p e below s Z R Ret T g := by
  obtain ⟨locs, c', s', q1, q2, ⟨vm0, k0, Y, hS, hk⟩, N, H⟩ := X
  have hlocks := E.2.2.2.2.2.2.2
  obtain ⟨fs, hr, hrun, hended, hW⟩ := Y.leaveW hS hk (v := v) hv hlocks
  exact ⟨_, _, k Y fs hr, hrun, hended, _, _, rfl, ⟨N, _, hR, H⟩, hW.1, hW.2.1, hW.2.2.1, hW.2.2.2.mono (Nat.le_trans q1 hc) (Nat.le_trans q2 hs)⟩
theorem gRetV (E : oE p l e R s m args below meth c Z bytes own nm maxL none) (X : oX p l e R s m args below meth c Z T V cells slots) (hd : decode bytes pc = .ok (.return_, 1)) (hc : cells ≤ R.cells) (hs : slots ≤ R.slots) (hR : Ret none V) : oG p e below s Z R Ret T (mkF m pc Ls []) :=
  oLeave E X hc hs (fun _ => rfl) hR fun Y fs hr => Y.returnOut E.1 E.2.2.2.2.2.1 (hb E.2.2.2.1 hd) hr
theorem gRetI (E : oE p l e R s m args below meth c Z bytes own nm maxL (some .int)) (X : oX p l e R s m args below meth c Z T V cells slots) {z : Int32} (hd : decode bytes pc = .ok (.ireturn, 1)) (hc : cells ≤ R.cells) (hs : slots ≤ R.slots) (hR : Ret (some (.int z)) V) : oG p e below s Z R Ret T (mkF m pc Ls (.int z :: rest)) :=
  oLeave E X hc hs (fun h => by rw [E.2.2.2.2.2.1] at h; cases h) hR fun Y fs hr => retOut Y E.1 E.2.2.2.2.2.1 rfl (Or.inl ⟨rfl, Or.inl rfl, _, rfl⟩) (hb E.2.2.2.1 hd) hr
theorem gRetN {t : FieldType} (E : oE p l e R s m args below meth c Z bytes own nm maxL (some t)) (X : oX p l e R s m args below meth c Z T V cells slots) (ht : t = .boolean ∨ t = .byte ∨ t = .char ∨ t = .short) {z : Int32} (hd : decode bytes pc = .ok (.ireturn, 1)) (hc : cells ≤ R.cells) (hs : slots ≤ R.slots) (hR : Ret (some (.int (nar t z))) V) : oG p e below s Z R Ret T (mkF m pc Ls (.int z :: rest)) :=
  oLeave E X hc hs (fun h => by rw [E.2.2.2.2.2.1] at h; cases h) hR fun Y fs hr => retN Y E.1 E.2.2.2.2.2.1 ht (hb E.2.2.2.1 hd) hr
theorem gRetJ (E : oE p l e R s m args below meth c Z bytes own nm maxL (some .long)) (X : oX p l e R s m args below meth c Z T V cells slots) {z : Int64} (hd : decode bytes pc = .ok (.lreturn, 1)) (hc : cells ≤ R.cells) (hs : slots ≤ R.slots) (hR : Ret (some (.long z)) V) : oG p e below s Z R Ret T (mkF m pc Ls (.long z :: rest)) :=
  oLeave E X hc hs (fun h => by rw [E.2.2.2.2.2.1] at h; cases h) hR fun Y fs hr => retOut Y E.1 E.2.2.2.2.2.1 rfl (Or.inr (Or.inl ⟨rfl, rfl, _, rfl⟩)) (hb E.2.2.2.1 hd) hr
theorem gRetA {t : FieldType} (E : oE p l e R s m args below meth c Z bytes own nm maxL (some t)) (X : oX p l e R s m args below meth c Z T V cells slots) (ht : t.isReference = true) {v : Value} (hd : decode bytes pc = .ok (.areturn, 1)) (hc : cells ≤ R.cells) (hs : slots ≤ R.slots) (hv : v.isRef = true) (hn : narrow t v = v) (hR : Ret (some v) V) : oG p e below s Z R Ret T (mkF m pc Ls (v :: rest)) :=
  oLeave E X hc hs (fun h => by rw [E.2.2.2.2.2.1] at h; cases h) hR fun Y fs hr => retOut Y E.1 E.2.2.2.2.2.1 hn (Or.inr (Or.inr (Or.inr (Or.inr ⟨rfl, ht, hv⟩)))) (hb E.2.2.2.1 hd) hr
/-! 4. single steps -/
theorem gAloadN (E : oE p l e R s m args below meth c Z bytes own nm maxL ret) (X : oX p l e R s m args below meth c Z T V cells slots) {k : Fin 4} {v : Value} (hd : decode bytes pc = .ok (.aload_n k, 1)) (hl : Ls[k.val]? = some (.val v)) (hv : v.isRef = true) (hp : pc + 1 = q) (G : oG p e below s Z R Ret T (mkF m q Ls (v :: st))) : oG p e below s Z R Ret T (mkF m pc Ls st) := by
  subst hp ; obtain ⟨_, _, _, _, _, ⟨vm0, k0, Y, hS, hk⟩, _⟩ := X; exact G.step fun t k => XS.aloadN Y.here E.1 rfl (hb E.2.2.2.1 hd) hl hv k
theorem gAload (E : oE p l e R s m args below meth c Z bytes own nm maxL ret) (X : oX p l e R s m args below meth c Z T V cells slots) {k : Nat} {v : Value} (hd : decode bytes pc = .ok (.aload k, 2)) (hl : Ls[k]? = some (.val v)) (hv : v.isRef = true) (hp : pc + 2 = q) (G : oG p e below s Z R Ret T (mkF m q Ls (v :: st))) : oG p e below s Z R Ret T (mkF m pc Ls st) := by
  subst hp ; obtain ⟨_, _, _, _, _, ⟨vm0, k0, Y, hS, hk⟩, _⟩ := X; exact G.step fun t k => XS.aload Y.here E.1 rfl (hb E.2.2.2.1 hd) hl hv k
theorem gIloadN (E : oE p l e R s m args below meth c Z bytes own nm maxL ret) (X : oX p l e R s m args below meth c Z T V cells slots) {k : Fin 4} {v : Int32} (hd : decode bytes pc = .ok (.iload_n k, 1)) (hl : Ls[k.val]? = some (.val (.int v))) (hp : pc + 1 = q) (G : oG p e below s Z R Ret T (mkF m q Ls (.int v :: st))) : oG p e below s Z R Ret T (mkF m pc Ls st) := by
  subst hp ; obtain ⟨_, _, _, _, _, ⟨vm0, k0, Y, hS, hk⟩, _⟩ := X; exact G.step fun t k => XS.iloadN Y.here E.1 rfl (hb E.2.2.2.1 hd) hl k
theorem gIload (E : oE p l e R s m args below meth c Z bytes own nm maxL ret) (X : oX p l e R s m args below meth c Z T V cells slots) {k : Nat} {v : Int32} (hd : decode bytes pc = .ok (.iload k, 2)) (hl : Ls[k]? = some (.val (.int v))) (hp : pc + 2 = q) (G : oG p e below s Z R Ret T (mkF m q Ls (.int v :: st))) : oG p e below s Z R Ret T (mkF m pc Ls st) := by
  subst hp ; obtain ⟨_, _, _, _, _, ⟨vm0, k0, Y, hS, hk⟩, _⟩ := X; exact G.step fun t k => XS.iload Y.here E.1 rfl (hb E.2.2.2.1 hd) hl k
theorem gLloadN (E : oE p l e R s m args below meth c Z bytes own nm maxL ret) (X : oX p l e R s m args below meth c Z T V cells slots) {k : Fin 4} {v : Int64} (hd : decode bytes pc = .ok (.lload_n k, 1)) (hl : Ls[k.val]? = some (.val (.long v))) (hp : pc + 1 = q) (G : oG p e below s Z R Ret T (mkF m q Ls (.long v :: st))) : oG p e below s Z R Ret T (mkF m pc Ls st) := by
  subst hp ; obtain ⟨_, _, _, _, _, ⟨vm0, k0, Y, hS, hk⟩, _⟩ := X; exact G.step fun t k => XT.lloadN Y.here E.1 rfl (hb E.2.2.2.1 hd) hl k
theorem gLload (E : oE p l e R s m args below meth c Z bytes own nm maxL ret) (X : oX p l e R s m args below meth c Z T V cells slots) {k : Nat} {v : Int64} (hd : decode bytes pc = .ok (.lload k, 2)) (hl : Ls[k]? = some (.val (.long v))) (hp : pc + 2 = q) (G : oG p e below s Z R Ret T (mkF m q Ls (.long v :: st))) : oG p e below s Z R Ret T (mkF m pc Ls st) := by
  subst hp ; obtain ⟨_, _, _, _, _, ⟨vm0, k0, Y, hS, hk⟩, _⟩ := X; exact G.step fun t k => XT.lload Y.here E.1 rfl (hb E.2.2.2.1 hd) hl k
theorem gIconst (E : oE p l e R s m args below meth c Z bytes own nm maxL ret) (X : oX p l e R s m args below meth c Z T V cells slots) {i : Int} {v : Int32} (hd : decode bytes pc = .ok (.iconst i, 1)) (hv : Int32.ofInt i = v) (hp : pc + 1 = q) (G : oG p e below s Z R Ret T (mkF m q Ls (.int v :: st))) : oG p e below s Z R Ret T (mkF m pc Ls st) := by
  subst hp ; obtain ⟨_, _, _, _, _, ⟨vm0, k0, Y, hS, hk⟩, _⟩ := X; exact G.step fun t k => XT.iconstV Y.here E.1 rfl v (hb E.2.2.2.1 hd) hv k
theorem gBipush (E : oE p l e R s m args below meth c Z bytes own nm maxL ret) (X : oX p l e R s m args below meth c Z T V cells slots) {i : Int} {v : Int32} (hd : decode bytes pc = .ok (.bipush i, 2)) (hv : (Int8.ofInt i).toInt32 = v) (hp : pc + 2 = q) (G : oG p e below s Z R Ret T (mkF m q Ls (.int v :: st))) : oG p e below s Z R Ret T (mkF m pc Ls st) := by
  subst hp ; obtain ⟨_, _, _, _, _, ⟨vm0, k0, Y, hS, hk⟩, _⟩ := X; exact G.step fun t k => XT.bipushV Y.here E.1 rfl v (hb E.2.2.2.1 hd) hv k
theorem gSipush (E : oE p l e R s m args below meth c Z bytes own nm maxL ret) (X : oX p l e R s m args below meth c Z T V cells slots) {i : Int} {v : Int32} (hd : decode bytes pc = .ok (.sipush i, 3)) (hv : (Int16.ofInt i).toInt32 = v) (hp : pc + 3 = q) (G : oG p e below s Z R Ret T (mkF m q Ls (.int v :: st))) : oG p e below s Z R Ret T (mkF m pc Ls st) := by
  subst hp ; obtain ⟨_, _, _, _, _, ⟨vm0, k0, Y, hS, hk⟩, _⟩ := X; exact G.step fun t k => XT.sipushV Y.here E.1 rfl v (hb E.2.2.2.1 hd) hv k
theorem gLconst (E : oE p l e R s m args below meth c Z bytes own nm maxL ret) (X : oX p l e R s m args below meth c Z T V cells slots) {i : Fin 2} {v : Int64} (hd : decode bytes pc = .ok (.lconst i, 1)) (hv : Int64.ofNat i = v) (hp : pc + 1 = q) (G : oG p e below s Z R Ret T (mkF m q Ls (.long v :: st))) : oG p e below s Z R Ret T (mkF m pc Ls st) := by
  subst hp ; obtain ⟨_, _, _, _, _, ⟨vm0, k0, Y, hS, hk⟩, _⟩ := X; exact G.step fun t k => XT.lconstV Y.here E.1 rfl v (hb E.2.2.2.1 hd) hv k
theorem gNull (E : oE p l e R s m args below meth c Z bytes own nm maxL ret) (X : oX p l e R s m args below meth c Z T V cells slots)  (hd : decode bytes pc = .ok (.aconst_null, 1))  (hp : pc + 1 = q) (G : oG p e below s Z R Ret T (mkF m q Ls (.null :: st))) : oG p e below s Z R Ret T (mkF m pc Ls st) := by
  subst hp ; obtain ⟨_, _, _, _, _, ⟨vm0, k0, Y, hS, hk⟩, _⟩ := X; exact G.step fun t k => XS.aconstNull Y.here E.1 rfl (hb E.2.2.2.1 hd) k
theorem gIadd (E : oE p l e R s m args below meth c Z bytes own nm maxL ret) (X : oX p l e R s m args below meth c Z T V cells slots) {x y z : Int32} (hd : decode bytes pc = .ok (.iadd, 1)) (hz : (x + y) = z) (hp : pc + 1 = q) (G : oG p e below s Z R Ret T (mkF m q Ls (.int z :: st))) : oG p e below s Z R Ret T (mkF m pc Ls (.int y :: .int x :: st)) := by
  subst hp hz; obtain ⟨_, _, _, _, _, ⟨vm0, k0, Y, hS, hk⟩, _⟩ := X; exact G.step fun t k => XS.iadd Y.here E.1 rfl (hb E.2.2.2.1 hd) rfl k
theorem gIsub (E : oE p l e R s m args below meth c Z bytes own nm maxL ret) (X : oX p l e R s m args below meth c Z T V cells slots) {x y z : Int32} (hd : decode bytes pc = .ok (.isub, 1)) (hz : (x - y) = z) (hp : pc + 1 = q) (G : oG p e below s Z R Ret T (mkF m q Ls (.int z :: st))) : oG p e below s Z R Ret T (mkF m pc Ls (.int y :: .int x :: st)) := by
  subst hp hz; obtain ⟨_, _, _, _, _, ⟨vm0, k0, Y, hS, hk⟩, _⟩ := X; exact G.step fun t k => XS.isub Y.here E.1 rfl (hb E.2.2.2.1 hd) rfl k
theorem gIand (E : oE p l e R s m args below meth c Z bytes own nm maxL ret) (X : oX p l e R s m args below meth c Z T V cells slots) {x y z : Int32} (hd : decode bytes pc = .ok (.iand, 1)) (hz : (x &&& y) = z) (hp : pc + 1 = q) (G : oG p e below s Z R Ret T (mkF m q Ls (.int z :: st))) : oG p e below s Z R Ret T (mkF m pc Ls (.int y :: .int x :: st)) := by
  subst hp hz; obtain ⟨_, _, _, _, _, ⟨vm0, k0, Y, hS, hk⟩, _⟩ := X; exact G.step fun t k => XS.iand Y.here E.1 rfl (hb E.2.2.2.1 hd) rfl k
theorem gImul (E : oE p l e R s m args below meth c Z bytes own nm maxL ret) (X : oX p l e R s m args below meth c Z T V cells slots) {x y z : Int32} (hd : decode bytes pc = .ok (.imul, 1)) (hz : (x * y) = z) (hp : pc + 1 = q) (G : oG p e below s Z R Ret T (mkF m q Ls (.int z :: st))) : oG p e below s Z R Ret T (mkF m pc Ls (.int y :: .int x :: st)) := by
  subst hp hz; obtain ⟨_, _, _, _, _, ⟨vm0, k0, Y, hS, hk⟩, _⟩ := X; exact G.step fun t k => XS.imul Y.here E.1 rfl (hb E.2.2.2.1 hd) rfl k
theorem gIxor (E : oE p l e R s m args below meth c Z bytes own nm maxL ret) (X : oX p l e R s m args below meth c Z T V cells slots) {x y z : Int32} (hd : decode bytes pc = .ok (.ixor, 1)) (hz : (x ^^^ y) = z) (hp : pc + 1 = q) (G : oG p e below s Z R Ret T (mkF m q Ls (.int z :: st))) : oG p e below s Z R Ret T (mkF m pc Ls (.int y :: .int x :: st)) := by
  subst hp hz; obtain ⟨_, _, _, _, _, ⟨vm0, k0, Y, hS, hk⟩, _⟩ := X; exact G.step fun t k => XT.ixor Y.here E.1 rfl (hb E.2.2.2.1 hd) rfl k
theorem gIor (E : oE p l e R s m args below meth c Z bytes own nm maxL ret) (X : oX p l e R s m args below meth c Z T V cells slots) {x y z : Int32} (hd : decode bytes pc = .ok (.ior, 1)) (hz : (x ||| y) = z) (hp : pc + 1 = q) (G : oG p e below s Z R Ret T (mkF m q Ls (.int z :: st))) : oG p e below s Z R Ret T (mkF m pc Ls (.int y :: .int x :: st)) := by
  subst hp hz; obtain ⟨_, _, _, _, _, ⟨vm0, k0, Y, hS, hk⟩, _⟩ := X; exact G.step fun t k => XT.ior Y.here E.1 rfl (hb E.2.2.2.1 hd) rfl k
theorem gIshl (E : oE p l e R s m args below meth c Z bytes own nm maxL ret) (X : oX p l e R s m args below meth c Z T V cells slots) {x y z : Int32} (hd : decode bytes pc = .ok (.ishl, 1)) (hz : (x <<< (y &&& 31)) = z) (hp : pc + 1 = q) (G : oG p e below s Z R Ret T (mkF m q Ls (.int z :: st))) : oG p e below s Z R Ret T (mkF m pc Ls (.int y :: .int x :: st)) := by
  subst hp hz; obtain ⟨_, _, _, _, _, ⟨vm0, k0, Y, hS, hk⟩, _⟩ := X; exact G.step fun t k => XT.ishl Y.here E.1 rfl (hb E.2.2.2.1 hd) rfl k
theorem gIshr (E : oE p l e R s m args below meth c Z bytes own nm maxL ret) (X : oX p l e R s m args below meth c Z T V cells slots) {x y z : Int32} (hd : decode bytes pc = .ok (.ishr, 1)) (hz : (x >>> (y &&& 31)) = z) (hp : pc + 1 = q) (G : oG p e below s Z R Ret T (mkF m q Ls (.int z :: st))) : oG p e below s Z R Ret T (mkF m pc Ls (.int y :: .int x :: st)) := by
  subst hp hz; obtain ⟨_, _, _, _, _, ⟨vm0, k0, Y, hS, hk⟩, _⟩ := X; exact G.step fun t k => XT.ishr Y.here E.1 rfl (hb E.2.2.2.1 hd) rfl k
theorem gIushr (E : oE p l e R s m args below meth c Z bytes own nm maxL ret) (X : oX p l e R s m args below meth c Z T V cells slots) {x y z : Int32} (hd : decode bytes pc = .ok (.iushr, 1)) (hz : (XT.ushr x y) = z) (hp : pc + 1 = q) (G : oG p e below s Z R Ret T (mkF m q Ls (.int z :: st))) : oG p e below s Z R Ret T (mkF m pc Ls (.int y :: .int x :: st)) := by
  subst hp hz; obtain ⟨_, _, _, _, _, ⟨vm0, k0, Y, hS, hk⟩, _⟩ := X; exact G.step fun t k => XT.iushr Y.here E.1 rfl (hb E.2.2.2.1 hd) rfl k
theorem gIdiv (E : oE p l e R s m args below meth c Z bytes own nm maxL ret) (X : oX p l e R s m args below meth c Z T V cells slots) {x y z : Int32} (hd : decode bytes pc = .ok (.idiv, 1)) (hy : y ≠ 0) (hz : (x / y) = z) (hp : pc + 1 = q) (G : oG p e below s Z R Ret T (mkF m q Ls (.int z :: st))) : oG p e below s Z R Ret T (mkF m pc Ls (.int y :: .int x :: st)) := by
  subst hp hz; obtain ⟨_, _, _, _, _, ⟨vm0, k0, Y, hS, hk⟩, _⟩ := X; exact G.step fun t k => XS.idiv Y.here E.1 rfl (hb E.2.2.2.1 hd) rfl hy k
theorem gIrem (E : oE p l e R s m args below meth c Z bytes own nm maxL ret) (X : oX p l e R s m args below meth c Z T V cells slots) {x y z : Int32} (hd : decode bytes pc = .ok (.irem, 1)) (hy : y ≠ 0) (hz : (x - x / y * y) = z) (hp : pc + 1 = q) (G : oG p e below s Z R Ret T (mkF m q Ls (.int z :: st))) : oG p e below s Z R Ret T (mkF m pc Ls (.int y :: .int x :: st)) := by
  subst hp hz; obtain ⟨_, _, _, _, _, ⟨vm0, k0, Y, hS, hk⟩, _⟩ := X; exact G.step fun t k => XS.irem Y.here E.1 rfl (hb E.2.2.2.1 hd) rfl hy k
theorem gIneg (E : oE p l e R s m args below meth c Z bytes own nm maxL ret) (X : oX p l e R s m args below meth c Z T V cells slots) {x z : Int32} (hd : decode bytes pc = .ok (.ineg, 1)) (hz : (-x) = z) (hp : pc + 1 = q) (G : oG p e below s Z R Ret T (mkF m q Ls (.int z :: st))) : oG p e below s Z R Ret T (mkF m pc Ls (.int x :: st)) := by
  subst hp hz; obtain ⟨_, _, _, _, _, ⟨vm0, k0, Y, hS, hk⟩, _⟩ := X; exact G.step fun t k => XS.ineg Y.here E.1 rfl (hb E.2.2.2.1 hd) rfl k
theorem gLadd (E : oE p l e R s m args below meth c Z bytes own nm maxL ret) (X : oX p l e R s m args below meth c Z T V cells slots) {x y z : Int64} (hd : decode bytes pc = .ok (.ladd, 1)) (hz : (x + y) = z) (hp : pc + 1 = q) (G : oG p e below s Z R Ret T (mkF m q Ls (.long z :: st))) : oG p e below s Z R Ret T (mkF m pc Ls (.long y :: .long x :: st)) := by
  subst hp hz; obtain ⟨_, _, _, _, _, ⟨vm0, k0, Y, hS, hk⟩, _⟩ := X; exact G.step fun t k => XT.ladd Y.here E.1 rfl (hb E.2.2.2.1 hd) rfl k
theorem gLsub (E : oE p l e R s m args below meth c Z bytes own nm maxL ret) (X : oX p l e R s m args below meth c Z T V cells slots) {x y z : Int64} (hd : decode bytes pc = .ok (.lsub, 1)) (hz : (x - y) = z) (hp : pc + 1 = q) (G : oG p e below s Z R Ret T (mkF m q Ls (.long z :: st))) : oG p e below s Z R Ret T (mkF m pc Ls (.long y :: .long x :: st)) := by
  subst hp hz; obtain ⟨_, _, _, _, _, ⟨vm0, k0, Y, hS, hk⟩, _⟩ := X; exact G.step fun t k => XT.lsub Y.here E.1 rfl (hb E.2.2.2.1 hd) rfl k
theorem gLmul (E : oE p l e R s m args below meth c Z bytes own nm maxL ret) (X : oX p l e R s m args below meth c Z T V cells slots) {x y z : Int64} (hd : decode bytes pc = .ok (.lmul, 1)) (hz : (x * y) = z) (hp : pc + 1 = q) (G : oG p e below s Z R Ret T (mkF m q Ls (.long z :: st))) : oG p e below s Z R Ret T (mkF m pc Ls (.long y :: .long x :: st)) := by
  subst hp hz; obtain ⟨_, _, _, _, _, ⟨vm0, k0, Y, hS, hk⟩, _⟩ := X; exact G.step fun t k => XT.lmul Y.here E.1 rfl (hb E.2.2.2.1 hd) rfl k
theorem gLand (E : oE p l e R s m args below meth c Z bytes own nm maxL ret) (X : oX p l e R s m args below meth c Z T V cells slots) {x y z : Int64} (hd : decode bytes pc = .ok (.land, 1)) (hz : (x &&& y) = z) (hp : pc + 1 = q) (G : oG p e below s Z R Ret T (mkF m q Ls (.long z :: st))) : oG p e below s Z R Ret T (mkF m pc Ls (.long y :: .long x :: st)) := by
  subst hp hz; obtain ⟨_, _, _, _, _, ⟨vm0, k0, Y, hS, hk⟩, _⟩ := X; exact G.step fun t k => XT.land Y.here E.1 rfl (hb E.2.2.2.1 hd) rfl k
theorem gLor (E : oE p l e R s m args below meth c Z bytes own nm maxL ret) (X : oX p l e R s m args below meth c Z T V cells slots) {x y z : Int64} (hd : decode bytes pc = .ok (.lor, 1)) (hz : (x ||| y) = z) (hp : pc + 1 = q) (G : oG p e below s Z R Ret T (mkF m q Ls (.long z :: st))) : oG p e below s Z R Ret T (mkF m pc Ls (.long y :: .long x :: st)) := by
  subst hp hz; obtain ⟨_, _, _, _, _, ⟨vm0, k0, Y, hS, hk⟩, _⟩ := X; exact G.step fun t k => XT.lor Y.here E.1 rfl (hb E.2.2.2.1 hd) rfl k
theorem gLxor (E : oE p l e R s m args below meth c Z bytes own nm maxL ret) (X : oX p l e R s m args below meth c Z T V cells slots) {x y z : Int64} (hd : decode bytes pc = .ok (.lxor, 1)) (hz : (x ^^^ y) = z) (hp : pc + 1 = q) (G : oG p e below s Z R Ret T (mkF m q Ls (.long z :: st))) : oG p e below s Z R Ret T (mkF m pc Ls (.long y :: .long x :: st)) := by
  subst hp hz; obtain ⟨_, _, _, _, _, ⟨vm0, k0, Y, hS, hk⟩, _⟩ := X; exact G.step fun t k => XT.lxor Y.here E.1 rfl (hb E.2.2.2.1 hd) rfl k
theorem gLdiv (E : oE p l e R s m args below meth c Z bytes own nm maxL ret) (X : oX p l e R s m args below meth c Z T V cells slots) {x y z : Int64} (hd : decode bytes pc = .ok (.ldiv, 1)) (hy : y ≠ 0) (hz : (x / y) = z) (hp : pc + 1 = q) (G : oG p e below s Z R Ret T (mkF m q Ls (.long z :: st))) : oG p e below s Z R Ret T (mkF m pc Ls (.long y :: .long x :: st)) := by
  subst hp hz; obtain ⟨_, _, _, _, _, ⟨vm0, k0, Y, hS, hk⟩, _⟩ := X; exact G.step fun t k => XT.ldiv Y.here E.1 rfl (hb E.2.2.2.1 hd) rfl hy k
theorem gLrem (E : oE p l e R s m args below meth c Z bytes own nm maxL ret) (X : oX p l e R s m args below meth c Z T V cells slots) {x y z : Int64} (hd : decode bytes pc = .ok (.lrem, 1)) (hy : y ≠ 0) (hz : (x - x / y * y) = z) (hp : pc + 1 = q) (G : oG p e below s Z R Ret T (mkF m q Ls (.long z :: st))) : oG p e below s Z R Ret T (mkF m pc Ls (.long y :: .long x :: st)) := by
  subst hp hz; obtain ⟨_, _, _, _, _, ⟨vm0, k0, Y, hS, hk⟩, _⟩ := X; exact G.step fun t k => XT.lrem Y.here E.1 rfl (hb E.2.2.2.1 hd) rfl hy k
theorem gLneg (E : oE p l e R s m args below meth c Z bytes own nm maxL ret) (X : oX p l e R s m args below meth c Z T V cells slots) {x z : Int64} (hd : decode bytes pc = .ok (.lneg, 1)) (hz : (-x) = z) (hp : pc + 1 = q) (G : oG p e below s Z R Ret T (mkF m q Ls (.long z :: st))) : oG p e below s Z R Ret T (mkF m pc Ls (.long x :: st)) := by
  subst hp hz; obtain ⟨_, _, _, _, _, ⟨vm0, k0, Y, hS, hk⟩, _⟩ := X; exact G.step fun t k => XT.lneg Y.here E.1 rfl (hb E.2.2.2.1 hd) rfl k
theorem gLshl (E : oE p l e R s m args below meth c Z bytes own nm maxL ret) (X : oX p l e R s m args below meth c Z T V cells slots) {x z : Int64} {y : Int32} (hd : decode bytes pc = .ok (.lshl, 1)) (hz : (x <<< (y.toInt64 &&& 63)) = z) (hp : pc + 1 = q) (G : oG p e below s Z R Ret T (mkF m q Ls (.long z :: st))) : oG p e below s Z R Ret T (mkF m pc Ls (.int y :: .long x :: st)) := by
  subst hp hz; obtain ⟨_, _, _, _, _, ⟨vm0, k0, Y, hS, hk⟩, _⟩ := X; exact G.step fun t k => XT.lshl Y.here E.1 rfl (hb E.2.2.2.1 hd) rfl k
theorem gLshr (E : oE p l e R s m args below meth c Z bytes own nm maxL ret) (X : oX p l e R s m args below meth c Z T V cells slots) {x z : Int64} {y : Int32} (hd : decode bytes pc = .ok (.lshr, 1)) (hz : (x >>> (y.toInt64 &&& 63)) = z) (hp : pc + 1 = q) (G : oG p e below s Z R Ret T (mkF m q Ls (.long z :: st))) : oG p e below s Z R Ret T (mkF m pc Ls (.int y :: .long x :: st)) := by
  subst hp hz; obtain ⟨_, _, _, _, _, ⟨vm0, k0, Y, hS, hk⟩, _⟩ := X; exact G.step fun t k => XT.lshr Y.here E.1 rfl (hb E.2.2.2.1 hd) rfl k
theorem gLushr (E : oE p l e R s m args below meth c Z bytes own nm maxL ret) (X : oX p l e R s m args below meth c Z T V cells slots) {x z : Int64} {y : Int32} (hd : decode bytes pc = .ok (.lushr, 1)) (hz : (XT.ushrL x y) = z) (hp : pc + 1 = q) (G : oG p e below s Z R Ret T (mkF m q Ls (.long z :: st))) : oG p e below s Z R Ret T (mkF m pc Ls (.int y :: .long x :: st)) := by
  subst hp hz; obtain ⟨_, _, _, _, _, ⟨vm0, k0, Y, hS, hk⟩, _⟩ := X; exact G.step fun t k => XT.lushr Y.here E.1 rfl (hb E.2.2.2.1 hd) rfl k
theorem gLcmp (E : oE p l e R s m args below meth c Z bytes own nm maxL ret) (X : oX p l e R s m args below meth c Z T V cells slots) {x y : Int64} (hd : decode bytes pc = .ok (.lcmp, 1))  (hp : pc + 1 = q) (G : oG p e below s Z R Ret T (mkF m q Ls (.int (XT.cmpL x y) :: st))) : oG p e below s Z R Ret T (mkF m pc Ls (.long y :: .long x :: st)) := by
  subst hp ; obtain ⟨_, _, _, _, _, ⟨vm0, k0, Y, hS, hk⟩, _⟩ := X; exact G.step fun t k => XT.lcmp Y.here E.1 rfl (hb E.2.2.2.1 hd) rfl k
theorem gI2l (E : oE p l e R s m args below meth c Z bytes own nm maxL ret) (X : oX p l e R s m args below meth c Z T V cells slots) {x : Int32} {z : Int64} (hd : decode bytes pc = .ok (.i2l, 1)) (hz : x.toInt64 = z) (hp : pc + 1 = q) (G : oG p e below s Z R Ret T (mkF m q Ls (.long z :: st))) : oG p e below s Z R Ret T (mkF m pc Ls (.int x :: st)) := by
  subst hp hz; obtain ⟨_, _, _, _, _, ⟨vm0, k0, Y, hS, hk⟩, _⟩ := X; exact G.step fun t k => XT.i2l Y.here E.1 rfl (hb E.2.2.2.1 hd) rfl k
theorem gL2i (E : oE p l e R s m args below meth c Z bytes own nm maxL ret) (X : oX p l e R s m args below meth c Z T V cells slots) {x : Int64} {z : Int32} (hd : decode bytes pc = .ok (.l2i, 1)) (hz : x.toInt32 = z) (hp : pc + 1 = q) (G : oG p e below s Z R Ret T (mkF m q Ls (.int z :: st))) : oG p e below s Z R Ret T (mkF m pc Ls (.long x :: st)) := by
  subst hp hz; obtain ⟨_, _, _, _, _, ⟨vm0, k0, Y, hS, hk⟩, _⟩ := X; exact G.step fun t k => XT.l2i Y.here E.1 rfl (hb E.2.2.2.1 hd) rfl k
theorem gI2b (E : oE p l e R s m args below meth c Z bytes own nm maxL ret) (X : oX p l e R s m args below meth c Z T V cells slots) {x z : Int32} (hd : decode bytes pc = .ok (.i2b, 1)) (hz : x.toInt8.toInt32 = z) (hp : pc + 1 = q) (G : oG p e below s Z R Ret T (mkF m q Ls (.int z :: st))) : oG p e below s Z R Ret T (mkF m pc Ls (.int x :: st)) := by
  subst hp hz; obtain ⟨_, _, _, _, _, ⟨vm0, k0, Y, hS, hk⟩, _⟩ := X; exact G.step fun t k => XT.i2b Y.here E.1 rfl (hb E.2.2.2.1 hd) rfl k
theorem gI2c (E : oE p l e R s m args below meth c Z bytes own nm maxL ret) (X : oX p l e R s m args below meth c Z T V cells slots) {x z : Int32} (hd : decode bytes pc = .ok (.i2c, 1)) (hz : x.toUInt32.toUInt16.toUInt32.toInt32 = z) (hp : pc + 1 = q) (G : oG p e below s Z R Ret T (mkF m q Ls (.int z :: st))) : oG p e below s Z R Ret T (mkF m pc Ls (.int x :: st)) := by
  subst hp hz; obtain ⟨_, _, _, _, _, ⟨vm0, k0, Y, hS, hk⟩, _⟩ := X; exact G.step fun t k => XT.i2c Y.here E.1 rfl (hb E.2.2.2.1 hd) rfl k
theorem gI2s (E : oE p l e R s m args below meth c Z bytes own nm maxL ret) (X : oX p l e R s m args below meth c Z T V cells slots) {x z : Int32} (hd : decode bytes pc = .ok (.i2s, 1)) (hz : x.toInt16.toInt32 = z) (hp : pc + 1 = q) (G : oG p e below s Z R Ret T (mkF m q Ls (.int z :: st))) : oG p e below s Z R Ret T (mkF m pc Ls (.int x :: st)) := by
  subst hp hz; obtain ⟨_, _, _, _, _, ⟨vm0, k0, Y, hS, hk⟩, _⟩ := X; exact G.step fun t k => XT.i2s Y.here E.1 rfl (hb E.2.2.2.1 hd) rfl k
theorem gDup (E : oE p l e R s m args below meth c Z bytes own nm maxL ret) (X : oX p l e R s m args below meth c Z T V cells slots) {v : Value} (hd : decode bytes pc = .ok (.dup, 1)) (hc : v.category = 1) (hp : pc + 1 = q) (G : oG p e below s Z R Ret T (mkF m q Ls (v :: v :: st))) : oG p e below s Z R Ret T (mkF m pc Ls (v :: st)) := by
  subst hp ; obtain ⟨_, _, _, _, _, ⟨vm0, k0, Y, hS, hk⟩, _⟩ := X; exact G.step fun t k => XS.dup Y.here E.1 rfl (hb E.2.2.2.1 hd) rfl hc k
theorem gPop (E : oE p l e R s m args below meth c Z bytes own nm maxL ret) (X : oX p l e R s m args below meth c Z T V cells slots) {v : Value} (hd : decode bytes pc = .ok (.pop, 1)) (hc : v.category = 1) (hp : pc + 1 = q) (G : oG p e below s Z R Ret T (mkF m q Ls st)) : oG p e below s Z R Ret T (mkF m pc Ls (v :: st)) := by
  subst hp ; obtain ⟨_, _, _, _, _, ⟨vm0, k0, Y, hS, hk⟩, _⟩ := X; exact G.step fun t k => XT.pop Y.here E.1 rfl (hb E.2.2.2.1 hd) rfl hc k
theorem gDupX1 (E : oE p l e R s m args below meth c Z bytes own nm maxL ret) (X : oX p l e R s m args below meth c Z T V cells slots) {v w : Value} (hd : decode bytes pc = .ok (.dup_x1, 1)) (hc : v.category = 1) (hc' : w.category = 1) (hp : pc + 1 = q) (G : oG p e below s Z R Ret T (mkF m q Ls (v :: w :: v :: st))) : oG p e below s Z R Ret T (mkF m pc Ls (v :: w :: st)) := by
  subst hp ; obtain ⟨_, _, _, _, _, ⟨vm0, k0, Y, hS, hk⟩, _⟩ := X; exact G.step fun t k => XT.dupX1 Y.here E.1 rfl (hb E.2.2.2.1 hd) rfl hc hc' k
theorem gDup2 (E : oE p l e R s m args below meth c Z bytes own nm maxL ret) (X : oX p l e R s m args below meth c Z T V cells slots) {v w : Value} (hd : decode bytes pc = .ok (.dup2, 1)) (hc : v.category = 1) (hc' : w.category = 1) (hp : pc + 1 = q) (G : oG p e below s Z R Ret T (mkF m q Ls (v :: w :: v :: w :: st))) : oG p e below s Z R Ret T (mkF m pc Ls (v :: w :: st)) := by
  subst hp ; obtain ⟨_, _, _, _, _, ⟨vm0, k0, Y, hS, hk⟩, _⟩ := X; exact G.step fun t k => XT.dup2 Y.here E.1 rfl (hb E.2.2.2.1 hd) rfl hc hc' k
theorem gDup2L (E : oE p l e R s m args below meth c Z bytes own nm maxL ret) (X : oX p l e R s m args below meth c Z T V cells slots) {x : Int64} (hd : decode bytes pc = .ok (.dup2, 1))  (hp : pc + 1 = q) (G : oG p e below s Z R Ret T (mkF m q Ls (.long x :: .long x :: st))) : oG p e below s Z R Ret T (mkF m pc Ls (.long x :: st)) := by
  subst hp ; obtain ⟨_, _, _, _, _, ⟨vm0, k0, Y, hS, hk⟩, _⟩ := X; exact G.step fun t k => XT.dup2L Y.here E.1 rfl (hb E.2.2.2.1 hd) rfl k
theorem gIstoreN (E : oE p l e R s m args below meth c Z bytes own nm maxL ret) (X : oX p l e R s m args below meth c Z T V cells slots) {k : Fin 4} {x : Int32} {l' : Array Slot} (hd : decode bytes pc = .ok (.istore_n k, 1)) (hl : storeLocals Ls k.val (.int x) = some l') (hp : pc + 1 = q) (G : oG p e below s Z R Ret T (mkF m q l' st)) : oG p e below s Z R Ret T (mkF m pc Ls (.int x :: st)) := by
  subst hp ; obtain ⟨_, _, _, _, _, ⟨vm0, k0, Y, hS, hk⟩, _⟩ := X; exact G.step fun t k => XS.istoreN Y.here E.1 rfl (hb E.2.2.2.1 hd) rfl hl k
theorem gIstore (E : oE p l e R s m args below meth c Z bytes own nm maxL ret) (X : oX p l e R s m args below meth c Z T V cells slots) {k : Nat} {x : Int32} {l' : Array Slot} (hd : decode bytes pc = .ok (.istore k, 2)) (hl : storeLocals Ls k (.int x) = some l') (hp : pc + 2 = q) (G : oG p e below s Z R Ret T (mkF m q l' st)) : oG p e below s Z R Ret T (mkF m pc Ls (.int x :: st)) := by
  subst hp ; obtain ⟨_, _, _, _, _, ⟨vm0, k0, Y, hS, hk⟩, _⟩ := X; exact G.step fun t k => XS.istore Y.here E.1 rfl (hb E.2.2.2.1 hd) rfl hl k
theorem gLstoreN (E : oE p l e R s m args below meth c Z bytes own nm maxL ret) (X : oX p l e R s m args below meth c Z T V cells slots) {k : Fin 4} {x : Int64} {l' : Array Slot} (hd : decode bytes pc = .ok (.lstore_n k, 1)) (hl : storeLocals Ls k.val (.long x) = some l') (hp : pc + 1 = q) (G : oG p e below s Z R Ret T (mkF m q l' st)) : oG p e below s Z R Ret T (mkF m pc Ls (.long x :: st)) := by
  subst hp ; obtain ⟨_, _, _, _, _, ⟨vm0, k0, Y, hS, hk⟩, _⟩ := X; exact G.step fun t k => XT.lstoreN Y.here E.1 rfl (hb E.2.2.2.1 hd) rfl hl k
theorem gLstore (E : oE p l e R s m args below meth c Z bytes own nm maxL ret) (X : oX p l e R s m args below meth c Z T V cells slots) {k : Nat} {x : Int64} {l' : Array Slot} (hd : decode bytes pc = .ok (.lstore k, 2)) (hl : storeLocals Ls k (.long x) = some l') (hp : pc + 2 = q) (G : oG p e below s Z R Ret T (mkF m q l' st)) : oG p e below s Z R Ret T (mkF m pc Ls (.long x :: st)) := by
  subst hp ; obtain ⟨_, _, _, _, _, ⟨vm0, k0, Y, hS, hk⟩, _⟩ := X; exact G.step fun t k => XT.lstore Y.here E.1 rfl (hb E.2.2.2.1 hd) rfl hl k
theorem gAstoreN (E : oE p l e R s m args below meth c Z bytes own nm maxL ret) (X : oX p l e R s m args below meth c Z T V cells slots) {k : Fin 4} {v : Value} {l' : Array Slot} (hd : decode bytes pc = .ok (.astore_n k, 1)) (hv : v.isRef = true) (hl : storeLocals Ls k.val v = some l') (hp : pc + 1 = q) (G : oG p e below s Z R Ret T (mkF m q l' st)) : oG p e below s Z R Ret T (mkF m pc Ls (v :: st)) := by
  subst hp ; obtain ⟨_, _, _, _, _, ⟨vm0, k0, Y, hS, hk⟩, _⟩ := X; exact G.step fun t k => XS.astoreN Y.here E.1 rfl (hb E.2.2.2.1 hd) rfl hv hl k
theorem gAstore (E : oE p l e R s m args below meth c Z bytes own nm maxL ret) (X : oX p l e R s m args below meth c Z T V cells slots) {k : Nat} {v : Value} {l' : Array Slot} (hd : decode bytes pc = .ok (.astore k, 2)) (hv : v.isRef = true) (hl : storeLocals Ls k v = some l') (hp : pc + 2 = q) (G : oG p e below s Z R Ret T (mkF m q l' st)) : oG p e below s Z R Ret T (mkF m pc Ls (v :: st)) := by
  subst hp ; obtain ⟨_, _, _, _, _, ⟨vm0, k0, Y, hS, hk⟩, _⟩ := X; exact G.step fun t k => XS.astore Y.here E.1 rfl (hb E.2.2.2.1 hd) rfl hv hl k
theorem gIinc (E : oE p l e R s m args below meth c Z bytes own nm maxL ret) (X : oX p l e R s m args below meth c Z T V cells slots) {k : Nat} {cst : Int} {x : Int32} {l' : Array Slot} (v : Int32) (hd : decode bytes pc = .ok (.iinc k cst, 3)) (hv : Int32.ofInt cst = v) (hl : Ls[k]? = some (.val (.int x))) (hl' : storeLocals Ls k (.int (x + v)) = some l') (hp : pc + 3 = q) (G : oG p e below s Z R Ret T (mkF m q l' st)) : oG p e below s Z R Ret T (mkF m pc Ls st) := by
  subst hp ; obtain ⟨_, _, _, _, _, ⟨vm0, k0, Y, hS, hk⟩, _⟩ := X; exact G.step fun t k => XT.iincV Y.here E.1 rfl v (hb E.2.2.2.1 hd) hv hl hl' k
theorem gIincV (E : oE p l e R s m args below meth c Z bytes own nm maxL ret) (X : oX p l e R s m args below meth c Z T V cells slots) {k : Nat} {cst : Int} {x : Int32} {l' : Array Slot} (v z : Int32) (hd : decode bytes pc = .ok (.iinc k cst, 3)) (hv : Int32.ofInt cst = v) (hl : Ls[k]? = some (.val (.int x))) (hz : x + v = z) (hl' : storeLocals Ls k (.int z) = some l') (hp : pc + 3 = q) (G : oG p e below s Z R Ret T (mkF m q l' st)) : oG p e below s Z R Ret T (mkF m pc Ls st) := by
  subst hp hz; obtain ⟨_, _, _, _, _, ⟨vm0, k0, Y, hS, hk⟩, _⟩ := X; exact G.step fun t k => XT.iincV Y.here E.1 rfl v (hb E.2.2.2.1 hd) hv hl hl' k
theorem gGoto (E : oE p l e R s m args below meth c Z bytes own nm maxL ret) (X : oX p l e R s m args below meth c Z T V cells slots) {o : Int} (hd : decode bytes pc = .ok (.goto o, 3)) (ho : 0 ≤ (pc : Int) + o) (hp : ((pc : Int) + o).toNat = q) (G : oG p e below s Z R Ret T (mkF m q Ls st)) : oG p e below s Z R Ret T (mkF m pc Ls st) := by
  obtain ⟨_, _, _, _, _, ⟨vm0, k0, Y, hS, hk⟩, _⟩ := X; exact G.step fun t k => XS.goto Y.here E.1 rfl (pc0 := pc) rfl (hb E.2.2.2.1 hd) ho hp k
theorem gIc_eq (E : oE p l e R s m args below meth c Z bytes own nm maxL ret) (X : oX p l e R s m args below meth c Z T V cells slots) {x y : Int32} {o : Int} {q' : Nat} (hd : decode bytes pc = .ok (.if_icmp .eq o, 3)) (ho : 0 ≤ (pc : Int) + o) (hp : ((pc : Int) + o).toNat = q) (hp' : pc + 3 = q') (G1 : x = y → oG p e below s Z R Ret T (mkF m q Ls st)) (G0 : ¬ (x = y) → oG p e below s Z R Ret T (mkF m q' Ls st)) : oG p e below s Z R Ret T (mkF m pc Ls (.int y :: .int x :: st)) := by
  obtain ⟨_, _, _, _, _, ⟨vm0, k0, Y, hS, hk⟩, _⟩ := X
  by_cases hq : x = y
  · exact (G1 hq).step fun t k => XS.icmpYes Y.here E.1 rfl (pc0 := pc) rfl (hb E.2.2.2.1 hd) rfl (XT.ii_eq_t hq) ho hp k
  · subst hp'; exact (G0 hq).step fun t k => XS.icmpNo Y.here E.1 rfl (hb E.2.2.2.1 hd) rfl (XT.ii_eq_f hq) k
theorem gIf_eq (E : oE p l e R s m args below meth c Z bytes own nm maxL ret) (X : oX p l e R s m args below meth c Z T V cells slots) {x : Int32} {o : Int} {q' : Nat} (hd : decode bytes pc = .ok (.ifCond .eq o, 3)) (ho : 0 ≤ (pc : Int) + o) (hp : ((pc : Int) + o).toNat = q) (hp' : pc + 3 = q') (G1 : x = 0 → oG p e below s Z R Ret T (mkF m q Ls st)) (G0 : ¬ (x = 0) → oG p e below s Z R Ret T (mkF m q' Ls st)) : oG p e below s Z R Ret T (mkF m pc Ls (.int x :: st)) := by
  obtain ⟨_, _, _, _, _, ⟨vm0, k0, Y, hS, hk⟩, _⟩ := X
  by_cases hq : x = 0
  · exact (G1 hq).step fun t k => XS.ifYes Y.here E.1 rfl (pc0 := pc) rfl (hb E.2.2.2.1 hd) rfl (XT.i0_eq_t hq) ho hp k
  · subst hp'; exact (G0 hq).step fun t k => XS.ifNo Y.here E.1 rfl (hb E.2.2.2.1 hd) rfl (XT.i0_eq_f hq) k
theorem gLc_eq (E : oE p l e R s m args below meth c Z bytes own nm maxL ret) (X : oX p l e R s m args below meth c Z T V cells slots) {x y : Int64} {o : Int} {q' : Nat} (hd : decode bytes pc = .ok (.ifCond .eq o, 3)) (ho : 0 ≤ (pc : Int) + o) (hp : ((pc : Int) + o).toNat = q) (hp' : pc + 3 = q') (G1 : x = y → oG p e below s Z R Ret T (mkF m q Ls st)) (G0 : ¬ (x = y) → oG p e below s Z R Ret T (mkF m q' Ls st)) : oG p e below s Z R Ret T (mkF m pc Ls (.int (XT.cmpL x y) :: st)) := by
  obtain ⟨_, _, _, _, _, ⟨vm0, k0, Y, hS, hk⟩, _⟩ := X
  by_cases hq : x = y
  · exact (G1 hq).step fun t k => XS.ifYes Y.here E.1 rfl (pc0 := pc) rfl (hb E.2.2.2.1 hd) rfl (XT.ll_eq_t hq) ho hp k
  · subst hp'; exact (G0 hq).step fun t k => XS.ifNo Y.here E.1 rfl (hb E.2.2.2.1 hd) rfl (XT.ll_eq_f hq) k
theorem gIc_ne (E : oE p l e R s m args below meth c Z bytes own nm maxL ret) (X : oX p l e R s m args below meth c Z T V cells slots) {x y : Int32} {o : Int} {q' : Nat} (hd : decode bytes pc = .ok (.if_icmp .ne o, 3)) (ho : 0 ≤ (pc : Int) + o) (hp : ((pc : Int) + o).toNat = q) (hp' : pc + 3 = q') (G1 : ¬ (x = y) → oG p e below s Z R Ret T (mkF m q Ls st)) (G0 : x = y → oG p e below s Z R Ret T (mkF m q' Ls st)) : oG p e below s Z R Ret T (mkF m pc Ls (.int y :: .int x :: st)) := by
  obtain ⟨_, _, _, _, _, ⟨vm0, k0, Y, hS, hk⟩, _⟩ := X
  by_cases hq : x = y
  · subst hp'; exact (G0 hq).step fun t k => XS.icmpNo Y.here E.1 rfl (hb E.2.2.2.1 hd) rfl (XT.ii_ne_f hq) k
  · exact (G1 hq).step fun t k => XS.icmpYes Y.here E.1 rfl (pc0 := pc) rfl (hb E.2.2.2.1 hd) rfl (XT.ii_ne_t hq) ho hp k
theorem gIf_ne (E : oE p l e R s m args below meth c Z bytes own nm maxL ret) (X : oX p l e R s m args below meth c Z T V cells slots) {x : Int32} {o : Int} {q' : Nat} (hd : decode bytes pc = .ok (.ifCond .ne o, 3)) (ho : 0 ≤ (pc : Int) + o) (hp : ((pc : Int) + o).toNat = q) (hp' : pc + 3 = q') (G1 : ¬ (x = 0) → oG p e below s Z R Ret T (mkF m q Ls st)) (G0 : x = 0 → oG p e below s Z R Ret T (mkF m q' Ls st)) : oG p e below s Z R Ret T (mkF m pc Ls (.int x :: st)) := by
  obtain ⟨_, _, _, _, _, ⟨vm0, k0, Y, hS, hk⟩, _⟩ := X
  by_cases hq : x = 0
  · subst hp'; exact (G0 hq).step fun t k => XS.ifNo Y.here E.1 rfl (hb E.2.2.2.1 hd) rfl (XT.i0_ne_f hq) k
  · exact (G1 hq).step fun t k => XS.ifYes Y.here E.1 rfl (pc0 := pc) rfl (hb E.2.2.2.1 hd) rfl (XT.i0_ne_t hq) ho hp k
theorem gLc_ne (E : oE p l e R s m args below meth c Z bytes own nm maxL ret) (X : oX p l e R s m args below meth c Z T V cells slots) {x y : Int64} {o : Int} {q' : Nat} (hd : decode bytes pc = .ok (.ifCond .ne o, 3)) (ho : 0 ≤ (pc : Int) + o) (hp : ((pc : Int) + o).toNat = q) (hp' : pc + 3 = q') (G1 : ¬ (x = y) → oG p e below s Z R Ret T (mkF m q Ls st)) (G0 : x = y → oG p e below s Z R Ret T (mkF m q' Ls st)) : oG p e below s Z R Ret T (mkF m pc Ls (.int (XT.cmpL x y) :: st)) := by
  obtain ⟨_, _, _, _, _, ⟨vm0, k0, Y, hS, hk⟩, _⟩ := X
  by_cases hq : x = y
  · subst hp'; exact (G0 hq).step fun t k => XS.ifNo Y.here E.1 rfl (hb E.2.2.2.1 hd) rfl (XT.ll_ne_f hq) k
  · exact (G1 hq).step fun t k => XS.ifYes Y.here E.1 rfl (pc0 := pc) rfl (hb E.2.2.2.1 hd) rfl (XT.ll_ne_t hq) ho hp k
theorem gIc_lt (E : oE p l e R s m args below meth c Z bytes own nm maxL ret) (X : oX p l e R s m args below meth c Z T V cells slots) {x y : Int32} {o : Int} {q' : Nat} (hd : decode bytes pc = .ok (.if_icmp .lt o, 3)) (ho : 0 ≤ (pc : Int) + o) (hp : ((pc : Int) + o).toNat = q) (hp' : pc + 3 = q') (G1 : x < y → oG p e below s Z R Ret T (mkF m q Ls st)) (G0 : ¬ (x < y) → oG p e below s Z R Ret T (mkF m q' Ls st)) : oG p e below s Z R Ret T (mkF m pc Ls (.int y :: .int x :: st)) := by
  obtain ⟨_, _, _, _, _, ⟨vm0, k0, Y, hS, hk⟩, _⟩ := X
  by_cases hq : x < y
  · exact (G1 hq).step fun t k => XS.icmpYes Y.here E.1 rfl (pc0 := pc) rfl (hb E.2.2.2.1 hd) rfl (XT.ii_lt_t hq) ho hp k
  · subst hp'; exact (G0 hq).step fun t k => XS.icmpNo Y.here E.1 rfl (hb E.2.2.2.1 hd) rfl (XT.ii_lt_f hq) k
theorem gIf_lt (E : oE p l e R s m args below meth c Z bytes own nm maxL ret) (X : oX p l e R s m args below meth c Z T V cells slots) {x : Int32} {o : Int} {q' : Nat} (hd : decode bytes pc = .ok (.ifCond .lt o, 3)) (ho : 0 ≤ (pc : Int) + o) (hp : ((pc : Int) + o).toNat = q) (hp' : pc + 3 = q') (G1 : x < 0 → oG p e below s Z R Ret T (mkF m q Ls st)) (G0 : ¬ (x < 0) → oG p e below s Z R Ret T (mkF m q' Ls st)) : oG p e below s Z R Ret T (mkF m pc Ls (.int x :: st)) := by
  obtain ⟨_, _, _, _, _, ⟨vm0, k0, Y, hS, hk⟩, _⟩ := X
  by_cases hq : x < 0
  · exact (G1 hq).step fun t k => XS.ifYes Y.here E.1 rfl (pc0 := pc) rfl (hb E.2.2.2.1 hd) rfl (XT.i0_lt_t hq) ho hp k
  · subst hp'; exact (G0 hq).step fun t k => XS.ifNo Y.here E.1 rfl (hb E.2.2.2.1 hd) rfl (XT.i0_lt_f hq) k
theorem gLc_lt (E : oE p l e R s m args below meth c Z bytes own nm maxL ret) (X : oX p l e R s m args below meth c Z T V cells slots) {x y : Int64} {o : Int} {q' : Nat} (hd : decode bytes pc = .ok (.ifCond .lt o, 3)) (ho : 0 ≤ (pc : Int) + o) (hp : ((pc : Int) + o).toNat = q) (hp' : pc + 3 = q') (G1 : x < y → oG p e below s Z R Ret T (mkF m q Ls st)) (G0 : ¬ (x < y) → oG p e below s Z R Ret T (mkF m q' Ls st)) : oG p e below s Z R Ret T (mkF m pc Ls (.int (XT.cmpL x y) :: st)) := by
  obtain ⟨_, _, _, _, _, ⟨vm0, k0, Y, hS, hk⟩, _⟩ := X
  by_cases hq : x < y
  · exact (G1 hq).step fun t k => XS.ifYes Y.here E.1 rfl (pc0 := pc) rfl (hb E.2.2.2.1 hd) rfl (XT.ll_lt_t hq) ho hp k
  · subst hp'; exact (G0 hq).step fun t k => XS.ifNo Y.here E.1 rfl (hb E.2.2.2.1 hd) rfl (XT.ll_lt_f hq) k
theorem gIc_ge (E : oE p l e R s m args below meth c Z bytes own nm maxL ret) (X : oX p l e R s m args below meth c Z T V cells slots) {x y : Int32} {o : Int} {q' : Nat} (hd : decode bytes pc = .ok (.if_icmp .ge o, 3)) (ho : 0 ≤ (pc : Int) + o) (hp : ((pc : Int) + o).toNat = q) (hp' : pc + 3 = q') (G1 : ¬ (x < y) → oG p e below s Z R Ret T (mkF m q Ls st)) (G0 : x < y → oG p e below s Z R Ret T (mkF m q' Ls st)) : oG p e below s Z R Ret T (mkF m pc Ls (.int y :: .int x :: st)) := by
  obtain ⟨_, _, _, _, _, ⟨vm0, k0, Y, hS, hk⟩, _⟩ := X
  by_cases hq : x < y
  · subst hp'; exact (G0 hq).step fun t k => XS.icmpNo Y.here E.1 rfl (hb E.2.2.2.1 hd) rfl (XT.ii_ge_f hq) k
  · exact (G1 hq).step fun t k => XS.icmpYes Y.here E.1 rfl (pc0 := pc) rfl (hb E.2.2.2.1 hd) rfl (XT.ii_ge_t hq) ho hp k
theorem gIf_ge (E : oE p l e R s m args below meth c Z bytes own nm maxL ret) (X : oX p l e R s m args below meth c Z T V cells slots) {x : Int32} {o : Int} {q' : Nat} (hd : decode bytes pc = .ok (.ifCond .ge o, 3)) (ho : 0 ≤ (pc : Int) + o) (hp : ((pc : Int) + o).toNat = q) (hp' : pc + 3 = q') (G1 : ¬ (x < 0) → oG p e below s Z R Ret T (mkF m q Ls st)) (G0 : x < 0 → oG p e below s Z R Ret T (mkF m q' Ls st)) : oG p e below s Z R Ret T (mkF m pc Ls (.int x :: st)) := by
  obtain ⟨_, _, _, _, _, ⟨vm0, k0, Y, hS, hk⟩, _⟩ := X
  by_cases hq : x < 0
  · subst hp'; exact (G0 hq).step fun t k => XS.ifNo Y.here E.1 rfl (hb E.2.2.2.1 hd) rfl (XT.i0_ge_f hq) k
  · exact (G1 hq).step fun t k => XS.ifYes Y.here E.1 rfl (pc0 := pc) rfl (hb E.2.2.2.1 hd) rfl (XT.i0_ge_t hq) ho hp k
theorem gLc_ge (E : oE p l e R s m args below meth c Z bytes own nm maxL ret) (X : oX p l e R s m args below meth c Z T V cells slots) {x y : Int64} {o : Int} {q' : Nat} (hd : decode bytes pc = .ok (.ifCond .ge o, 3)) (ho : 0 ≤ (pc : Int) + o) (hp : ((pc : Int) + o).toNat = q) (hp' : pc + 3 = q') (G1 : ¬ (x < y) → oG p e below s Z R Ret T (mkF m q Ls st)) (G0 : x < y → oG p e below s Z R Ret T (mkF m q' Ls st)) : oG p e below s Z R Ret T (mkF m pc Ls (.int (XT.cmpL x y) :: st)) := by
  obtain ⟨_, _, _, _, _, ⟨vm0, k0, Y, hS, hk⟩, _⟩ := X
  by_cases hq : x < y
  · subst hp'; exact (G0 hq).step fun t k => XS.ifNo Y.here E.1 rfl (hb E.2.2.2.1 hd) rfl (XT.ll_ge_f hq) k
  · exact (G1 hq).step fun t k => XS.ifYes Y.here E.1 rfl (pc0 := pc) rfl (hb E.2.2.2.1 hd) rfl (XT.ll_ge_t hq) ho hp k
theorem gIc_gt (E : oE p l e R s m args below meth c Z bytes own nm maxL ret) (X : oX p l e R s m args below meth c Z T V cells slots) {x y : Int32} {o : Int} {q' : Nat} (hd : decode bytes pc = .ok (.if_icmp .gt o, 3)) (ho : 0 ≤ (pc : Int) + o) (hp : ((pc : Int) + o).toNat = q) (hp' : pc + 3 = q') (G1 : y < x → oG p e below s Z R Ret T (mkF m q Ls st)) (G0 : ¬ (y < x) → oG p e below s Z R Ret T (mkF m q' Ls st)) : oG p e below s Z R Ret T (mkF m pc Ls (.int y :: .int x :: st)) := by
  obtain ⟨_, _, _, _, _, ⟨vm0, k0, Y, hS, hk⟩, _⟩ := X
  by_cases hq : y < x
  · exact (G1 hq).step fun t k => XS.icmpYes Y.here E.1 rfl (pc0 := pc) rfl (hb E.2.2.2.1 hd) rfl (XT.ii_gt_t hq) ho hp k
  · subst hp'; exact (G0 hq).step fun t k => XS.icmpNo Y.here E.1 rfl (hb E.2.2.2.1 hd) rfl (XT.ii_gt_f hq) k
theorem gIf_gt (E : oE p l e R s m args below meth c Z bytes own nm maxL ret) (X : oX p l e R s m args below meth c Z T V cells slots) {x : Int32} {o : Int} {q' : Nat} (hd : decode bytes pc = .ok (.ifCond .gt o, 3)) (ho : 0 ≤ (pc : Int) + o) (hp : ((pc : Int) + o).toNat = q) (hp' : pc + 3 = q') (G1 : 0 < x → oG p e below s Z R Ret T (mkF m q Ls st)) (G0 : ¬ (0 < x) → oG p e below s Z R Ret T (mkF m q' Ls st)) : oG p e below s Z R Ret T (mkF m pc Ls (.int x :: st)) := by
  obtain ⟨_, _, _, _, _, ⟨vm0, k0, Y, hS, hk⟩, _⟩ := X
  by_cases hq : 0 < x
  · exact (G1 hq).step fun t k => XS.ifYes Y.here E.1 rfl (pc0 := pc) rfl (hb E.2.2.2.1 hd) rfl (XT.i0_gt_t hq) ho hp k
  · subst hp'; exact (G0 hq).step fun t k => XS.ifNo Y.here E.1 rfl (hb E.2.2.2.1 hd) rfl (XT.i0_gt_f hq) k
theorem gLc_gt (E : oE p l e R s m args below meth c Z bytes own nm maxL ret) (X : oX p l e R s m args below meth c Z T V cells slots) {x y : Int64} {o : Int} {q' : Nat} (hd : decode bytes pc = .ok (.ifCond .gt o, 3)) (ho : 0 ≤ (pc : Int) + o) (hp : ((pc : Int) + o).toNat = q) (hp' : pc + 3 = q') (G1 : y < x → oG p e below s Z R Ret T (mkF m q Ls st)) (G0 : ¬ (y < x) → oG p e below s Z R Ret T (mkF m q' Ls st)) : oG p e below s Z R Ret T (mkF m pc Ls (.int (XT.cmpL x y) :: st)) := by
  obtain ⟨_, _, _, _, _, ⟨vm0, k0, Y, hS, hk⟩, _⟩ := X
  by_cases hq : y < x
  · exact (G1 hq).step fun t k => XS.ifYes Y.here E.1 rfl (pc0 := pc) rfl (hb E.2.2.2.1 hd) rfl (XT.ll_gt_t hq) ho hp k
  · subst hp'; exact (G0 hq).step fun t k => XS.ifNo Y.here E.1 rfl (hb E.2.2.2.1 hd) rfl (XT.ll_gt_f hq) k
theorem gIc_le (E : oE p l e R s m args below meth c Z bytes own nm maxL ret) (X : oX p l e R s m args below meth c Z T V cells slots) {x y : Int32} {o : Int} {q' : Nat} (hd : decode bytes pc = .ok (.if_icmp .le o, 3)) (ho : 0 ≤ (pc : Int) + o) (hp : ((pc : Int) + o).toNat = q) (hp' : pc + 3 = q') (G1 : ¬ (y < x) → oG p e below s Z R Ret T (mkF m q Ls st)) (G0 : y < x → oG p e below s Z R Ret T (mkF m q' Ls st)) : oG p e below s Z R Ret T (mkF m pc Ls (.int y :: .int x :: st)) := by
  obtain ⟨_, _, _, _, _, ⟨vm0, k0, Y, hS, hk⟩, _⟩ := X
  by_cases hq : y < x
  · subst hp'; exact (G0 hq).step fun t k => XS.icmpNo Y.here E.1 rfl (hb E.2.2.2.1 hd) rfl (XT.ii_le_f hq) k
  · exact (G1 hq).step fun t k => XS.icmpYes Y.here E.1 rfl (pc0 := pc) rfl (hb E.2.2.2.1 hd) rfl (XT.ii_le_t hq) ho hp k
theorem gIf_le (E : oE p l e R s m args below meth c Z bytes own nm maxL ret) (X : oX p l e R s m args below meth c Z T V cells slots) {x : Int32} {o : Int} {q' : Nat} (hd : decode bytes pc = .ok (.ifCond .le o, 3)) (ho : 0 ≤ (pc : Int) + o) (hp : ((pc : Int) + o).toNat = q) (hp' : pc + 3 = q') (G1 : ¬ (0 < x) → oG p e below s Z R Ret T (mkF m q Ls st)) (G0 : 0 < x → oG p e below s Z R Ret T (mkF m q' Ls st)) : oG p e below s Z R Ret T (mkF m pc Ls (.int x :: st)) := by
  obtain ⟨_, _, _, _, _, ⟨vm0, k0, Y, hS, hk⟩, _⟩ := X
  by_cases hq : 0 < x
  · subst hp'; exact (G0 hq).step fun t k => XS.ifNo Y.here E.1 rfl (hb E.2.2.2.1 hd) rfl (XT.i0_le_f hq) k
  · exact (G1 hq).step fun t k => XS.ifYes Y.here E.1 rfl (pc0 := pc) rfl (hb E.2.2.2.1 hd) rfl (XT.i0_le_t hq) ho hp k
theorem gLc_le (E : oE p l e R s m args below meth c Z bytes own nm maxL ret) (X : oX p l e R s m args below meth c Z T V cells slots) {x y : Int64} {o : Int} {q' : Nat} (hd : decode bytes pc = .ok (.ifCond .le o, 3)) (ho : 0 ≤ (pc : Int) + o) (hp : ((pc : Int) + o).toNat = q) (hp' : pc + 3 = q') (G1 : ¬ (y < x) → oG p e below s Z R Ret T (mkF m q Ls st)) (G0 : y < x → oG p e below s Z R Ret T (mkF m q' Ls st)) : oG p e below s Z R Ret T (mkF m pc Ls (.int (XT.cmpL x y) :: st)) := by
  obtain ⟨_, _, _, _, _, ⟨vm0, k0, Y, hS, hk⟩, _⟩ := X
  by_cases hq : y < x
  · subst hp'; exact (G0 hq).step fun t k => XS.ifNo Y.here E.1 rfl (hb E.2.2.2.1 hd) rfl (XT.ll_le_f hq) k
  · exact (G1 hq).step fun t k => XS.ifYes Y.here E.1 rfl (pc0 := pc) rfl (hb E.2.2.2.1 hd) rfl (XT.ll_le_t hq) ho hp k
theorem gAc_eq (E : oE p l e R s m args below meth c Z bytes own nm maxL ret) (X : oX p l e R s m args below meth c Z T V cells slots) {v w : Value} (hv : v.isRef = true) (hw' : w.isRef = true) {o : Int} {q' : Nat} (hd : decode bytes pc = .ok (.if_acmp .eq o, 3)) (ho : 0 ≤ (pc : Int) + o) (hp : ((pc : Int) + o).toNat = q) (hp' : pc + 3 = q') (G1 : v = w → oG p e below s Z R Ret T (mkF m q Ls st)) (G0 : ¬ (v = w) → oG p e below s Z R Ret T (mkF m q' Ls st)) : oG p e below s Z R Ret T (mkF m pc Ls (w :: v :: st)) := by
  obtain ⟨_, _, _, _, _, ⟨vm0, k0, Y, hS, hk⟩, _⟩ := X
  by_cases hq : v = w
  · exact (G1 hq).step fun t k => XT.acmpYes Y.here E.1 rfl (pc0 := pc) rfl (hb E.2.2.2.1 hd) rfl hv hw' (XT.aa_eq_t hq) ho hp k
  · subst hp'; exact (G0 hq).step fun t k => XT.acmpNo Y.here E.1 rfl (hb E.2.2.2.1 hd) rfl hv hw' (XT.aa_eq_f hq) k
theorem gAc_ne (E : oE p l e R s m args below meth c Z bytes own nm maxL ret) (X : oX p l e R s m args below meth c Z T V cells slots) {v w : Value} (hv : v.isRef = true) (hw' : w.isRef = true) {o : Int} {q' : Nat} (hd : decode bytes pc = .ok (.if_acmp .ne o, 3)) (ho : 0 ≤ (pc : Int) + o) (hp : ((pc : Int) + o).toNat = q) (hp' : pc + 3 = q') (G1 : ¬ (v = w) → oG p e below s Z R Ret T (mkF m q Ls st)) (G0 : v = w → oG p e below s Z R Ret T (mkF m q' Ls st)) : oG p e below s Z R Ret T (mkF m pc Ls (w :: v :: st)) := by
  obtain ⟨_, _, _, _, _, ⟨vm0, k0, Y, hS, hk⟩, _⟩ := X
  by_cases hq : v = w
  · subst hp'; exact (G0 hq).step fun t k => XT.acmpNo Y.here E.1 rfl (hb E.2.2.2.1 hd) rfl hv hw' (XT.aa_ne_f hq) k
  · exact (G1 hq).step fun t k => XT.acmpYes Y.here E.1 rfl (pc0 := pc) rfl (hb E.2.2.2.1 hd) rfl hv hw' (XT.aa_ne_t hq) ho hp k
theorem gNull_y (E : oE p l e R s m args below meth c Z bytes own nm maxL ret) (X : oX p l e R s m args below meth c Z T V cells slots) {v : Value} (hv : v.isRef = true) {o : Int} {q' : Nat} (hd : decode bytes pc = .ok (.ifnull o, 3)) (ho : 0 ≤ (pc : Int) + o) (hp : ((pc : Int) + o).toNat = q) (hp' : pc + 3 = q') (G1 : v = .null → oG p e below s Z R Ret T (mkF m q Ls st)) (G0 : ¬ (v = .null) → oG p e below s Z R Ret T (mkF m q' Ls st)) : oG p e below s Z R Ret T (mkF m pc Ls (v :: st)) := by
  obtain ⟨_, _, _, _, _, ⟨vm0, k0, Y, hS, hk⟩, _⟩ := X
  by_cases hq : v = .null
  · exact (G1 hq).step fun t k => XT.nullYes Y.here E.1 rfl (pc0 := pc) rfl (hb E.2.2.2.1 hd) rfl hq ho hp k
  · subst hp'; exact (G0 hq).step fun t k => XT.nullNo Y.here E.1 rfl (hb E.2.2.2.1 hd) rfl hv hq k
theorem gNull_n (E : oE p l e R s m args below meth c Z bytes own nm maxL ret) (X : oX p l e R s m args below meth c Z T V cells slots) {v : Value} (hv : v.isRef = true) {o : Int} {q' : Nat} (hd : decode bytes pc = .ok (.ifnonnull o, 3)) (ho : 0 ≤ (pc : Int) + o) (hp : ((pc : Int) + o).toNat = q) (hp' : pc + 3 = q') (G1 : ¬ (v = .null) → oG p e below s Z R Ret T (mkF m q Ls st)) (G0 : v = .null → oG p e below s Z R Ret T (mkF m q' Ls st)) : oG p e below s Z R Ret T (mkF m pc Ls (v :: st)) := by
  obtain ⟨_, _, _, _, _, ⟨vm0, k0, Y, hS, hk⟩, _⟩ := X
  by_cases hq : v = .null
  · subst hp'; exact (G0 hq).step fun t k => XT.nonnullNo Y.here E.1 rfl (hb E.2.2.2.1 hd) rfl hq k
  · exact (G1 hq).step fun t k => XT.nonnullYes Y.here E.1 rfl (pc0 := pc) rfl (hb E.2.2.2.1 hd) rfl hv hq ho hp k
theorem gLdcI (E : oE p l e R s m args below meth c Z bytes own nm maxL ret) (X : oX p l e R s m args below meth c Z T V cells slots) {i : Nat} {v : Int32} (hd : decode bytes pc = .ok (.ldc i, 2)) (w : (Jvm.Cond.constant own i v).before a0 Z = true) (hp : pc + 2 = q) (G : oG p e below s Z R Ret T (mkF m q Ls (.int v :: st))) : oG p e below s Z R Ret T (mkF m pc Ls st) := by
  subst hp; obtain ⟨_, _, _, _, _, ⟨vm0, k0, Y, hS, hk⟩, _⟩ := X; exact G.step fun t k => Y.ldcI E.1 (oOw E hS) (mvT (oWm E hS) w) rfl (hb E.2.2.2.1 hd) k
theorem gLdcWI (E : oE p l e R s m args below meth c Z bytes own nm maxL ret) (X : oX p l e R s m args below meth c Z T V cells slots) {i : Nat} {v : Int32} (hd : decode bytes pc = .ok (.ldc_w i, 3)) (w : (Jvm.Cond.constant own i v).before a0 Z = true) (hp : pc + 3 = q) (G : oG p e below s Z R Ret T (mkF m q Ls (.int v :: st))) : oG p e below s Z R Ret T (mkF m pc Ls st) := by
  subst hp; obtain ⟨_, _, _, _, _, ⟨vm0, k0, Y, hS, hk⟩, _⟩ := X; exact G.step fun t k => Y.ldcWI E.1 (oOw E hS) (mvT (oWm E hS) w) rfl (hb E.2.2.2.1 hd) k
theorem gLdc2J (E : oE p l e R s m args below meth c Z bytes own nm maxL ret) (X : oX p l e R s m args below meth c Z T V cells slots) {i : Nat} {v : Int64} (hd : decode bytes pc = .ok (.ldc2_w i, 3)) (w : (Jvm.Cond.constantLong own i v).before a0 Z = true) (hp : pc + 3 = q) (G : oG p e below s Z R Ret T (mkF m q Ls (.long v :: st))) : oG p e below s Z R Ret T (mkF m pc Ls st) := by
  subst hp; obtain ⟨_, _, _, _, _, ⟨vm0, k0, Y, hS, hk⟩, _⟩ := X; exact G.step fun t k => Y.ldc2J E.1 (oOw E hS) (mvT (oWm E hS) w) rfl (hb E.2.2.2.1 hd) k
/-! 5. objects -/
theorem gGetF (E : oE p l e R s m args below meth c Z bytes own nm maxL ret) (X : oX p l e R s m args below meth c Z T V cells slots) {R0 O n d C : String} {index i j : Nat} {a : Addr} {fs : List (String × String × String × Value)} {v : Value} (hd : decode bytes pc = .ok (.getfield index, 3))
    (w : (Jvm.Cond.fieldLink own index R0 n d).before a0 Z = true) (via : Via Z R0 O n d) (hi : V[i]? = some (a, .inl (C, fs))) (hj : fs[j]? = some (O, n, d, v)) (hp : pc + 3 = q)
    (G : ∀ T', oX p l e R s m args below meth c Z T' V cells slots → oG p e below s Z R Ret T' (mkF m q Ls (v :: st))) : oG p e below s Z R Ret T (mkF m pc Ls (.ref a :: st)) := by
  subst hp; obtain ⟨locs, c', s', q1, q2, ⟨vm0, k0, Y, hS, hk⟩, N, H⟩ := X
  obtain ⟨T', Y', e', k⟩ := getF Y E.1 (oWm E hS) (oOw E hS) (host := "") (Or.inl w) via rfl ((H.sat hi).2.2 _ (List.mem_of_getElem? hj)) (g := mkF m pc Ls (.ref a :: st)) rfl rfl (hb E.2.2.2.1 hd)
  exact (G T' ⟨locs, c', s', q1, q2, ⟨vm0, k0, Y', hS, by rw [e']; exact hk⟩, N, e' ▸ H⟩).step k
theorem gGetFN (E : oE p l e R s m args below meth c Z bytes own nm maxL ret) (X : oX p l e R s m args below meth c Z T V cells slots) {R0 O n d C host : String} {index i j : Nat} {a : Addr} {fs : List (String × String × String × Value)} {v : Value} (hd : decode bytes pc = .ok (.getfield index, 3))
    (w : (Jvm.Cond.fieldLinkNest own index R0 n d host).before a0 Z = true) (via : Via Z R0 O n d) (hi : V[i]? = some (a, .inl (C, fs))) (hj : fs[j]? = some (O, n, d, v)) (hp : pc + 3 = q)
    (G : ∀ T', oX p l e R s m args below meth c Z T' V cells slots → oG p e below s Z R Ret T' (mkF m q Ls (v :: st))) : oG p e below s Z R Ret T (mkF m pc Ls (.ref a :: st)) := by
  subst hp; obtain ⟨locs, c', s', q1, q2, ⟨vm0, k0, Y, hS, hk⟩, N, H⟩ := X
  obtain ⟨T', Y', e', k⟩ := getF Y E.1 (oWm E hS) (oOw E hS) (host := host) (Or.inr w) via rfl ((H.sat hi).2.2 _ (List.mem_of_getElem? hj)) (g := mkF m pc Ls (.ref a :: st)) rfl rfl (hb E.2.2.2.1 hd)
  exact (G T' ⟨locs, c', s', q1, q2, ⟨vm0, k0, Y', hS, by rw [e']; exact hk⟩, N, e' ▸ H⟩).step k
/-- a field of an object that stood at the start -/
theorem gGetF0 (E : oE p l e R s m args below meth c Z bytes own nm maxL ret) (X : oX p l e R s m args below meth c Z T V cells slots) {R0 O n d : String} {index : Nat} {a : Addr} {v : Value} (hd : decode bytes pc = .ok (.getfield index, 3))
    (w : (Jvm.Cond.fieldLink own index R0 n d).before a0 Z = true) (via : Via Z R0 O n d) (F : Fld Z Z.heap a O n d v) (hp : pc + 3 = q)
    (G : ∀ T', oX p l e R s m args below meth c Z T' V cells slots → oG p e below s Z R Ret T' (mkF m q Ls (v :: st))) : oG p e below s Z R Ret T (mkF m pc Ls (.ref a :: st)) := by
  subst hp; obtain ⟨locs, c', s', q1, q2, ⟨vm0, k0, Y, hS, hk⟩, N, H⟩ := X
  obtain ⟨T', Y', e', k⟩ := getF Y E.1 (oWm E hS) (oOw E hS) (host := "") (Or.inl w) via rfl (F.ext H.1) (g := mkF m pc Ls (.ref a :: st)) rfl rfl (hb E.2.2.2.1 hd)
  exact (G T' ⟨locs, c', s', q1, q2, ⟨vm0, k0, Y', hS, by rw [e']; exact hk⟩, N, e' ▸ H⟩).step k
theorem gGetS (E : oE p l e R s m args below meth c Z bytes own nm maxL ret) (X : oX p l e R s m args below meth c Z T V cells slots) {R0 O n d : String} {index : Nat} {v : Value} (hd : decode bytes pc = .ok (.getstatic index, 3))
    (w : (Jvm.Cond.fieldLink own index R0 n d).before a0 Z = true) (via : Via Z R0 O n d) (F : Sta Z Z.heap O n d v) (hp : pc + 3 = q)
    (G : ∀ T', oX p l e R s m args below meth c Z T' V cells slots → oG p e below s Z R Ret T' (mkF m q Ls (v :: st))) : oG p e below s Z R Ret T (mkF m pc Ls st) := by
  subst hp; obtain ⟨locs, c', s', q1, q2, ⟨vm0, k0, Y, hS, hk⟩, N, H⟩ := X
  obtain ⟨T', Y', e', k⟩ := getS Y E.1 (oWm E hS) (oOw E hS) (host := "") w via rfl (F.ext H.1) (g := mkF m pc Ls st) rfl (hb E.2.2.2.1 hd)
  exact (G T' ⟨locs, c', s', q1, q2, ⟨vm0, k0, Y', hS, by rw [e']; exact hk⟩, N, e' ▸ H⟩).step k
theorem gPutF (E : oE p l e R s m args below meth c Z bytes own nm maxL ret) (X : oX p l e R s m args below meth c Z T V cells slots) {R0 O n d C : String} {index i j kk : Nat} {a : Addr} {fs : List (String × String × String × Value)} {v old : Value} {ty : FieldType} (hd : decode bytes pc = .ok (.putfield index, 3))
    (w : (Jvm.Cond.fieldLink own index R0 n d).before a0 Z = true) (via : Via Z R0 O n d) (hi : V[i]? = some (a, .inl (C, fs))) (hj : fs[j]? = some (O, n, d, old)) (L : (Jvm.Cond.lays C O n d).before a0 Z = true ∨ ((Jvm.Cond.laysFinal C O n d).before a0 Z = true ∧ own = O ∧ nm = "<init>")) (wi : (Jvm.Cond.instantiable C kk).before a0 Z = true)
    (hty : parseFieldDescriptor d = some ty) (hn : narrow ty v = v) (hf : fits ty v = true) (hV : V.set i (a, .inl (C, fs.set j (O, n, d, v))) = V') (hp : pc + 3 = q)
    (G : ∀ T', oX p l e R s m args below meth c Z T' V' cells slots → oG p e below s Z R Ret T' (mkF m q Ls st)) : oG p e below s Z R Ret T (mkF m pc Ls (v :: .ref a :: st)) := by
  subst hp hV; obtain ⟨locs, c', s', q1, q2, ⟨vm0, k0, Y, hS, hk⟩, N, H⟩ := X
  have S := H.sat hi
  obtain ⟨T', h', Y', e', W, k⟩ := putF Y E.1 (oWm E hS) (oOw E hS) (host := "") (Or.inl w) via rfl (S.2.2 _ (List.mem_of_getElem? hj)) S.1 (L.imp id fun z => ⟨z.1, z.2.1, E.2.2.2.2.2.2.1.trans z.2.2⟩) wi hty hn hf (g := mkF m pc Ls (v :: .ref a :: st)) rfl rfl (hb E.2.2.2.1 hd)
  subst e'
  exact (G T' ⟨_, c', s', q1, q2, ⟨vm0, k0, Y', hS, by rw [W.size]; exact hk⟩, Fr.snoc Y' N (H.ge hi), H.wr W hi (S.wrF hj W)⟩).step k
theorem gPutFN (E : oE p l e R s m args below meth c Z bytes own nm maxL ret) (X : oX p l e R s m args below meth c Z T V cells slots) {R0 O n d C host : String} {index i j kk : Nat} {a : Addr} {fs : List (String × String × String × Value)} {v old : Value} {ty : FieldType} (hd : decode bytes pc = .ok (.putfield index, 3))
    (w : (Jvm.Cond.fieldLinkNest own index R0 n d host).before a0 Z = true) (via : Via Z R0 O n d) (hi : V[i]? = some (a, .inl (C, fs))) (hj : fs[j]? = some (O, n, d, old)) (L : (Jvm.Cond.lays C O n d).before a0 Z = true ∨ ((Jvm.Cond.laysFinal C O n d).before a0 Z = true ∧ own = O ∧ nm = "<init>")) (wi : (Jvm.Cond.instantiable C kk).before a0 Z = true)
    (hty : parseFieldDescriptor d = some ty) (hn : narrow ty v = v) (hf : fits ty v = true) (hV : V.set i (a, .inl (C, fs.set j (O, n, d, v))) = V') (hp : pc + 3 = q)
    (G : ∀ T', oX p l e R s m args below meth c Z T' V' cells slots → oG p e below s Z R Ret T' (mkF m q Ls st)) : oG p e below s Z R Ret T (mkF m pc Ls (v :: .ref a :: st)) := by
  subst hp hV; obtain ⟨locs, c', s', q1, q2, ⟨vm0, k0, Y, hS, hk⟩, N, H⟩ := X
  have S := H.sat hi
  obtain ⟨T', h', Y', e', W, k⟩ := putF Y E.1 (oWm E hS) (oOw E hS) (host := host) (Or.inr w) via rfl (S.2.2 _ (List.mem_of_getElem? hj)) S.1 (L.imp id fun z => ⟨z.1, z.2.1, E.2.2.2.2.2.2.1.trans z.2.2⟩) wi hty hn hf (g := mkF m pc Ls (v :: .ref a :: st)) rfl rfl (hb E.2.2.2.1 hd)
  subst e'
  exact (G T' ⟨_, c', s', q1, q2, ⟨vm0, k0, Y', hS, by rw [W.size]; exact hk⟩, Fr.snoc Y' N (H.ge hi), H.wr W hi (S.wrF hj W)⟩).step k
theorem gNew (E : oE p l e R s m args below meth c Z bytes own nm maxL ret) (X : oX p l e R s m args below meth c Z T V cells slots) {C : String} {index n : Nat} {fs : List (String × String × String × Value)} (hd : decode bytes pc = .ok (.new index, 3))
    (w : (Jvm.Cond.classLink own index C).before a0 Z = true) (wi : (Jvm.Cond.instantiable C n).before a0 Z = true) (wz : (Jvm.Cond.initialized C).before a0 Z = true) (hL : oLay Z a0 C fs) (hc : cells + 1 ≤ c2) (hs : slots + n ≤ s2) (hc2 : c2 ≤ R.cells) (hs2 : s2 ≤ R.slots) (hp : pc + 3 = q)
    (G : ∀ T' a, oX p l e R s m args below meth c Z T' (V ++ [(a, .inl (C, fs))]) c2 s2 → oG p e below s Z R Ret T' (mkF m q Ls (.ref a :: st))) : oG p e below s Z R Ret T (mkF m pc Ls st) := by
  subst hp; obtain ⟨locs, c', s', q1, q2, ⟨vm0, k0, Y, hS, hk⟩, N, H⟩ := X
  obtain ⟨T', h', Y', e', Ex, A, D, -, k⟩ := newO Y E.1 (oWm E hS) (oOw E hS) w wi wz rfl (g := mkF m pc Ls st) rfl (hb E.2.2.2.1 hd) (by omega) (by omega)
  subst e'
  refine (G T' T.heap.size ⟨_, _, _, by omega, by omega, ⟨vm0, k0, Y', hS, Nat.le_trans hk Ex.1⟩, N, H.new Ex ⟨A, hL.1, fun f hf => ?_⟩⟩).step k
  obtain ⟨L1, ty, t1, t2⟩ := hL.2 f hf
  rw [t2]; exact D L1 t1
theorem gInitO (E : oE p l e R s m args below meth c Z bytes own nm maxL ret) (X : oX p l e R s m args below meth c Z T V cells slots) {index : Nat} {a : Addr} {W : Nat} (hd : decode bytes pc = .ok (.invokespecial index, 3))
    (w1 : (Jvm.Cond.methodLink own index Lib.objectInit).before a0 Z = true) (w2 : (Jvm.Cond.instanceMethod Lib.objectInit).before a0 Z = true) (w3 : (Jvm.Cond.code Lib.objectInit ⟨#[0xb1]⟩ 1 none).before a0 Z = true) (hsz : Ls.size = maxL) (hf : 1 ≤ R.frames) (hW : (st.map fun v => v.category).sum ≤ W) (hl : W + 12 ≤ R.locals) (hp : pc + 3 = q)
    (G : ∀ T', oX p l e R s m args below meth c Z T' V cells slots → oG p e below s Z R Ret T' (mkF m q Ls st)) : oG p e below s Z R Ret T (mkF m pc Ls (.ref a :: st)) := by
  subst hp; obtain ⟨locs, c', s', q1, q2, ⟨vm0, k0, Y, hS, hk⟩, N, H⟩ := X
  obtain ⟨T', Y', e', k⟩ := initO Y E.1 (oWm E hS) (oOw E hS) w1 w2 w3 rfl (g := mkF m pc Ls (.ref a :: st)) rfl (by rw [E.2.2.2.2.1]; exact hsz) rfl (hb E.2.2.2.1 hd) hf (W := W) (by show 2 * 0 + _ ≤ _; omega) hl
  exact (G T' ⟨locs, c', s', q1, q2, ⟨vm0, k0, Y', hS, by rw [e']; exact hk⟩, N, e' ▸ H⟩).step k
theorem gInstY (E : oE p l e R s m args below meth c Z bytes own nm maxL ret) (X : oX p l e R s m args below meth c Z T V cells slots) {K C : String} {index i : Nat} {a : Addr} {fs : List (String × String × String × Value)} (hd : decode bytes pc = .ok (.instanceof index, 3))
    (w : (Jvm.Cond.classLink own index K).before a0 Z = true) (hi : V[i]? = some (a, .inl (C, fs))) (wc : (Jvm.Cond.castable C K).before a0 Z = true) (hp : pc + 3 = q)
    (G : ∀ T', oX p l e R s m args below meth c Z T' V cells slots → oG p e below s Z R Ret T' (mkF m q Ls (.int 1 :: st))) : oG p e below s Z R Ret T (mkF m pc Ls (.ref a :: st)) := by
  subst hp; obtain ⟨locs, c', s', q1, q2, ⟨vm0, k0, Y, hS, hk⟩, N, H⟩ := X
  obtain ⟨T', Y', e', k⟩ := instY Y E.1 (oWm E hS) (oOw E hS) w rfl (Ins.of_exa (H.sat hi).1 wc) (g := mkF m pc Ls (.ref a :: st)) rfl rfl (hb E.2.2.2.1 hd)
  exact (G T' ⟨locs, c', s', q1, q2, ⟨vm0, k0, Y', hS, by rw [e']; exact hk⟩, N, e' ▸ H⟩).step k
theorem gInstNo (E : oE p l e R s m args below meth c Z bytes own nm maxL ret) (X : oX p l e R s m args below meth c Z T V cells slots) {K C : String} {index : Nat} {a : Addr} (hd : decode bytes pc = .ok (.instanceof index, 3))
    (w : (Jvm.Cond.classLink own index K).before a0 Z = true) (hE : ∀ h, oHv Z h V → Exa Z h a C) (F : ∃ c t, Z.vm.findClass C = some c ∧ Z.vm.findClass K = some t ∧ Z.vm.assignable c t = false) (hp : pc + 3 = q)
    (G : ∀ T', oX p l e R s m args below meth c Z T' V cells slots → oG p e below s Z R Ret T' (mkF m q Ls (.int 0 :: st))) : oG p e below s Z R Ret T (mkF m pc Ls (.ref a :: st)) := by
  subst hp; obtain ⟨locs, c', s', q1, q2, ⟨vm0, k0, Y, hS, hk⟩, N, H⟩ := X
  obtain ⟨T', Y', e', k⟩ := instNo Y E.1 (oWm E hS) (oOw E hS) w rfl (hE _ H) F (g := mkF m pc Ls (.ref a :: st)) rfl rfl (hb E.2.2.2.1 hd)
  exact (G T' ⟨locs, c', s', q1, q2, ⟨vm0, k0, Y', hS, by rw [e']; exact hk⟩, N, e' ▸ H⟩).step k
theorem gInstNull (E : oE p l e R s m args below meth c Z bytes own nm maxL ret) (X : oX p l e R s m args below meth c Z T V cells slots) {index : Nat} (hd : decode bytes pc = .ok (.instanceof index, 3)) (hp : pc + 3 = q) (G : oG p e below s Z R Ret T (mkF m q Ls (.int 0 :: st))) : oG p e below s Z R Ret T (mkF m pc Ls (.null :: st)) := by
  subst hp; obtain ⟨_, _, _, _, _, ⟨vm0, k0, Y, hS, hk⟩, _⟩ := X; exact G.step fun t k => Y.instanceofNull E.1 (g := mkF m pc Ls (.null :: st)) rfl rfl (hb E.2.2.2.1 hd) t k
theorem gCastY (E : oE p l e R s m args below meth c Z bytes own nm maxL ret) (X : oX p l e R s m args below meth c Z T V cells slots) {K C : String} {index i : Nat} {a : Addr} {fs : List (String × String × String × Value)} (hd : decode bytes pc = .ok (.checkcast index, 3))
    (w : (Jvm.Cond.classLink own index K).before a0 Z = true) (hi : V[i]? = some (a, .inl (C, fs))) (wc : (Jvm.Cond.castable C K).before a0 Z = true) (hp : pc + 3 = q)
    (G : ∀ T', oX p l e R s m args below meth c Z T' V cells slots → oG p e below s Z R Ret T' (mkF m q Ls (.ref a :: st))) : oG p e below s Z R Ret T (mkF m pc Ls (.ref a :: st)) := by
  subst hp; obtain ⟨locs, c', s', q1, q2, ⟨vm0, k0, Y, hS, hk⟩, N, H⟩ := X
  obtain ⟨T', Y', e', k⟩ := castY Y E.1 (oWm E hS) (oOw E hS) w rfl (Ins.of_exa (H.sat hi).1 wc) (g := mkF m pc Ls (.ref a :: st)) rfl rfl (hb E.2.2.2.1 hd)
  exact (G T' ⟨locs, c', s', q1, q2, ⟨vm0, k0, Y', hS, by rw [e']; exact hk⟩, N, e' ▸ H⟩).step k
/-! 6. arrays -/
theorem oNat {j : Int32} (hj : ¬ j < 0) {n : Nat} (hn : n < 2 ^ 31) (h : n.toInt32 = j) : j.toNatClampNeg = n := by
  subst h; simp only [Int32.toNatClampNeg, len_toInt hn]; omega
theorem oIn {c : Cell} {vs : List Value} {j : Int32} {v : Value} (h : c.slots.toList = vs) (hj : ¬ j < 0) (hv : vs[j.toNatClampNeg]? = some v) : ¬ (j < 0 ∨ c.slots.size ≤ j.toNatClampNeg) ∧ c.slots[j.toNatClampNeg]? = some v := by
  subst h
  rw [Array.getElem?_toList] at hv
  exact ⟨fun z => z.elim hj fun y => (by rw [Array.getElem?_eq_none y] at hv; cases hv), hv⟩
theorem gNewA (E : oE p l e R s m args below meth c Z bytes own nm maxL ret) (X : oX p l e R s m args below meth c Z T V cells slots) {aty : ArrayType} {n : Int32} {cap : Nat} {vs : List Value} {ty : FieldType} (hty : newarray.typeOf aty = ty) (hd : decode bytes pc = .ok (.newarray aty, 2))
    (w : (Jvm.Cond.arrayClass (newarray.typeOf aty)).before a0 Z = true) (hn : ¬ n < 0) (hcap : n.toNatClampNeg ≤ cap) (hb8 : cap * 8 ≤ 536870912) (hvs : List.replicate n.toNatClampNeg (defaultValue ty) = vs) (hc : cells + 1 ≤ c2) (hs : slots + cap ≤ s2) (hc2 : c2 ≤ R.cells) (hs2 : s2 ≤ R.slots) (hp : pc + 2 = q)
    (G : ∀ T' a, oX p l e R s m args below meth c Z T' (V ++ [(a, .inr (ty, vs))]) c2 s2 → oG p e below s Z R Ret T' (mkF m q Ls (.ref a :: st))) : oG p e below s Z R Ret T (mkF m pc Ls (.int n :: st)) := by
  subst hp hvs hty; obtain ⟨locs, c', s', q1, q2, ⟨vm0, k0, Y, hS, hk⟩, N, H⟩ := X
  obtain ⟨T', h', cA, Y', e', Ex, A, k⟩ := newP Y E.1 (oWm E hS) w rfl (g := mkF m pc Ls (.int n :: st)) rfl (hb E.2.2.2.1 hd) rfl hn hcap hb8 (by omega) (by omega)
  subst e'
  refine (G T' T.heap.size ⟨_, _, _, by omega, by omega, ⟨vm0, k0, Y', hS, Nat.le_trans hk Ex.1⟩, N, H.new Ex ⟨_, A, by simp [newA], ?_⟩⟩).step k
  rw [List.length_replicate]; exact (back32 hn).2
theorem gLen (E : oE p l e R s m args below meth c Z bytes own nm maxL ret) (X : oX p l e R s m args below meth c Z T V cells slots) {i : Nat} {a : Addr} {ty : FieldType} {vs : List Value} {z : Int32} (hd : decode bytes pc = .ok (.arraylength, 1))
    (hi : V[i]? = some (a, .inr (ty, vs))) (hz : vs.length.toInt32 = z) (hp : pc + 1 = q) (G : oG p e below s Z R Ret T (mkF m q Ls (.int z :: st))) : oG p e below s Z R Ret T (mkF m pc Ls (.ref a :: st)) := by
  subst hp hz; obtain ⟨locs, c', s', q1, q2, ⟨vm0, k0, Y, hS, hk⟩, N, H⟩ := X
  obtain ⟨cl, A, r1, r2⟩ := H.sat hi
  simp only at r1
  subst r1
  exact G.step fun t k => Y.arraylength E.1 A.1 (State.isArrayOf_alike (oWm E hS).alike A.2.1) (g := mkF m pc Ls (.ref a :: st)) rfl rfl (hb E.2.2.2.1 hd) t (by rw [Array.length_toList] at k; exact k)
/-- v's length, whether she stood at the start or was made since -/
def oLn (Z : State) (V : oVw) (a : Addr) (z : Int32) : Prop := (∃ cl ty, Arr Z Z.heap a cl ty ∧ cl.slots.size.toInt32 = z) ∨ ∃ (k : Nat) (ty : FieldType) (vs : List Value), V[k]? = some (a, .inr (ty, vs)) ∧ vs.length.toInt32 = z
theorem oLn.app {a : Addr} {z : Int32} {L : oVw} (h : oLn Z V a z) : oLn Z (V ++ L) a z := h.imp id fun ⟨k, ty, vs, h1, h2⟩ => ⟨k, ty, vs, oAppGet h1, h2⟩
theorem oLn.set {a b : Addr} {z : Int32} {i : Nat} {q q' : String × List (String × String × String × Value)} (h : oLn Z V a z) (hi : V[i]? = some (b, .inl q)) : oLn Z (V.set i (b, .inl q')) a z := h.imp id fun ⟨k, ty, vs, h1, h2⟩ => ⟨k, ty, vs, oSetNe (fun e => by subst e; rw [hi] at h1; cases h1) h1, h2⟩
theorem gLenG (E : oE p l e R s m args below meth c Z bytes own nm maxL ret) (X : oX p l e R s m args below meth c Z T V cells slots) {a : Addr} {z : Int32} (hd : decode bytes pc = .ok (.arraylength, 1))
    (hL : oLn Z V a z) (hp : pc + 1 = q) (G : oG p e below s Z R Ret T (mkF m q Ls (.int z :: st))) : oG p e below s Z R Ret T (mkF m pc Ls (.ref a :: st)) := by
  rcases hL with ⟨cl, ty, A, hz⟩ | ⟨k, ty, vs, h1, h2⟩
  · subst hp hz; obtain ⟨locs, c', s', q1, q2, ⟨vm0, k0, Y, hS, hk⟩, N, H⟩ := X
    exact G.step fun t k => Y.arraylength E.1 (A.ext H.1).1 (State.isArrayOf_alike (oWm E hS).alike A.2.1) (g := mkF m pc Ls (.ref a :: st)) rfl rfl (hb E.2.2.2.1 hd) t k
  · exact gLen E X hd h1 h2 hp G
theorem oRepLen {n : Int32} {d : Value} (hn : ¬ n < 0) : (List.replicate n.toNatClampNeg d).length.toInt32 = n := by rw [List.length_replicate]; exact (back32 hn).1
theorem gLen0 (E : oE p l e R s m args below meth c Z bytes own nm maxL ret) (X : oX p l e R s m args below meth c Z T V cells slots) {a : Addr} {ty : FieldType} {cl : Cell} {z : Int32} (hd : decode bytes pc = .ok (.arraylength, 1))
    (A : Arr Z Z.heap a cl ty) (hz : cl.slots.size.toInt32 = z) (hp : pc + 1 = q) (G : oG p e below s Z R Ret T (mkF m q Ls (.int z :: st))) : oG p e below s Z R Ret T (mkF m pc Ls (.ref a :: st)) := by
  subst hp hz; obtain ⟨locs, c', s', q1, q2, ⟨vm0, k0, Y, hS, hk⟩, N, H⟩ := X
  exact G.step fun t k => Y.arraylength E.1 (A.ext H.1).1 (State.isArrayOf_alike (oWm E hS).alike A.2.1) (g := mkF m pc Ls (.ref a :: st)) rfl rfl (hb E.2.2.2.1 hd) t k
theorem gBaload (E : oE p l e R s m args below meth c Z bytes own nm maxL ret) (X : oX p l e R s m args below meth c Z T V cells slots) {i : Nat} {a : Addr} {vs : List Value} {j : Int32} {v : Value} (hd : decode bytes pc = .ok (.baload, 1))
    (hi : V[i]? = some (a, .inr (.byte, vs))) (hj : ¬ j < 0) (hv : vs[j.toNatClampNeg]? = some v) (hp : pc + 1 = q) (G : oG p e below s Z R Ret T (mkF m q Ls (v :: st))) : oG p e below s Z R Ret T (mkF m pc Ls (.int j :: .ref a :: st)) := by
  subst hp; obtain ⟨locs, c', s', q1, q2, ⟨vm0, k0, Y, hS, hk⟩, N, H⟩ := X
  obtain ⟨cl, A, r1, r2⟩ := H.sat hi
  obtain ⟨z1, z2⟩ := oIn r1 hj hv
  exact G.step fun t k => Y.baloadBytes E.1 A.1 (State.isArrayOf_alike (oWm E hS).alike A.2.1) A.2.2 z1 z2 (g := mkF m pc Ls (.int j :: .ref a :: st)) rfl rfl (hb E.2.2.2.1 hd) t k
theorem gBaload0 (E : oE p l e R s m args below meth c Z bytes own nm maxL ret) (X : oX p l e R s m args below meth c Z T V cells slots) {a : Addr} {cl : Cell} {j : Int32} {v : Value} (hd : decode bytes pc = .ok (.baload, 1))
    (A : Arr Z Z.heap a cl .byte) (hj : ¬ (j < 0 ∨ cl.slots.size ≤ j.toNatClampNeg)) (hv : cl.slots[j.toNatClampNeg]? = some v) (hp : pc + 1 = q) (G : oG p e below s Z R Ret T (mkF m q Ls (v :: st))) : oG p e below s Z R Ret T (mkF m pc Ls (.int j :: .ref a :: st)) := by
  subst hp; obtain ⟨locs, c', s', q1, q2, ⟨vm0, k0, Y, hS, hk⟩, N, H⟩ := X
  exact G.step fun t k => Y.baloadBytes E.1 (A.ext H.1).1 (State.isArrayOf_alike (oWm E hS).alike A.2.1) A.2.2 hj hv (g := mkF m pc Ls (.int j :: .ref a :: st)) rfl rfl (hb E.2.2.2.1 hd) t k
theorem gIaload (E : oE p l e R s m args below meth c Z bytes own nm maxL ret) (X : oX p l e R s m args below meth c Z T V cells slots) {i : Nat} {a : Addr} {vs : List Value} {j : Int32} {v : Value} (hd : decode bytes pc = .ok (.iaload, 1))
    (hi : V[i]? = some (a, .inr (.int, vs))) (hj : ¬ j < 0) (hv : vs[j.toNatClampNeg]? = some v) (hp : pc + 1 = q) (G : oG p e below s Z R Ret T (mkF m q Ls (v :: st))) : oG p e below s Z R Ret T (mkF m pc Ls (.int j :: .ref a :: st)) := by
  subst hp; obtain ⟨locs, c', s', q1, q2, ⟨vm0, k0, Y, hS, hk⟩, N, H⟩ := X
  obtain ⟨cl, A, r1, r2⟩ := H.sat hi
  obtain ⟨z1, z2⟩ := oIn r1 hj hv
  exact G.step fun t k => Y.iaload E.1 A.1 (State.isArrayOf_alike (oWm E hS).alike A.2.1) A.2.2 z1 z2 (g := mkF m pc Ls (.int j :: .ref a :: st)) rfl rfl (hb E.2.2.2.1 hd) t k
theorem gIaload0 (E : oE p l e R s m args below meth c Z bytes own nm maxL ret) (X : oX p l e R s m args below meth c Z T V cells slots) {a : Addr} {cl : Cell} {j : Int32} {v : Value} (hd : decode bytes pc = .ok (.iaload, 1))
    (A : Arr Z Z.heap a cl .int) (hj : ¬ (j < 0 ∨ cl.slots.size ≤ j.toNatClampNeg)) (hv : cl.slots[j.toNatClampNeg]? = some v) (hp : pc + 1 = q) (G : oG p e below s Z R Ret T (mkF m q Ls (v :: st))) : oG p e below s Z R Ret T (mkF m pc Ls (.int j :: .ref a :: st)) := by
  subst hp; obtain ⟨locs, c', s', q1, q2, ⟨vm0, k0, Y, hS, hk⟩, N, H⟩ := X
  exact G.step fun t k => Y.iaload E.1 (A.ext H.1).1 (State.isArrayOf_alike (oWm E hS).alike A.2.1) A.2.2 hj hv (g := mkF m pc Ls (.int j :: .ref a :: st)) rfl rfl (hb E.2.2.2.1 hd) t k
theorem gLaload (E : oE p l e R s m args below meth c Z bytes own nm maxL ret) (X : oX p l e R s m args below meth c Z T V cells slots) {i : Nat} {a : Addr} {vs : List Value} {j : Int32} {v : Value} (hd : decode bytes pc = .ok (.laload, 1))
    (hi : V[i]? = some (a, .inr (.long, vs))) (hj : ¬ j < 0) (hv : vs[j.toNatClampNeg]? = some v) (hp : pc + 1 = q) (G : oG p e below s Z R Ret T (mkF m q Ls (v :: st))) : oG p e below s Z R Ret T (mkF m pc Ls (.int j :: .ref a :: st)) := by
  subst hp; obtain ⟨locs, c', s', q1, q2, ⟨vm0, k0, Y, hS, hk⟩, N, H⟩ := X
  obtain ⟨cl, A, r1, r2⟩ := H.sat hi
  obtain ⟨z1, z2⟩ := oIn r1 hj hv
  exact G.step fun t k => Y.laload E.1 A.1 (State.isArrayOf_alike (oWm E hS).alike A.2.1) A.2.2 z1 z2 (g := mkF m pc Ls (.int j :: .ref a :: st)) rfl rfl (hb E.2.2.2.1 hd) t k
theorem gLaload0 (E : oE p l e R s m args below meth c Z bytes own nm maxL ret) (X : oX p l e R s m args below meth c Z T V cells slots) {a : Addr} {cl : Cell} {j : Int32} {v : Value} (hd : decode bytes pc = .ok (.laload, 1))
    (A : Arr Z Z.heap a cl .long) (hj : ¬ (j < 0 ∨ cl.slots.size ≤ j.toNatClampNeg)) (hv : cl.slots[j.toNatClampNeg]? = some v) (hp : pc + 1 = q) (G : oG p e below s Z R Ret T (mkF m q Ls (v :: st))) : oG p e below s Z R Ret T (mkF m pc Ls (.int j :: .ref a :: st)) := by
  subst hp; obtain ⟨locs, c', s', q1, q2, ⟨vm0, k0, Y, hS, hk⟩, N, H⟩ := X
  exact G.step fun t k => Y.laload E.1 (A.ext H.1).1 (State.isArrayOf_alike (oWm E hS).alike A.2.1) A.2.2 hj hv (g := mkF m pc Ls (.int j :: .ref a :: st)) rfl rfl (hb E.2.2.2.1 hd) t k
theorem gCaload (E : oE p l e R s m args below meth c Z bytes own nm maxL ret) (X : oX p l e R s m args below meth c Z T V cells slots) {i : Nat} {a : Addr} {vs : List Value} {j : Int32} {v : Value} (hd : decode bytes pc = .ok (.caload, 1))
    (hi : V[i]? = some (a, .inr (.char, vs))) (hj : ¬ j < 0) (hv : vs[j.toNatClampNeg]? = some v) (hp : pc + 1 = q) (G : oG p e below s Z R Ret T (mkF m q Ls (v :: st))) : oG p e below s Z R Ret T (mkF m pc Ls (.int j :: .ref a :: st)) := by
  subst hp; obtain ⟨locs, c', s', q1, q2, ⟨vm0, k0, Y, hS, hk⟩, N, H⟩ := X
  obtain ⟨cl, A, r1, r2⟩ := H.sat hi
  obtain ⟨z1, z2⟩ := oIn r1 hj hv
  exact G.step fun t k => Y.caload E.1 A.1 (State.isArrayOf_alike (oWm E hS).alike A.2.1) A.2.2 z1 z2 (g := mkF m pc Ls (.int j :: .ref a :: st)) rfl rfl (hb E.2.2.2.1 hd) t k
theorem gCaload0 (E : oE p l e R s m args below meth c Z bytes own nm maxL ret) (X : oX p l e R s m args below meth c Z T V cells slots) {a : Addr} {cl : Cell} {j : Int32} {v : Value} (hd : decode bytes pc = .ok (.caload, 1))
    (A : Arr Z Z.heap a cl .char) (hj : ¬ (j < 0 ∨ cl.slots.size ≤ j.toNatClampNeg)) (hv : cl.slots[j.toNatClampNeg]? = some v) (hp : pc + 1 = q) (G : oG p e below s Z R Ret T (mkF m q Ls (v :: st))) : oG p e below s Z R Ret T (mkF m pc Ls (.int j :: .ref a :: st)) := by
  subst hp; obtain ⟨locs, c', s', q1, q2, ⟨vm0, k0, Y, hS, hk⟩, N, H⟩ := X
  exact G.step fun t k => Y.caload E.1 (A.ext H.1).1 (State.isArrayOf_alike (oWm E hS).alike A.2.1) A.2.2 hj hv (g := mkF m pc Ls (.int j :: .ref a :: st)) rfl rfl (hb E.2.2.2.1 hd) t k
theorem gAaload (E : oE p l e R s m args below meth c Z bytes own nm maxL ret) (X : oX p l e R s m args below meth c Z T V cells slots) {i : Nat} {a : Addr} {ty : FieldType} {vs : List Value} {j : Int32} {v : Value} (hd : decode bytes pc = .ok (.aaload, 1))
    (hi : V[i]? = some (a, .inr (ty, vs))) (ht : ty.isReference = true) (hj : ¬ j < 0) (hv : vs[j.toNatClampNeg]? = some v) (hp : pc + 1 = q) (G : oG p e below s Z R Ret T (mkF m q Ls (v :: st))) : oG p e below s Z R Ret T (mkF m pc Ls (.int j :: .ref a :: st)) := by
  subst hp; obtain ⟨locs, c', s', q1, q2, ⟨vm0, k0, Y, hS, hk⟩, N, H⟩ := X
  obtain ⟨cl, A, r1, r2⟩ := H.sat hi
  obtain ⟨z1, z2⟩ := oIn r1 hj hv
  exact G.step fun t k => Y.aaload E.1 A.1 (State.isArrayOf_alike (oWm E hS).alike A.2.1) ht A.2.2 z1 z2 (g := mkF m pc Ls (.int j :: .ref a :: st)) rfl rfl (hb E.2.2.2.1 hd) t k
theorem gAaload0 (E : oE p l e R s m args below meth c Z bytes own nm maxL ret) (X : oX p l e R s m args below meth c Z T V cells slots) {a : Addr} {ty : FieldType} {cl : Cell} {j : Int32} {v : Value} (hd : decode bytes pc = .ok (.aaload, 1))
    (A : Arr Z Z.heap a cl ty) (ht : ty.isReference = true) (hj : ¬ (j < 0 ∨ cl.slots.size ≤ j.toNatClampNeg)) (hv : cl.slots[j.toNatClampNeg]? = some v) (hp : pc + 1 = q) (G : oG p e below s Z R Ret T (mkF m q Ls (v :: st))) : oG p e below s Z R Ret T (mkF m pc Ls (.int j :: .ref a :: st)) := by
  subst hp; obtain ⟨locs, c', s', q1, q2, ⟨vm0, k0, Y, hS, hk⟩, N, H⟩ := X
  exact G.step fun t k => Y.aaload E.1 (A.ext H.1).1 (State.isArrayOf_alike (oWm E hS).alike A.2.1) ht A.2.2 hj hv (g := mkF m pc Ls (.int j :: .ref a :: st)) rfl rfl (hb E.2.2.2.1 hd) t k
theorem gBastore (E : oE p l e R s m args below meth c Z bytes own nm maxL ret) (X : oX p l e R s m args below meth c Z T V cells slots) {i jn : Nat} {a : Addr} {vs : List Value} {j : Int32} {x x' : Int32} (hd : decode bytes pc = .ok (.bastore, 1))
    (hi : V[i]? = some (a, .inr (.byte, vs))) (hj : ¬ j < 0) (hjn : j.toNatClampNeg = jn) (hlt : jn < vs.length) (hx' : nar .byte x = x') (hV : V.set i (a, .inr (.byte, vs.set jn (.int x'))) = V') (hp : pc + 1 = q)
    (G : ∀ T', oX p l e R s m args below meth c Z T' V' cells slots → oG p e below s Z R Ret T' (mkF m q Ls st)) : oG p e below s Z R Ret T (mkF m pc Ls (.int x :: .int j :: .ref a :: st)) := by
  subst hp hV hjn hx'; obtain ⟨locs, c', s', q1, q2, ⟨vm0, k0, Y, hS, hk⟩, N, H⟩ := X
  have S := H.sat hi
  obtain ⟨cl, A, r1, r2⟩ := id S
  have hin : ¬ (j < 0 ∨ cl.slots.size ≤ j.toNatClampNeg) := fun z => z.elim hj fun y => by
    have r1' : cl.slots.toList = vs := r1
    rw [← r1', Array.length_toList] at hlt; omega
  obtain ⟨T', h', Y', e', W, k⟩ := stB Y E.1 (oWm E hS) rfl A hin (g := mkF m pc Ls (.int x :: .int j :: .ref a :: st)) rfl rfl (hb E.2.2.2.1 hd)
  subst e'
  exact (G T' ⟨_, c', s', q1, q2, ⟨vm0, k0, Y', hS, by rw [W.size]; exact hk⟩, Fr.snoc Y' N (H.ge hi), H.wr W hi (S.wrA W)⟩).step k
theorem gIastore (E : oE p l e R s m args below meth c Z bytes own nm maxL ret) (X : oX p l e R s m args below meth c Z T V cells slots) {i jn : Nat} {a : Addr} {vs : List Value} {j : Int32} {x x' : Int32} (hd : decode bytes pc = .ok (.iastore, 1))
    (hi : V[i]? = some (a, .inr (.int, vs))) (hj : ¬ j < 0) (hjn : j.toNatClampNeg = jn) (hlt : jn < vs.length) (hx' : x = x') (hV : V.set i (a, .inr (.int, vs.set jn (.int x'))) = V') (hp : pc + 1 = q)
    (G : ∀ T', oX p l e R s m args below meth c Z T' V' cells slots → oG p e below s Z R Ret T' (mkF m q Ls st)) : oG p e below s Z R Ret T (mkF m pc Ls (.int x :: .int j :: .ref a :: st)) := by
  subst hp hV hjn hx'; obtain ⟨locs, c', s', q1, q2, ⟨vm0, k0, Y, hS, hk⟩, N, H⟩ := X
  have S := H.sat hi
  obtain ⟨cl, A, r1, r2⟩ := id S
  have hin : ¬ (j < 0 ∨ cl.slots.size ≤ j.toNatClampNeg) := fun z => z.elim hj fun y => by
    have r1' : cl.slots.toList = vs := r1
    rw [← r1', Array.length_toList] at hlt; omega
  obtain ⟨T', h', Y', e', W, k⟩ := stI Y E.1 (oWm E hS) rfl A hin (g := mkF m pc Ls (.int x :: .int j :: .ref a :: st)) rfl rfl (hb E.2.2.2.1 hd)
  subst e'
  exact (G T' ⟨_, c', s', q1, q2, ⟨vm0, k0, Y', hS, by rw [W.size]; exact hk⟩, Fr.snoc Y' N (H.ge hi), H.wr W hi (S.wrA W)⟩).step k
theorem gLastore (E : oE p l e R s m args below meth c Z bytes own nm maxL ret) (X : oX p l e R s m args below meth c Z T V cells slots) {i jn : Nat} {a : Addr} {vs : List Value} {j : Int32} {x x' : Int64} (hd : decode bytes pc = .ok (.lastore, 1))
    (hi : V[i]? = some (a, .inr (.long, vs))) (hj : ¬ j < 0) (hjn : j.toNatClampNeg = jn) (hlt : jn < vs.length) (hx' : x = x') (hV : V.set i (a, .inr (.long, vs.set jn (.long x'))) = V') (hp : pc + 1 = q)
    (G : ∀ T', oX p l e R s m args below meth c Z T' V' cells slots → oG p e below s Z R Ret T' (mkF m q Ls st)) : oG p e below s Z R Ret T (mkF m pc Ls (.long x :: .int j :: .ref a :: st)) := by
  subst hp hV hjn hx'; obtain ⟨locs, c', s', q1, q2, ⟨vm0, k0, Y, hS, hk⟩, N, H⟩ := X
  have S := H.sat hi
  obtain ⟨cl, A, r1, r2⟩ := id S
  have hin : ¬ (j < 0 ∨ cl.slots.size ≤ j.toNatClampNeg) := fun z => z.elim hj fun y => by
    have r1' : cl.slots.toList = vs := r1
    rw [← r1', Array.length_toList] at hlt; omega
  obtain ⟨T', h', Y', e', W, k⟩ := stJ Y E.1 (oWm E hS) rfl A hin (g := mkF m pc Ls (.long x :: .int j :: .ref a :: st)) rfl rfl (hb E.2.2.2.1 hd)
  subst e'
  exact (G T' ⟨_, c', s', q1, q2, ⟨vm0, k0, Y', hS, by rw [W.size]; exact hk⟩, Fr.snoc Y' N (H.ge hi), H.wr W hi (S.wrA W)⟩).step k
theorem gCastore (E : oE p l e R s m args below meth c Z bytes own nm maxL ret) (X : oX p l e R s m args below meth c Z T V cells slots) {i jn : Nat} {a : Addr} {vs : List Value} {j : Int32} {x x' : Int32} (hd : decode bytes pc = .ok (.castore, 1))
    (hi : V[i]? = some (a, .inr (.char, vs))) (hj : ¬ j < 0) (hjn : j.toNatClampNeg = jn) (hlt : jn < vs.length) (hx' : nar .char x = x') (hV : V.set i (a, .inr (.char, vs.set jn (.int x'))) = V') (hp : pc + 1 = q)
    (G : ∀ T', oX p l e R s m args below meth c Z T' V' cells slots → oG p e below s Z R Ret T' (mkF m q Ls st)) : oG p e below s Z R Ret T (mkF m pc Ls (.int x :: .int j :: .ref a :: st)) := by
  subst hp hV hjn hx'; obtain ⟨locs, c', s', q1, q2, ⟨vm0, k0, Y, hS, hk⟩, N, H⟩ := X
  have S := H.sat hi
  obtain ⟨cl, A, r1, r2⟩ := id S
  have hin : ¬ (j < 0 ∨ cl.slots.size ≤ j.toNatClampNeg) := fun z => z.elim hj fun y => by
    have r1' : cl.slots.toList = vs := r1
    rw [← r1', Array.length_toList] at hlt; omega
  obtain ⟨T', h', Y', e', W, k⟩ := stC Y E.1 (oWm E hS) rfl A hin (g := mkF m pc Ls (.int x :: .int j :: .ref a :: st)) rfl rfl (hb E.2.2.2.1 hd)
  subst e'
  exact (G T' ⟨_, c', s', q1, q2, ⟨vm0, k0, Y', hS, by rw [W.size]; exact hk⟩, Fr.snoc Y' N (H.ge hi), H.wr W hi (S.wrA W)⟩).step k
/-! 7. calls -/
theorem oBack {y : MethodName} {bs : ByteArray} {mx : Nat} {rt : Option FieldType} {rm : Room} {as' : Array Value} {Ret' : Option Value → oVw → Prop} {W len k0 : Nat} {vm0 : Vm} (E : oE p l e R s m args below meth c Z bytes own nm maxL ret) (K : oCon l Z y bs mx rt rm as' V Ret') {h : Heap} (H : oHv Z h V) (hS : s.Since vm0 k0)
    (wc : (Jvm.Cond.code y bs mx rt).before a0 Z = true) (wz : (Jvm.Cond.initialized y.cls).before a0 Z = true) (hf : rm.frames + 1 ≤ R.frames) (hl : W + (mx + 11) + rm.locals ≤ R.locals) :
    BackS l R p e below (s.setVm vm0) args y len W (fun A a => a = as' ∧ A.U.heap = h ∧ A.cells + rm.cells ≤ R.cells ∧ A.slots + rm.slots ≤ R.slots) (fun A _ v B => ∃ L, (Fr Z.heap.size L ∧ ∃ V', Ret' v V' ∧ oHv Z B.U.heap V') ∧ B.locs = A.locs ++ L ∧ B.cells = A.cells + rm.cells ∧ B.slots = A.slots + rm.slots) :=
  backOfS (W := W) (Q := fun v h L => Fr Z.heap.size L ∧ ∃ V', Ret' v V' ∧ oHv Z h V') (K [] h H) (oWm E hS) wc wz hf hl
theorem gCallS (E : oE p l e R s m args below meth c Z bytes own nm maxL ret) (X : oX p l e R s m args below meth c Z T V cells slots) {y : MethodName} {index : Nat} {bs : ByteArray} {mx : Nat} {rt : Option FieldType} {rm : Room} {Ret' : Option Value → oVw → Prop} {W : Nat} {ps : List FieldType} {r : Option FieldType} (argsL rest : List Value) (hd : decode bytes pc = .ok (.invokestatic index, 3))
    (w1 : (Jvm.Cond.methodLink own index y).before a0 Z = true) (w2 : (Jvm.Cond.static y).before a0 Z = true) (w3 : (Jvm.Cond.initialized y.cls).before a0 Z = true) (w4 : (Jvm.Cond.code y bs mx rt).before a0 Z = true) (hy : y.cls ≠ "java/lang/invoke/MethodHandle" ∧ y.cls ≠ "java/lang/invoke/VarHandle")
    (K : oCon l Z y bs mx rt rm argsL.toArray V Ret') (hds : parseMethodDescriptor y.desc = some ⟨ps, r⟩) (hlen : argsL.length = ps.length) (hst : st = argsL.reverse ++ rest) (hsz : Ls.size = maxL) (hf : rm.frames + 1 ≤ R.frames) (hW : (rest.map fun v => v.category).sum ≤ W) (hl : W + (mx + 11) + rm.locals ≤ R.locals)
    (hc : cells + rm.cells ≤ c2) (hs : slots + rm.slots ≤ s2) (hc2 : c2 ≤ R.cells) (hs2 : s2 ≤ R.slots) (hp : pc + 3 = q)
    (G : ∀ T' v V', Ret' v V' → oX p l e R s m args below meth c Z T' V' c2 s2 → oG p e below s Z R Ret T' (mkF m q Ls (v.toList ++ rest))) : oG p e below s Z R Ret T (mkF m pc Ls st) := by
  subst hp; obtain ⟨locs, c', s', q1, q2, ⟨vm0, k0, Y, hS, hk⟩, N, H⟩ := X
  obtain ⟨v, vm₁, ⟨T', L', k', n'⟩, -, Y', hS2, hg2, ⟨Lc, ⟨hN, V', hR, hV⟩, l', y', z'⟩, k⟩ := Jvm.RoadKit.callSS Y E.1 (y := y) (oOw E hS) (mvT (oWm E hS) w1) (mvT (oWm E hS) w2) (mvT (oWm E hS) w3) (mvT (oWm E hS) w4) hy (oBack (W := W) E K H hS w4 w3 hf hl) (g := mkF m pc Ls st) rfl (by rw [E.2.2.2.2.1]; exact hsz) (argsL := argsL) (rest := rest) (lenOf hds hlen) hst (by show 2 * 0 + _ ≤ _; omega) (hb E.2.2.2.1 hd) (fun _ _ => ⟨rfl, rfl, by dsimp only [Pt.cells]; omega, by dsimp only [Pt.slots]; omega⟩)
  dsimp only [Pt.U, Pt.locs, Pt.cells, Pt.slots] at Y' hS2 hg2 l' y' z' k hV
  subst l' y' z'
  exact (G T' v V' hR ⟨_, _, _, by omega, by omega, ⟨_, _, Y', hS.trans hS2 (Nat.le_trans hk hg2), Nat.le_refl _⟩, Fr.app N hN, hV⟩).steps k
theorem gCallI (E : oE p l e R s m args below meth c Z bytes own nm maxL ret) (X : oX p l e R s m args below meth c Z T V cells slots) {y : MethodName} {index : Nat} {bs : ByteArray} {mx : Nat} {rm : Room} {Ret' : Option Value → oVw → Prop} {W : Nat} {ps : List FieldType} {r : Option FieldType} {a : Addr} (argsL rest : List Value) (hd : decode bytes pc = .ok (.invokespecial index, 3)) (hy1 : y.name = "<init>")
    (w1 : (Jvm.Cond.methodLink own index y).before a0 Z = true) (w2 : (Jvm.Cond.instanceMethod y).before a0 Z = true) (w3 : (Jvm.Cond.initialized y.cls).before a0 Z = true) (w4 : (Jvm.Cond.code y bs mx none).before a0 Z = true) (hy : y.cls ≠ "java/lang/invoke/MethodHandle" ∧ y.cls ≠ "java/lang/invoke/VarHandle")
    (K : oCon l Z y bs mx none rm (.ref a :: argsL).toArray V Ret') (hds : parseMethodDescriptor y.desc = some ⟨ps, r⟩) (hlen : argsL.length = ps.length) (hst : st = argsL.reverse ++ .ref a :: rest) (hsz : Ls.size = maxL) (hf : rm.frames + 1 ≤ R.frames) (hW : (rest.map fun v => v.category).sum ≤ W) (hl : W + (mx + 11) + rm.locals ≤ R.locals)
    (hc : cells + rm.cells ≤ c2) (hs : slots + rm.slots ≤ s2) (hc2 : c2 ≤ R.cells) (hs2 : s2 ≤ R.slots) (hp : pc + 3 = q)
    (G : ∀ T' v V', Ret' v V' → oX p l e R s m args below meth c Z T' V' c2 s2 → oG p e below s Z R Ret T' (mkF m q Ls (v.toList ++ rest))) : oG p e below s Z R Ret T (mkF m pc Ls st) := by
  subst hp; obtain ⟨locs, c', s', q1, q2, ⟨vm0, k0, Y, hS, hk⟩, N, H⟩ := X
  obtain ⟨v, vm₁, ⟨T', L', k', n'⟩, -, Y', hS2, hg2, ⟨Lc, ⟨hN, V', hR, hV⟩, l', y', z'⟩, k⟩ := Y.specialBackS E.1 (y := y) hy1 (oOw E hS) (mvT (oWm E hS) w1) (mvT (oWm E hS) w2) (mvT (oWm E hS) w4) hy (oBack (W := W) E K H hS w4 w3 hf hl) (g := mkF m pc Ls st) rfl (by rw [E.2.2.2.2.1]; exact hsz) (Steps.refl _) (a := a) (argsL := argsL) (rest := rest) (lenOf hds hlen) hst (by show 2 * 0 + _ ≤ _; omega) (hb E.2.2.2.1 hd) (fun _ _ => ⟨rfl, rfl, by dsimp only [Pt.cells]; omega, by dsimp only [Pt.slots]; omega⟩)
  dsimp only [Pt.U, Pt.locs, Pt.cells, Pt.slots] at Y' hS2 hg2 l' y' z' k hV
  subst l' y' z'
  exact (G T' v V' hR ⟨_, _, _, by omega, by omega, ⟨_, _, Y', hS.trans hS2 (Nat.le_trans hk hg2), Nat.le_refl _⟩, Fr.app N hN, hV⟩).steps k
theorem gCallV (E : oE p l e R s m args below meth c Z bytes own nm maxL ret) (X : oX p l e R s m args below meth c Z T V cells slots) {y z : MethodName} {C : String} {index i : Nat} {bs : ByteArray} {mx : Nat} {rt : Option FieldType} {rm : Room} {Ret' : Option Value → oVw → Prop} {W : Nat} {ps : List FieldType} {r : Option FieldType} {a : Addr} {fs : List (String × String × String × Value)} (argsL rest : List Value) (hd : decode bytes pc = .ok (.invokevirtual index, 3)) (hi : V[i]? = some (a, .inl (C, fs)))
    (w1 : (Jvm.Cond.methodLink own index y).before a0 Z = true) (w2 : (Jvm.Cond.declares y).before a0 Z = true) (w5 : (Jvm.Cond.selects C y z).before a0 Z = true) (w6 : (Jvm.Cond.selects y.cls y y).before a0 Z = true) (w7 : (Jvm.Cond.instanceMethod z).before a0 Z = true) (w3 : (Jvm.Cond.initialized z.cls).before a0 Z = true) (w4 : (Jvm.Cond.code z bs mx rt).before a0 Z = true) (hy : y.cls ≠ "java/lang/invoke/MethodHandle" ∧ y.cls ≠ "java/lang/invoke/VarHandle")
    (K : oCon l Z z bs mx rt rm (.ref a :: argsL).toArray V Ret') (hds : parseMethodDescriptor y.desc = some ⟨ps, r⟩) (hlen : argsL.length = ps.length) (hst : st = argsL.reverse ++ .ref a :: rest) (hsz : Ls.size = maxL) (hf : rm.frames + 1 ≤ R.frames) (hW : (rest.map fun v => v.category).sum ≤ W) (hl : W + (mx + 11) + rm.locals ≤ R.locals)
    (hc : cells + rm.cells ≤ c2) (hs : slots + rm.slots ≤ s2) (hc2 : c2 ≤ R.cells) (hs2 : s2 ≤ R.slots) (hp : pc + 3 = q)
    (G : ∀ T' v V', Ret' v V' → oX p l e R s m args below meth c Z T' V' c2 s2 → oG p e below s Z R Ret T' (mkF m q Ls (v.toList ++ rest))) : oG p e below s Z R Ret T (mkF m pc Ls st) := by
  subst hp; obtain ⟨locs, c', s', q1, q2, ⟨vm0, k0, Y, hS, hk⟩, N, H⟩ := X
  obtain ⟨cq, kq, qa, qb, qc⟩ := isOf (oWm E hS) (T := T) rfl (H.sat hi).1
  obtain ⟨v, vm₁, ⟨T', L', k', n'⟩, -, Y', hS2, hg2, ⟨Lc, ⟨hN, V', hR, hV⟩, l', y', z'⟩, k⟩ := Y.virtualBackS E.1 (y := y) (z := z) (oOw E hS) (mvT (oWm E hS) w1) (mvT (oWm E hS) w2) (notFace_of_selects (args := #[]) (mvT (oWm E hS) w6)) (mvT (oWm E hS) w5) (mvT (oWm E hS) w7) hy (oBack (W := W) E K H hS w4 w3 hf hl) qa qc (g := mkF m pc Ls st) rfl (by rw [E.2.2.2.2.1]; exact hsz) (Steps.refl _) (argsL := argsL) (rest := rest) (lenOf hds hlen) hst (by show 2 * 0 + _ ≤ _; omega) (hb E.2.2.2.1 hd) (fun _ _ => ⟨rfl, rfl, by dsimp only [Pt.cells]; omega, by dsimp only [Pt.slots]; omega⟩)
  dsimp only [Pt.U, Pt.locs, Pt.cells, Pt.slots] at Y' hS2 hg2 l' y' z' k hV
  subst l' y' z'
  exact (G T' v V' hR ⟨_, _, _, by omega, by omega, ⟨_, _, Y', hS.trans hS2 (Nat.le_trans hk hg2), Nat.le_refl _⟩, Fr.app N hN, hV⟩).steps k
theorem gCallV0 (E : oE p l e R s m args below meth c Z bytes own nm maxL ret) (X : oX p l e R s m args below meth c Z T V cells slots) {y z : MethodName} {C : String} {index : Nat} {bs : ByteArray} {mx : Nat} {rt : Option FieldType} {rm : Room} {Ret' : Option Value → oVw → Prop} {W : Nat} {ps : List FieldType} {r : Option FieldType} {a : Addr} (argsL rest : List Value) (hd : decode bytes pc = .ok (.invokevirtual index, 3)) (hE : Exa Z Z.heap a C)
    (w1 : (Jvm.Cond.methodLink own index y).before a0 Z = true) (w2 : (Jvm.Cond.declares y).before a0 Z = true) (w5 : (Jvm.Cond.selects C y z).before a0 Z = true) (w6 : (Jvm.Cond.selects y.cls y y).before a0 Z = true) (w7 : (Jvm.Cond.instanceMethod z).before a0 Z = true) (w3 : (Jvm.Cond.initialized z.cls).before a0 Z = true) (w4 : (Jvm.Cond.code z bs mx rt).before a0 Z = true) (hy : y.cls ≠ "java/lang/invoke/MethodHandle" ∧ y.cls ≠ "java/lang/invoke/VarHandle")
    (K : oCon l Z z bs mx rt rm (.ref a :: argsL).toArray V Ret') (hds : parseMethodDescriptor y.desc = some ⟨ps, r⟩) (hlen : argsL.length = ps.length) (hst : st = argsL.reverse ++ .ref a :: rest) (hsz : Ls.size = maxL) (hf : rm.frames + 1 ≤ R.frames) (hW : (rest.map fun v => v.category).sum ≤ W) (hl : W + (mx + 11) + rm.locals ≤ R.locals)
    (hc : cells + rm.cells ≤ c2) (hs : slots + rm.slots ≤ s2) (hc2 : c2 ≤ R.cells) (hs2 : s2 ≤ R.slots) (hp : pc + 3 = q)
    (G : ∀ T' v V', Ret' v V' → oX p l e R s m args below meth c Z T' V' c2 s2 → oG p e below s Z R Ret T' (mkF m q Ls (v.toList ++ rest))) : oG p e below s Z R Ret T (mkF m pc Ls st) := by
  subst hp; obtain ⟨locs, c', s', q1, q2, ⟨vm0, k0, Y, hS, hk⟩, N, H⟩ := X
  obtain ⟨cq, kq, qa, qb, qc⟩ := isOf (oWm E hS) (T := T) rfl (hE.ext H.1)
  obtain ⟨v, vm₁, ⟨T', L', k', n'⟩, -, Y', hS2, hg2, ⟨Lc, ⟨hN, V', hR, hV⟩, l', y', z'⟩, k⟩ := Y.virtualBackS E.1 (y := y) (z := z) (oOw E hS) (mvT (oWm E hS) w1) (mvT (oWm E hS) w2) (notFace_of_selects (args := #[]) (mvT (oWm E hS) w6)) (mvT (oWm E hS) w5) (mvT (oWm E hS) w7) hy (oBack (W := W) E K H hS w4 w3 hf hl) qa qc (g := mkF m pc Ls st) rfl (by rw [E.2.2.2.2.1]; exact hsz) (Steps.refl _) (argsL := argsL) (rest := rest) (lenOf hds hlen) hst (by show 2 * 0 + _ ≤ _; omega) (hb E.2.2.2.1 hd) (fun _ _ => ⟨rfl, rfl, by dsimp only [Pt.cells]; omega, by dsimp only [Pt.slots]; omega⟩)
  dsimp only [Pt.U, Pt.locs, Pt.cells, Pt.slots] at Y' hS2 hg2 l' y' z' k hV
  subst l' y' z'
  exact (G T' v V' hR ⟨_, _, _, by omega, by omega, ⟨_, _, Y', hS.trans hS2 (Nat.le_trans hk hg2), Nat.le_refl _⟩, Fr.app N hN, hV⟩).steps k
theorem oHv.ext {Z : State} {h h' : Heap} {V : oVw} (H : oHv Z h V) (E : Ext h h') : oHv Z h' V := ⟨⟨Nat.le_trans H.1.1 E.1, fun a c q => E.2 _ _ (H.1.2 _ _ q)⟩, H.2.1, fun x hx => ⟨(H.2.2 x hx).1, (H.2.2 x hx).2.ext E⟩⟩
/-- a String constant: some object, of which nothing is said -/
theorem gLdcS (E : oE p l e R s m args below meth c Z bytes own nm maxL ret) (X : oX p l e R s m args below meth c Z T V cells slots) {index n : Nat} {text : String} (hd : decode bytes pc = .ok (.ldc index, 2)) (w : (Jvm.Cond.stringLink own index text).before a0 Z = true) (wS : ∀ a ∈ Bundle.stringAtoms, a.before a0 Z = true)
    (hn : 4 * text.toList.length ≤ n) (hbig : n ≤ 536870912) (hc : cells + 2 ≤ c2) (hs : slots + (n + 4) ≤ s2) (hc2 : c2 ≤ R.cells) (hs2 : s2 ≤ R.slots) (hp : pc + 2 = q)
    (G : ∀ T' a, oX p l e R s m args below meth c Z T' V c2 s2 → oG p e below s Z R Ret T' (mkF m q Ls (.ref a :: st))) : oG p e below s Z R Ret T (mkF m pc Ls st) := by
  subst hp; obtain ⟨locs, c', s', q1, q2, ⟨vm0, k0, Y, hS, hk⟩, N, H⟩ := X
  obtain ⟨a, T', h', k1, Y', e', Ex, hS', hk', -, -, k⟩ := ldcS Y E.1 (oWm E hS) (oOw E hS) w wS rfl hS hk (g := mkF m pc Ls st) rfl (hb E.2.2.2.1 hd) hn hbig (by omega) (by omega)
  subst e'
  exact (G T' a ⟨_, _, _, by omega, by omega, ⟨_, _, Y', hS', hk'⟩, N, H.ext Ex⟩).step k
end Walk

theorem oRemEq (x y : Int32) : x - x / y * y = x % y := by
  apply Int32.toInt_inj.mp
  rw [Int32.toInt_sub, Int32.toInt_mul, Int32.toInt_div, Int32.toInt_mod, Int.bmod_mul_bmod, Int.sub_bmod_bmod]
  have : x.toInt - x.toInt.tdiv y.toInt * y.toInt = x.toInt.tmod y.toInt := by rw [Int.tmod_def, Int.mul_comm]
  rw [this, ← Int32.toInt_mod]
  have h := rng32 (x % y)
  exact Int.bmod_eq_of_le (by omega) (by omega)
theorem oRemEqL (x y : Int64) : x - x / y * y = x % y := by
  apply Int64.toInt_inj.mp
  rw [Int64.toInt_sub, Int64.toInt_mul, Int64.toInt_div, Int64.toInt_mod, Int.bmod_mul_bmod, Int.sub_bmod_bmod]
  have : x.toInt - x.toInt.tdiv y.toInt * y.toInt = x.toInt.tmod y.toInt := by rw [Int.tmod_def, Int.mul_comm]
  rw [this, ← Int64.toInt_mod]
  have h := rng64 (x % y)
  exact Int.bmod_eq_of_le (by omega) (by omega)
theorem oBm32 {n : Int} (h : -2147483648 ≤ n ∧ n < 2147483648) : n.bmod (2 ^ 32) = n := Int.bmod_eq_of_le (by have := h.1; omega) (by have := h.2; omega)
theorem oBm64 {n : Int} (h : -9223372036854775808 ≤ n ∧ n < 9223372036854775808) : n.bmod (2 ^ 64) = n := Int.bmod_eq_of_le (by have := h.1; omega) (by have := h.2; omega)
theorem oAdd32 {x y : Int32} (h : -2147483648 ≤ (x.toInt + y.toInt) ∧ (x.toInt + y.toInt) < 2147483648) : (x + y).toInt = x.toInt + y.toInt := by rw [Int32.toInt_add, oBm32 h]
theorem oSub32 {x y : Int32} (h : -2147483648 ≤ (x.toInt - y.toInt) ∧ (x.toInt - y.toInt) < 2147483648) : (x - y).toInt = x.toInt - y.toInt := by rw [Int32.toInt_sub, oBm32 h]
theorem oMul32 {x y : Int32} (h : -2147483648 ≤ (x.toInt * y.toInt) ∧ (x.toInt * y.toInt) < 2147483648) : (x * y).toInt = x.toInt * y.toInt := by rw [Int32.toInt_mul, oBm32 h]
theorem oAdd64 {x y : Int64} (h : -9223372036854775808 ≤ (x.toInt + y.toInt) ∧ (x.toInt + y.toInt) < 9223372036854775808) : (x + y).toInt = x.toInt + y.toInt := by rw [Int64.toInt_add, oBm64 h]
theorem oSub64 {x y : Int64} (h : -9223372036854775808 ≤ (x.toInt - y.toInt) ∧ (x.toInt - y.toInt) < 9223372036854775808) : (x - y).toInt = x.toInt - y.toInt := by rw [Int64.toInt_sub, oBm64 h]
theorem oMul64 {x y : Int64} (h : -9223372036854775808 ≤ (x.toInt * y.toInt) ∧ (x.toInt * y.toInt) < 9223372036854775808) : (x * y).toInt = x.toInt * y.toInt := by rw [Int64.toInt_mul, oBm64 h]
theorem oRem32 {x y : Int32} (hx : 0 ≤ x.toInt) : (x % y).toInt = x.toInt % y.toInt := by rw [Int32.toInt_mod, Int.tmod_eq_emod_of_nonneg hx]
theorem oIx (x k : Int32) (hx : 0 ≤ x.toInt) (hk : 0 ≤ k.toInt) (h : x.toInt + k.toInt < 2147483648) : ¬ (x + k) < 0 ∧ (x + k).toNatClampNeg = x.toNatClampNeg + k.toNatClampNeg := by
  have e : (x + k).toInt = x.toInt + k.toInt := XT.add32 ⟨by omega, by omega⟩
  refine ⟨by rw [XT.negI32]; omega, ?_⟩
  simp only [Int32.toNatClampNeg, e]; omega
theorem oSto {l l' : Array Slot} {i : Nat} {v : Value} {o : Slot} (hold : l[i]? = some o) (ho : One o) (hv : v.category = 1) (e : l.setIfInBounds i (.val v) = l') : storeLocals l i v = some l' := by rw [XS.store1 hold ho hv, e]
theorem oEqI {t : Term} {n : Int32} {args : Array Value} {s : State} (h : (Jvm.Cond.eq t (.int n)).value args s none s [] = some true) : t.eval args s none [] s = some (.int n) := by
  simp only [Cond.value, Term.eval] at h
  cases ht : t.eval args s none [] s with
  | none => simp [ht] at h
  | some x => cases x <;> simp [ht] at h ⊢ <;> exact h
theorem oEqR {t u : Term} {b : Addr} {args : Array Value} {s : State} (h : (Jvm.Cond.eq t u).value args s none s [] = some true) (hu : u.eval args s none [] s = some (.ref b)) : t.eval args s none [] s = some (.ref b) := by
  simp only [Cond.value, hu] at h
  cases ht : t.eval args s none [] s with
  | none => simp [ht] at h
  | some x => cases x <;> simp [ht] at h ⊢ <;> exact h
theorem oN0 {x : Int32} (hx : 0 ≤ x.toInt) : ¬ x < 0 := by rw [XT.negI32]; omega
theorem oB8 (x : Int32) : nar .byte x.toInt8.toInt32 = x.toInt8.toInt32 := by simp [nar]
theorem oLt {α : Type} {l : List α} {i : Nat} {x : α} (h : l[i]? = some x) : i < l.length := (List.getElem?_eq_some_iff.mp h).1
theorem oNarR {t : FieldType} {v : Value} (h : v.isRef = true) : narrow t v = v := by cases v <;> simp [Value.isRef] at h <;> cases t <;> rfl
theorem oFitR {t : FieldType} {v : Value} (ht : t.isReference = true) (h : v.isRef = true) : fits t v = true := by cases v <;> simp [Value.isRef] at h <;> cases t <;> first | rfl | cases ht
theorem own_str {Z : State} {a0 : Array Value} (hw : ∀ d ∈ tables_1, d.before a0 Z = true) : ∀ a ∈ Bundle.stringAtoms, a.before a0 Z = true := fun a ha => by
  simp only [Bundle.stringAtoms, List.mem_cons, List.not_mem_nil, or_false] at ha
  rcases ha with rfl | rfl | rfl | rfl | rfl | rfl | rfl
  · exact (hw _ (List.mem_of_getElem? (i := 21) rfl))
  · exact (hw _ (List.mem_of_getElem? (i := 22) rfl))
  · exact (hw _ (List.mem_of_getElem? (i := 8) rfl))
  · exact (hw _ (List.mem_of_getElem? (i := 23) rfl))
  · exact (hw _ (List.mem_of_getElem? (i := 24) rfl))
  · exact (hw _ (List.mem_of_getElem? (i := 25) rfl))
  · exact (hw _ (List.mem_of_getElem? (i := 26) rfl))
theorem own_15 (u : Int32) : 0 ≤ (u &&& (15 : Int32)).toInt ∧ (u &&& (15 : Int32)).toInt ≤ 15 := by
  have h := c_mask u 15 4 (by decide) (by decide)
  omega
theorem own_neg {y : Int32} (h : 0 ≤ y.toInt ∧ y.toInt ≤ 15) : ¬ y < 0 := by rw [XT.negI32]; omega
theorem own_cap {y : Int32} (h : 0 ≤ y.toInt ∧ y.toInt ≤ 15) : y.toNatClampNeg ≤ 15 := by simp only [Int32.toNatClampNeg]; omega
theorem own_k (u : Int32) : (u &&& (3 : Int32)) = 0 ∨ (u &&& (3 : Int32)) = 1 ∨ (u &&& (3 : Int32)) = 2 ∨ (u &&& (3 : Int32)) = 3 := by
  have h := c_mask u 3 2 (by decide) (by decide)
  simp only [← Int32.toInt_inj, h]
  show _ = 0 ∨ _ = 1 ∨ _ = 2 ∨ _ = 3
  omega
theorem own_sum (a b d f : Int64) : a + b + d + (8 : Int64) + f = (8 : Int64) + a + b + d + f := by
  rw [Int64.add_comm a b, Int64.add_comm (8 : Int64) a, Int64.add_assoc a 8 b, Int64.add_comm (8 : Int64) b, ← Int64.add_assoc a b 8, Int64.add_comm b a, Int64.add_assoc (a + b) d 8, Int64.add_comm d 8, ← Int64.add_assoc]
theorem d2_0 : decode jdk_30_method_1_code 0 = .ok (.aload_n 0, 1) := by decide +kernel
theorem d2_1 : decode jdk_30_method_1_code 1 = .ok (.invokespecial 1, 3) := by decide +kernel
theorem d2_4 : decode jdk_30_method_1_code 4 = .ok (.return_, 1) := by decide +kernel
theorem pn_java_lang_Record : plainName "java/lang/Record" = true := by first | (simp [plainName, overriddenIn]; done) | decide +kernel
set_option maxRecDepth 65536 in
set_option maxHeartbeats 40000000 in
theorem cR (l : Launch) (Z : State) (a0 : Array Value) (hw : ∀ d ∈ tables_1, d.before a0 Z = true) {V : oVw} (a : Addr)   :
    oCon l Z (⟨"java/lang/Record", "<init>", "()V"⟩ : MethodName) jdk_30_method_1_code 1 none ({ frames := 1, cells := 0, slots := 0, locals := 12 } : Room) #[(.ref a)] V (fun v V' => v = none ∧ V' = V) := by
  refine oEnter (plainFor_of_name pn_java_lang_Record) (Ls := #[.val (.ref a)]) (fun m => by first | (simp [entryFrame, mkF, argsToLocals, Value.category]; done) | rfl) ?_
  intro p e s m below meth c T E X
  refine gAloadN E X d2_0 rfl rfl (q := 1) rfl ?_
  refine gInitO E X (W := 0) d2_1 (hw _ (List.mem_of_getElem? (i := 17) rfl)) (hw _ (List.mem_of_getElem? (i := 18) rfl)) (hw _ (List.mem_of_getElem? (i := 19) rfl)) rfl (by decide) (Nat.le_of_eq rfl) (by decide) (q := 4) rfl ?_
  intro T1 X1
  exact gRetV E X1 d2_4 (by decide) (by decide) (⟨rfl, rfl⟩)
theorem d4_0 : decode jdk_31_method_11_code 0 = .ok (.aload_n 0, 1) := by decide +kernel
theorem d4_1 : decode jdk_31_method_11_code 1 = .ok (.ifnonnull 12, 3) := by decide +kernel
theorem d4_13 : decode jdk_31_method_11_code 13 = .ok (.aload_n 0, 1) := by decide +kernel
theorem d4_14 : decode jdk_31_method_11_code 14 = .ok (.areturn, 1) := by decide +kernel
theorem pn_java_util_Objects : plainName "java/util/Objects" = true := by first | (simp [plainName, overriddenIn]; done) | decide +kernel
set_option maxRecDepth 65536 in
set_option maxHeartbeats 40000000 in
theorem cQ (l : Launch) (Z : State) (a0 : Array Value) (hw : ∀ d ∈ tables_1, d.before a0 Z = true) {V : oVw} (a : Addr) (b : Addr)   :
    oCon l Z (⟨"java/util/Objects", "requireNonNull", "(Ljava/lang/Object;Ljava/lang/String;)Ljava/lang/Object;"⟩ : MethodName) jdk_31_method_11_code 2 (some (.object "java/lang/Object")) ({ frames := 0, cells := 0, slots := 0, locals := 0 } : Room) #[(.ref a), (.ref b)] V (fun v V' => v = some (.ref a) ∧ V' = V) := by
  refine oEnter (plainFor_of_name pn_java_util_Objects) (Ls := #[.val (.ref a), .val (.ref b)]) (fun m => by first | (simp [entryFrame, mkF, argsToLocals, Value.category]; done) | rfl) ?_
  intro p e s m below meth c T E X
  refine gAloadN E X d4_0 rfl rfl (q := 1) rfl ?_
  refine gNull_n E X rfl d4_1 (by decide) (q := 13) (by decide) (q' := 4) rfl (fun h1 => ?_) (fun h1 => by exfalso; cases h1)
  refine gAloadN E X d4_13 rfl rfl (q := 14) rfl ?_
  exact gRetA E X rfl d4_14 (by decide) (by decide) rfl rfl (⟨rfl, rfl⟩)
theorem pd_0 : parseMethodDescriptor "()V" = some ⟨[], none⟩ := by decide +kernel
theorem pd_1 : parseMethodDescriptor "(Ljava/lang/Object;Ljava/lang/String;)Ljava/lang/Object;" = some ⟨[(.object "java/lang/Object"), (.object "java/lang/String")], some (.object "java/lang/Object")⟩ := by decide +kernel
theorem d1_0 : decode prog_48_method_1_code 0 = .ok (.aload_n 0, 1) := by decide +kernel
theorem d1_1 : decode prog_48_method_1_code 1 = .ok (.invokespecial 3, 3) := by decide +kernel
theorem d1_4 : decode prog_48_method_1_code 4 = .ok (.aload_n 1, 1) := by decide +kernel
theorem d1_5 : decode prog_48_method_1_code 5 = .ok (.ldc 9, 2) := by decide +kernel
theorem d1_7 : decode prog_48_method_1_code 7 = .ok (.invokestatic 11, 3) := by decide +kernel
theorem d1_10 : decode prog_48_method_1_code 10 = .ok (.pop, 1) := by decide +kernel
theorem d1_11 : decode prog_48_method_1_code 11 = .ok (.aload_n 2, 1) := by decide +kernel
theorem d1_12 : decode prog_48_method_1_code 12 = .ok (.ldc 17, 2) := by decide +kernel
theorem d1_14 : decode prog_48_method_1_code 14 = .ok (.invokestatic 11, 3) := by decide +kernel
theorem d1_17 : decode prog_48_method_1_code 17 = .ok (.pop, 1) := by decide +kernel
theorem d1_18 : decode prog_48_method_1_code 18 = .ok (.aload_n 3, 1) := by decide +kernel
theorem d1_19 : decode prog_48_method_1_code 19 = .ok (.ldc 19, 2) := by decide +kernel
theorem d1_21 : decode prog_48_method_1_code 21 = .ok (.invokestatic 11, 3) := by decide +kernel
theorem d1_24 : decode prog_48_method_1_code 24 = .ok (.pop, 1) := by decide +kernel
theorem d1_25 : decode prog_48_method_1_code 25 = .ok (.aload 6, 2) := by decide +kernel
theorem d1_27 : decode prog_48_method_1_code 27 = .ok (.ldc 21, 2) := by decide +kernel
theorem d1_29 : decode prog_48_method_1_code 29 = .ok (.invokestatic 11, 3) := by decide +kernel
theorem d1_32 : decode prog_48_method_1_code 32 = .ok (.pop, 1) := by decide +kernel
theorem d1_33 : decode prog_48_method_1_code 33 = .ok (.aload 7, 2) := by decide +kernel
theorem d1_35 : decode prog_48_method_1_code 35 = .ok (.ldc 23, 2) := by decide +kernel
theorem d1_37 : decode prog_48_method_1_code 37 = .ok (.invokestatic 11, 3) := by decide +kernel
theorem d1_40 : decode prog_48_method_1_code 40 = .ok (.pop, 1) := by decide +kernel
theorem d1_41 : decode prog_48_method_1_code 41 = .ok (.aload 6, 2) := by decide +kernel
theorem d1_43 : decode prog_48_method_1_code 43 = .ok (.getstatic 25, 3) := by decide +kernel
theorem d1_46 : decode prog_48_method_1_code 46 = .ok (.if_acmp .eq 19, 3) := by decide +kernel
theorem d1_49 : decode prog_48_method_1_code 49 = .ok (.aload 7, 2) := by decide +kernel
theorem d1_51 : decode prog_48_method_1_code 51 = .ok (.arraylength, 1) := by decide +kernel
theorem d1_52 : decode prog_48_method_1_code 52 = .ok (.ifCond .le 13, 3) := by decide +kernel
theorem d1_65 : decode prog_48_method_1_code 65 = .ok (.aload 6, 2) := by decide +kernel
theorem d1_67 : decode prog_48_method_1_code 67 = .ok (.getstatic 38, 3) := by decide +kernel
theorem d1_70 : decode prog_48_method_1_code 70 = .ok (.if_acmp .ne 18, 3) := by decide +kernel
theorem d1_73 : decode prog_48_method_1_code 73 = .ok (.aload_n 3, 1) := by decide +kernel
theorem d1_74 : decode prog_48_method_1_code 74 = .ok (.arraylength, 1) := by decide +kernel
theorem d1_75 : decode prog_48_method_1_code 75 = .ok (.ifCond .le 13, 3) := by decide +kernel
theorem d1_88 : decode prog_48_method_1_code 88 = .ok (.aload_n 0, 1) := by decide +kernel
theorem d1_89 : decode prog_48_method_1_code 89 = .ok (.aload_n 1, 1) := by decide +kernel
theorem d1_90 : decode prog_48_method_1_code 90 = .ok (.putfield 43, 3) := by decide +kernel
theorem d1_93 : decode prog_48_method_1_code 93 = .ok (.aload_n 0, 1) := by decide +kernel
theorem d1_94 : decode prog_48_method_1_code 94 = .ok (.aload_n 2, 1) := by decide +kernel
theorem d1_95 : decode prog_48_method_1_code 95 = .ok (.putfield 48, 3) := by decide +kernel
theorem d1_98 : decode prog_48_method_1_code 98 = .ok (.aload_n 0, 1) := by decide +kernel
theorem d1_99 : decode prog_48_method_1_code 99 = .ok (.aload_n 3, 1) := by decide +kernel
theorem d1_100 : decode prog_48_method_1_code 100 = .ok (.putfield 50, 3) := by decide +kernel
theorem d1_103 : decode prog_48_method_1_code 103 = .ok (.aload_n 0, 1) := by decide +kernel
theorem d1_104 : decode prog_48_method_1_code 104 = .ok (.lload 4, 2) := by decide +kernel
theorem d1_106 : decode prog_48_method_1_code 106 = .ok (.putfield 52, 3) := by decide +kernel
theorem d1_109 : decode prog_48_method_1_code 109 = .ok (.aload_n 0, 1) := by decide +kernel
theorem d1_110 : decode prog_48_method_1_code 110 = .ok (.aload 6, 2) := by decide +kernel
theorem d1_112 : decode prog_48_method_1_code 112 = .ok (.putfield 56, 3) := by decide +kernel
theorem d1_115 : decode prog_48_method_1_code 115 = .ok (.aload_n 0, 1) := by decide +kernel
theorem d1_116 : decode prog_48_method_1_code 116 = .ok (.aload 7, 2) := by decide +kernel
theorem d1_118 : decode prog_48_method_1_code 118 = .ok (.putfield 58, 3) := by decide +kernel
theorem d1_121 : decode prog_48_method_1_code 121 = .ok (.return_, 1) := by decide +kernel
theorem pn_com_example_hylly_hylly_store_Cell : plainName "com/example/hylly/hylly/store/Cell" = true := by first | (simp [plainName, overriddenIn]; done) | decide +kernel
set_option maxRecDepth 65536 in
set_option maxHeartbeats 40000000 in
theorem cI (l : Launch) (Z : State) (a0 : Array Value) (hw : ∀ d ∈ tables_1, d.before a0 Z = true) {V : oVw} (a : Addr) (y1 : Addr) (y2 : Addr) (y3 : Addr) (y4 : Int64) (y5 : Addr) (y6 : Addr) (bP : Addr) (bF : Addr) (nq : Int32) (nv : Int32) {i : Nat} (hi : V[i]? = some (a, (.inl ("com/example/hylly/hylly/store/Cell", [("com/example/hylly/hylly/store/Cell", "row", "[B", .null), ("com/example/hylly/hylly/store/Cell", "family", "[B", .null), ("com/example/hylly/hylly/store/Cell", "qualifier", "[B", .null), ("com/example/hylly/hylly/store/Cell", "timestamp", "J", (.long (0 : Int64))), ("com/example/hylly/hylly/store/Cell", "type", "Lcom/example/hylly/hylly/store/Cell$Type;", .null), ("com/example/hylly/hylly/store/Cell", "value", "[B", .null)])))) (SP : Sta Z Z.heap "com/example/hylly/hylly/store/Cell$Type" "PUT" "Lcom/example/hylly/hylly/store/Cell$Type;" (.ref bP)) (SF : Sta Z Z.heap "com/example/hylly/hylly/store/Cell$Type" "DELETE_FAMILY" "Lcom/example/hylly/hylly/store/Cell$Type;" (.ref bF)) (Lq : oLn Z V y3 nq) (Lv : oLn Z V y6 nv) (hv : ¬ y5 = bP → ¬ 0 < nv) (hq : y5 = bF → ¬ 0 < nq) :
    oCon l Z (⟨"com/example/hylly/hylly/store/Cell", "<init>", "([B[B[BJLcom/example/hylly/hylly/store/Cell$Type;[B)V"⟩ : MethodName) prog_48_method_1_code 8 none ({ frames := 2, cells := 10, slots := 128, locals := 24 } : Room) #[(.ref a), (.ref y1), (.ref y2), (.ref y3), (.long y4), (.ref y5), (.ref y6)] V (fun v V' => v = none ∧ V' = V.set i (a, (.inl ("com/example/hylly/hylly/store/Cell", [("com/example/hylly/hylly/store/Cell", "row", "[B", (.ref y1)), ("com/example/hylly/hylly/store/Cell", "family", "[B", (.ref y2)), ("com/example/hylly/hylly/store/Cell", "qualifier", "[B", (.ref y3)), ("com/example/hylly/hylly/store/Cell", "timestamp", "J", (.long y4)), ("com/example/hylly/hylly/store/Cell", "type", "Lcom/example/hylly/hylly/store/Cell$Type;", (.ref y5)), ("com/example/hylly/hylly/store/Cell", "value", "[B", (.ref y6))])))) := by
  refine oEnter (plainFor_of_name pn_com_example_hylly_hylly_store_Cell) (Ls := #[.val (.ref a), .val (.ref y1), .val (.ref y2), .val (.ref y3), .val (.long y4), .second, .val (.ref y5), .val (.ref y6)]) (fun m => by first | (simp [entryFrame, mkF, argsToLocals, Value.category]; done) | rfl) ?_
  intro p e s m below meth c T E X
  refine gAloadN E X d1_0 rfl rfl (q := 1) rfl ?_
  refine gCallI E X (W := 0) (c2 := 0) (s2 := 0) (a := a) [] [] d1_1 rfl (hw _ (List.mem_of_getElem? (i := 12) rfl)) (hw _ (List.mem_of_getElem? (i := 13) rfl)) (hw _ (List.mem_of_getElem? (i := 15) rfl)) (hw _ (List.mem_of_getElem? (i := 16) rfl)) (by decide) (cR l Z a0 hw a) pd_0 rfl rfl rfl (by decide) (Nat.le_of_eq rfl) (by decide) (by decide) (by decide) (by decide) (by decide) (q := 4) rfl ?_
  intro T1 v1 V1 R1 X1
  obtain ⟨rfl, eQ1⟩ := R1
  rw [eQ1] at X1
  show oG p e below s Z ({ frames := 2, cells := 10, slots := 128, locals := 24 } : Room) (fun v V' => v = none ∧ V' = V.set i (a, (.inl ("com/example/hylly/hylly/store/Cell", [("com/example/hylly/hylly/store/Cell", "row", "[B", (.ref y1)), ("com/example/hylly/hylly/store/Cell", "family", "[B", (.ref y2)), ("com/example/hylly/hylly/store/Cell", "qualifier", "[B", (.ref y3)), ("com/example/hylly/hylly/store/Cell", "timestamp", "J", (.long y4)), ("com/example/hylly/hylly/store/Cell", "type", "Lcom/example/hylly/hylly/store/Cell$Type;", (.ref y5)), ("com/example/hylly/hylly/store/Cell", "value", "[B", (.ref y6))])))) T1 (mkF m 4 #[.val (.ref a), .val (.ref y1), .val (.ref y2), .val (.ref y3), .val (.long y4), .second, .val (.ref y5), .val (.ref y6)] [])
  refine gAloadN E X1 d1_4 rfl rfl (q := 5) rfl ?_
  refine gLdcS E X1 (c2 := 2) (s2 := 16) (n := 12) d1_5 (hw _ (List.mem_of_getElem? (i := 20) rfl)) (own_str hw) (by decide) (by decide) (by decide) (by decide) (by decide) (by decide) (q := 7) rfl ?_
  intro T2 a2 X2
  refine gCallS E X2 (W := 0) (c2 := 2) (s2 := 16) [(.ref y1), (.ref a2)] [] d1_7 (hw _ (List.mem_of_getElem? (i := 27) rfl)) (hw _ (List.mem_of_getElem? (i := 28) rfl)) (hw _ (List.mem_of_getElem? (i := 29) rfl)) (hw _ (List.mem_of_getElem? (i := 30) rfl)) (by decide) (cQ l Z a0 hw y1 a2) pd_1 rfl rfl rfl (by decide) (Nat.le_of_eq rfl) (by decide) (by decide) (by decide) (by decide) (by decide) (q := 10) rfl ?_
  intro T3 v3 V3 R3 X3
  obtain ⟨rfl, eQ3⟩ := R3
  rw [eQ3] at X3
  show oG p e below s Z ({ frames := 2, cells := 10, slots := 128, locals := 24 } : Room) (fun v V' => v = none ∧ V' = V.set i (a, (.inl ("com/example/hylly/hylly/store/Cell", [("com/example/hylly/hylly/store/Cell", "row", "[B", (.ref y1)), ("com/example/hylly/hylly/store/Cell", "family", "[B", (.ref y2)), ("com/example/hylly/hylly/store/Cell", "qualifier", "[B", (.ref y3)), ("com/example/hylly/hylly/store/Cell", "timestamp", "J", (.long y4)), ("com/example/hylly/hylly/store/Cell", "type", "Lcom/example/hylly/hylly/store/Cell$Type;", (.ref y5)), ("com/example/hylly/hylly/store/Cell", "value", "[B", (.ref y6))])))) T3 (mkF m 10 #[.val (.ref a), .val (.ref y1), .val (.ref y2), .val (.ref y3), .val (.long y4), .second, .val (.ref y5), .val (.ref y6)] [(.ref y1)])
  refine gPop E X3 d1_10 rfl (q := 11) rfl ?_
  refine gAloadN E X3 d1_11 rfl rfl (q := 12) rfl ?_
  refine gLdcS E X3 (c2 := 4) (s2 := 44) (n := 24) d1_12 (hw _ (List.mem_of_getElem? (i := 31) rfl)) (own_str hw) (by decide) (by decide) (by decide) (by decide) (by decide) (by decide) (q := 14) rfl ?_
  intro T4 a4 X4
  refine gCallS E X4 (W := 0) (c2 := 4) (s2 := 44) [(.ref y2), (.ref a4)] [] d1_14 (hw _ (List.mem_of_getElem? (i := 27) rfl)) (hw _ (List.mem_of_getElem? (i := 28) rfl)) (hw _ (List.mem_of_getElem? (i := 29) rfl)) (hw _ (List.mem_of_getElem? (i := 30) rfl)) (by decide) (cQ l Z a0 hw y2 a4) pd_1 rfl rfl rfl (by decide) (Nat.le_of_eq rfl) (by decide) (by decide) (by decide) (by decide) (by decide) (q := 17) rfl ?_
  intro T5 v5 V5 R5 X5
  obtain ⟨rfl, eQ5⟩ := R5
  rw [eQ5] at X5
  show oG p e below s Z ({ frames := 2, cells := 10, slots := 128, locals := 24 } : Room) (fun v V' => v = none ∧ V' = V.set i (a, (.inl ("com/example/hylly/hylly/store/Cell", [("com/example/hylly/hylly/store/Cell", "row", "[B", (.ref y1)), ("com/example/hylly/hylly/store/Cell", "family", "[B", (.ref y2)), ("com/example/hylly/hylly/store/Cell", "qualifier", "[B", (.ref y3)), ("com/example/hylly/hylly/store/Cell", "timestamp", "J", (.long y4)), ("com/example/hylly/hylly/store/Cell", "type", "Lcom/example/hylly/hylly/store/Cell$Type;", (.ref y5)), ("com/example/hylly/hylly/store/Cell", "value", "[B", (.ref y6))])))) T5 (mkF m 17 #[.val (.ref a), .val (.ref y1), .val (.ref y2), .val (.ref y3), .val (.long y4), .second, .val (.ref y5), .val (.ref y6)] [(.ref y2)])
  refine gPop E X5 d1_17 rfl (q := 18) rfl ?_
  refine gAloadN E X5 d1_18 rfl rfl (q := 19) rfl ?_
  refine gLdcS E X5 (c2 := 6) (s2 := 84) (n := 36) d1_19 (hw _ (List.mem_of_getElem? (i := 32) rfl)) (own_str hw) (by decide) (by decide) (by decide) (by decide) (by decide) (by decide) (q := 21) rfl ?_
  intro T6 a6 X6
  refine gCallS E X6 (W := 0) (c2 := 6) (s2 := 84) [(.ref y3), (.ref a6)] [] d1_21 (hw _ (List.mem_of_getElem? (i := 27) rfl)) (hw _ (List.mem_of_getElem? (i := 28) rfl)) (hw _ (List.mem_of_getElem? (i := 29) rfl)) (hw _ (List.mem_of_getElem? (i := 30) rfl)) (by decide) (cQ l Z a0 hw y3 a6) pd_1 rfl rfl rfl (by decide) (Nat.le_of_eq rfl) (by decide) (by decide) (by decide) (by decide) (by decide) (q := 24) rfl ?_
  intro T7 v7 V7 R7 X7
  obtain ⟨rfl, eQ7⟩ := R7
  rw [eQ7] at X7
  show oG p e below s Z ({ frames := 2, cells := 10, slots := 128, locals := 24 } : Room) (fun v V' => v = none ∧ V' = V.set i (a, (.inl ("com/example/hylly/hylly/store/Cell", [("com/example/hylly/hylly/store/Cell", "row", "[B", (.ref y1)), ("com/example/hylly/hylly/store/Cell", "family", "[B", (.ref y2)), ("com/example/hylly/hylly/store/Cell", "qualifier", "[B", (.ref y3)), ("com/example/hylly/hylly/store/Cell", "timestamp", "J", (.long y4)), ("com/example/hylly/hylly/store/Cell", "type", "Lcom/example/hylly/hylly/store/Cell$Type;", (.ref y5)), ("com/example/hylly/hylly/store/Cell", "value", "[B", (.ref y6))])))) T7 (mkF m 24 #[.val (.ref a), .val (.ref y1), .val (.ref y2), .val (.ref y3), .val (.long y4), .second, .val (.ref y5), .val (.ref y6)] [(.ref y3)])
  refine gPop E X7 d1_24 rfl (q := 25) rfl ?_
  refine gAload E X7 d1_25 rfl rfl (q := 27) rfl ?_
  refine gLdcS E X7 (c2 := 8) (s2 := 104) (n := 16) d1_27 (hw _ (List.mem_of_getElem? (i := 33) rfl)) (own_str hw) (by decide) (by decide) (by decide) (by decide) (by decide) (by decide) (q := 29) rfl ?_
  intro T8 a8 X8
  refine gCallS E X8 (W := 0) (c2 := 8) (s2 := 104) [(.ref y5), (.ref a8)] [] d1_29 (hw _ (List.mem_of_getElem? (i := 27) rfl)) (hw _ (List.mem_of_getElem? (i := 28) rfl)) (hw _ (List.mem_of_getElem? (i := 29) rfl)) (hw _ (List.mem_of_getElem? (i := 30) rfl)) (by decide) (cQ l Z a0 hw y5 a8) pd_1 rfl rfl rfl (by decide) (Nat.le_of_eq rfl) (by decide) (by decide) (by decide) (by decide) (by decide) (q := 32) rfl ?_
  intro T9 v9 V9 R9 X9
  obtain ⟨rfl, eQ9⟩ := R9
  rw [eQ9] at X9
  show oG p e below s Z ({ frames := 2, cells := 10, slots := 128, locals := 24 } : Room) (fun v V' => v = none ∧ V' = V.set i (a, (.inl ("com/example/hylly/hylly/store/Cell", [("com/example/hylly/hylly/store/Cell", "row", "[B", (.ref y1)), ("com/example/hylly/hylly/store/Cell", "family", "[B", (.ref y2)), ("com/example/hylly/hylly/store/Cell", "qualifier", "[B", (.ref y3)), ("com/example/hylly/hylly/store/Cell", "timestamp", "J", (.long y4)), ("com/example/hylly/hylly/store/Cell", "type", "Lcom/example/hylly/hylly/store/Cell$Type;", (.ref y5)), ("com/example/hylly/hylly/store/Cell", "value", "[B", (.ref y6))])))) T9 (mkF m 32 #[.val (.ref a), .val (.ref y1), .val (.ref y2), .val (.ref y3), .val (.long y4), .second, .val (.ref y5), .val (.ref y6)] [(.ref y5)])
  refine gPop E X9 d1_32 rfl (q := 33) rfl ?_
  refine gAload E X9 d1_33 rfl rfl (q := 35) rfl ?_
  refine gLdcS E X9 (c2 := 10) (s2 := 128) (n := 20) d1_35 (hw _ (List.mem_of_getElem? (i := 34) rfl)) (own_str hw) (by decide) (by decide) (by decide) (by decide) (by decide) (by decide) (q := 37) rfl ?_
  intro T10 a10 X10
  refine gCallS E X10 (W := 0) (c2 := 10) (s2 := 128) [(.ref y6), (.ref a10)] [] d1_37 (hw _ (List.mem_of_getElem? (i := 27) rfl)) (hw _ (List.mem_of_getElem? (i := 28) rfl)) (hw _ (List.mem_of_getElem? (i := 29) rfl)) (hw _ (List.mem_of_getElem? (i := 30) rfl)) (by decide) (cQ l Z a0 hw y6 a10) pd_1 rfl rfl rfl (by decide) (Nat.le_of_eq rfl) (by decide) (by decide) (by decide) (by decide) (by decide) (q := 40) rfl ?_
  intro T11 v11 V11 R11 X11
  obtain ⟨rfl, eQ11⟩ := R11
  rw [eQ11] at X11
  show oG p e below s Z ({ frames := 2, cells := 10, slots := 128, locals := 24 } : Room) (fun v V' => v = none ∧ V' = V.set i (a, (.inl ("com/example/hylly/hylly/store/Cell", [("com/example/hylly/hylly/store/Cell", "row", "[B", (.ref y1)), ("com/example/hylly/hylly/store/Cell", "family", "[B", (.ref y2)), ("com/example/hylly/hylly/store/Cell", "qualifier", "[B", (.ref y3)), ("com/example/hylly/hylly/store/Cell", "timestamp", "J", (.long y4)), ("com/example/hylly/hylly/store/Cell", "type", "Lcom/example/hylly/hylly/store/Cell$Type;", (.ref y5)), ("com/example/hylly/hylly/store/Cell", "value", "[B", (.ref y6))])))) T11 (mkF m 40 #[.val (.ref a), .val (.ref y1), .val (.ref y2), .val (.ref y3), .val (.long y4), .second, .val (.ref y5), .val (.ref y6)] [(.ref y6)])
  refine gPop E X11 d1_40 rfl (q := 41) rfl ?_
  refine gAload E X11 d1_41 rfl rfl (q := 43) rfl ?_
  refine gGetS E X11 d1_43 (hw _ (List.mem_of_getElem? (i := 35) rfl)) Via.refl SP (q := 46) rfl ?_
  intro T12 X12
  refine gAc_eq E X12 rfl rfl d1_46 (by decide) (q := 65) (by decide) (q' := 49) rfl (fun h46 => ?_) (fun h46 => ?_)
  · refine gAload E X12 d1_65 rfl rfl (q := 67) rfl ?_
    refine gGetS E X12 d1_67 (hw _ (List.mem_of_getElem? (i := 36) rfl)) Via.refl SF (q := 70) rfl ?_
    intro T13 X13
    refine gAc_ne E X13 rfl rfl d1_70 (by decide) (q := 88) (by decide) (q' := 73) rfl (fun h70 => ?_) (fun h70 => ?_)
    · refine gAloadN E X13 d1_88 rfl rfl (q := 89) rfl ?_
      refine gAloadN E X13 d1_89 rfl rfl (q := 90) rfl ?_
      refine gPutF E X13 d1_90 (hw _ (List.mem_of_getElem? (i := 37) rfl)) Via.refl (i := i) hi (j := 0) rfl (Or.inr ⟨(hw _ (List.mem_of_getElem? (i := 38) rfl)), rfl, rfl⟩) (hw _ (List.mem_of_getElem? (i := 6) rfl)) (ty := (.array .byte)) (by decide) rfl rfl (V' := (V.set i (a, (.inl ("com/example/hylly/hylly/store/Cell", [("com/example/hylly/hylly/store/Cell", "row", "[B", (.ref y1)), ("com/example/hylly/hylly/store/Cell", "family", "[B", .null), ("com/example/hylly/hylly/store/Cell", "qualifier", "[B", .null), ("com/example/hylly/hylly/store/Cell", "timestamp", "J", (.long (0 : Int64))), ("com/example/hylly/hylly/store/Cell", "type", "Lcom/example/hylly/hylly/store/Cell$Type;", .null), ("com/example/hylly/hylly/store/Cell", "value", "[B", .null)]))))) rfl (q := 93) rfl ?_
      intro T14 X14
      obtain ⟨V14, eV14⟩ : ∃ z, z = (V.set i (a, (.inl ("com/example/hylly/hylly/store/Cell", [("com/example/hylly/hylly/store/Cell", "row", "[B", (.ref y1)), ("com/example/hylly/hylly/store/Cell", "family", "[B", .null), ("com/example/hylly/hylly/store/Cell", "qualifier", "[B", .null), ("com/example/hylly/hylly/store/Cell", "timestamp", "J", (.long (0 : Int64))), ("com/example/hylly/hylly/store/Cell", "type", "Lcom/example/hylly/hylly/store/Cell$Type;", .null), ("com/example/hylly/hylly/store/Cell", "value", "[B", .null)])))) := ⟨_, rfl⟩
      rw [← eV14] at X14
      have i14_0 := (eV14 ▸ oSetGet hi : V14[i]? = some (a, (.inl ("com/example/hylly/hylly/store/Cell", [("com/example/hylly/hylly/store/Cell", "row", "[B", (.ref y1)), ("com/example/hylly/hylly/store/Cell", "family", "[B", .null), ("com/example/hylly/hylly/store/Cell", "qualifier", "[B", .null), ("com/example/hylly/hylly/store/Cell", "timestamp", "J", (.long (0 : Int64))), ("com/example/hylly/hylly/store/Cell", "type", "Lcom/example/hylly/hylly/store/Cell$Type;", .null), ("com/example/hylly/hylly/store/Cell", "value", "[B", .null)]))))
      have ln14_0 : oLn Z V14 y3 nq := eV14 ▸ oLn.set Lq hi
      have ln14_1 : oLn Z V14 y6 nv := eV14 ▸ oLn.set Lv hi
      refine gAloadN E X14 d1_93 rfl rfl (q := 94) rfl ?_
      refine gAloadN E X14 d1_94 rfl rfl (q := 95) rfl ?_
      refine gPutF E X14 d1_95 (hw _ (List.mem_of_getElem? (i := 39) rfl)) Via.refl (i := i) i14_0 (j := 1) rfl (Or.inr ⟨(hw _ (List.mem_of_getElem? (i := 40) rfl)), rfl, rfl⟩) (hw _ (List.mem_of_getElem? (i := 6) rfl)) (ty := (.array .byte)) (by decide) rfl rfl (V' := (V14.set i (a, (.inl ("com/example/hylly/hylly/store/Cell", [("com/example/hylly/hylly/store/Cell", "row", "[B", (.ref y1)), ("com/example/hylly/hylly/store/Cell", "family", "[B", (.ref y2)), ("com/example/hylly/hylly/store/Cell", "qualifier", "[B", .null), ("com/example/hylly/hylly/store/Cell", "timestamp", "J", (.long (0 : Int64))), ("com/example/hylly/hylly/store/Cell", "type", "Lcom/example/hylly/hylly/store/Cell$Type;", .null), ("com/example/hylly/hylly/store/Cell", "value", "[B", .null)]))))) rfl (q := 98) rfl ?_
      intro T15 X15
      obtain ⟨V15, eV15⟩ : ∃ z, z = (V14.set i (a, (.inl ("com/example/hylly/hylly/store/Cell", [("com/example/hylly/hylly/store/Cell", "row", "[B", (.ref y1)), ("com/example/hylly/hylly/store/Cell", "family", "[B", (.ref y2)), ("com/example/hylly/hylly/store/Cell", "qualifier", "[B", .null), ("com/example/hylly/hylly/store/Cell", "timestamp", "J", (.long (0 : Int64))), ("com/example/hylly/hylly/store/Cell", "type", "Lcom/example/hylly/hylly/store/Cell$Type;", .null), ("com/example/hylly/hylly/store/Cell", "value", "[B", .null)])))) := ⟨_, rfl⟩
      rw [← eV15] at X15
      have i15_0 := (eV15 ▸ oSetGet i14_0 : V15[i]? = some (a, (.inl ("com/example/hylly/hylly/store/Cell", [("com/example/hylly/hylly/store/Cell", "row", "[B", (.ref y1)), ("com/example/hylly/hylly/store/Cell", "family", "[B", (.ref y2)), ("com/example/hylly/hylly/store/Cell", "qualifier", "[B", .null), ("com/example/hylly/hylly/store/Cell", "timestamp", "J", (.long (0 : Int64))), ("com/example/hylly/hylly/store/Cell", "type", "Lcom/example/hylly/hylly/store/Cell$Type;", .null), ("com/example/hylly/hylly/store/Cell", "value", "[B", .null)]))))
      have ln15_0 : oLn Z V15 y3 nq := eV15 ▸ oLn.set ln14_0 i14_0
      have ln15_1 : oLn Z V15 y6 nv := eV15 ▸ oLn.set ln14_1 i14_0
      refine gAloadN E X15 d1_98 rfl rfl (q := 99) rfl ?_
      refine gAloadN E X15 d1_99 rfl rfl (q := 100) rfl ?_
      refine gPutF E X15 d1_100 (hw _ (List.mem_of_getElem? (i := 41) rfl)) Via.refl (i := i) i15_0 (j := 2) rfl (Or.inr ⟨(hw _ (List.mem_of_getElem? (i := 42) rfl)), rfl, rfl⟩) (hw _ (List.mem_of_getElem? (i := 6) rfl)) (ty := (.array .byte)) (by decide) rfl rfl (V' := (V15.set i (a, (.inl ("com/example/hylly/hylly/store/Cell", [("com/example/hylly/hylly/store/Cell", "row", "[B", (.ref y1)), ("com/example/hylly/hylly/store/Cell", "family", "[B", (.ref y2)), ("com/example/hylly/hylly/store/Cell", "qualifier", "[B", (.ref y3)), ("com/example/hylly/hylly/store/Cell", "timestamp", "J", (.long (0 : Int64))), ("com/example/hylly/hylly/store/Cell", "type", "Lcom/example/hylly/hylly/store/Cell$Type;", .null), ("com/example/hylly/hylly/store/Cell", "value", "[B", .null)]))))) rfl (q := 103) rfl ?_
      intro T16 X16
      obtain ⟨V16, eV16⟩ : ∃ z, z = (V15.set i (a, (.inl ("com/example/hylly/hylly/store/Cell", [("com/example/hylly/hylly/store/Cell", "row", "[B", (.ref y1)), ("com/example/hylly/hylly/store/Cell", "family", "[B", (.ref y2)), ("com/example/hylly/hylly/store/Cell", "qualifier", "[B", (.ref y3)), ("com/example/hylly/hylly/store/Cell", "timestamp", "J", (.long (0 : Int64))), ("com/example/hylly/hylly/store/Cell", "type", "Lcom/example/hylly/hylly/store/Cell$Type;", .null), ("com/example/hylly/hylly/store/Cell", "value", "[B", .null)])))) := ⟨_, rfl⟩
      rw [← eV16] at X16
      have i16_0 := (eV16 ▸ oSetGet i15_0 : V16[i]? = some (a, (.inl ("com/example/hylly/hylly/store/Cell", [("com/example/hylly/hylly/store/Cell", "row", "[B", (.ref y1)), ("com/example/hylly/hylly/store/Cell", "family", "[B", (.ref y2)), ("com/example/hylly/hylly/store/Cell", "qualifier", "[B", (.ref y3)), ("com/example/hylly/hylly/store/Cell", "timestamp", "J", (.long (0 : Int64))), ("com/example/hylly/hylly/store/Cell", "type", "Lcom/example/hylly/hylly/store/Cell$Type;", .null), ("com/example/hylly/hylly/store/Cell", "value", "[B", .null)]))))
      have ln16_0 : oLn Z V16 y3 nq := eV16 ▸ oLn.set ln15_0 i15_0
      have ln16_1 : oLn Z V16 y6 nv := eV16 ▸ oLn.set ln15_1 i15_0
      refine gAloadN E X16 d1_103 rfl rfl (q := 104) rfl ?_
      refine gLload E X16 d1_104 rfl (q := 106) rfl ?_
      refine gPutF E X16 d1_106 (hw _ (List.mem_of_getElem? (i := 43) rfl)) Via.refl (i := i) i16_0 (j := 3) rfl (Or.inr ⟨(hw _ (List.mem_of_getElem? (i := 44) rfl)), rfl, rfl⟩) (hw _ (List.mem_of_getElem? (i := 6) rfl)) (ty := .long) (by decide) rfl rfl (V' := (V16.set i (a, (.inl ("com/example/hylly/hylly/store/Cell", [("com/example/hylly/hylly/store/Cell", "row", "[B", (.ref y1)), ("com/example/hylly/hylly/store/Cell", "family", "[B", (.ref y2)), ("com/example/hylly/hylly/store/Cell", "qualifier", "[B", (.ref y3)), ("com/example/hylly/hylly/store/Cell", "timestamp", "J", (.long y4)), ("com/example/hylly/hylly/store/Cell", "type", "Lcom/example/hylly/hylly/store/Cell$Type;", .null), ("com/example/hylly/hylly/store/Cell", "value", "[B", .null)]))))) rfl (q := 109) rfl ?_
      intro T17 X17
      obtain ⟨V17, eV17⟩ : ∃ z, z = (V16.set i (a, (.inl ("com/example/hylly/hylly/store/Cell", [("com/example/hylly/hylly/store/Cell", "row", "[B", (.ref y1)), ("com/example/hylly/hylly/store/Cell", "family", "[B", (.ref y2)), ("com/example/hylly/hylly/store/Cell", "qualifier", "[B", (.ref y3)), ("com/example/hylly/hylly/store/Cell", "timestamp", "J", (.long y4)), ("com/example/hylly/hylly/store/Cell", "type", "Lcom/example/hylly/hylly/store/Cell$Type;", .null), ("com/example/hylly/hylly/store/Cell", "value", "[B", .null)])))) := ⟨_, rfl⟩
      rw [← eV17] at X17
      have i17_0 := (eV17 ▸ oSetGet i16_0 : V17[i]? = some (a, (.inl ("com/example/hylly/hylly/store/Cell", [("com/example/hylly/hylly/store/Cell", "row", "[B", (.ref y1)), ("com/example/hylly/hylly/store/Cell", "family", "[B", (.ref y2)), ("com/example/hylly/hylly/store/Cell", "qualifier", "[B", (.ref y3)), ("com/example/hylly/hylly/store/Cell", "timestamp", "J", (.long y4)), ("com/example/hylly/hylly/store/Cell", "type", "Lcom/example/hylly/hylly/store/Cell$Type;", .null), ("com/example/hylly/hylly/store/Cell", "value", "[B", .null)]))))
      have ln17_0 : oLn Z V17 y3 nq := eV17 ▸ oLn.set ln16_0 i16_0
      have ln17_1 : oLn Z V17 y6 nv := eV17 ▸ oLn.set ln16_1 i16_0
      refine gAloadN E X17 d1_109 rfl rfl (q := 110) rfl ?_
      refine gAload E X17 d1_110 rfl rfl (q := 112) rfl ?_
      refine gPutF E X17 d1_112 (hw _ (List.mem_of_getElem? (i := 45) rfl)) Via.refl (i := i) i17_0 (j := 4) rfl (Or.inr ⟨(hw _ (List.mem_of_getElem? (i := 46) rfl)), rfl, rfl⟩) (hw _ (List.mem_of_getElem? (i := 6) rfl)) (ty := (.object "com/example/hylly/hylly/store/Cell$Type")) (by decide) rfl rfl (V' := (V17.set i (a, (.inl ("com/example/hylly/hylly/store/Cell", [("com/example/hylly/hylly/store/Cell", "row", "[B", (.ref y1)), ("com/example/hylly/hylly/store/Cell", "family", "[B", (.ref y2)), ("com/example/hylly/hylly/store/Cell", "qualifier", "[B", (.ref y3)), ("com/example/hylly/hylly/store/Cell", "timestamp", "J", (.long y4)), ("com/example/hylly/hylly/store/Cell", "type", "Lcom/example/hylly/hylly/store/Cell$Type;", (.ref y5)), ("com/example/hylly/hylly/store/Cell", "value", "[B", .null)]))))) rfl (q := 115) rfl ?_
      intro T18 X18
      obtain ⟨V18, eV18⟩ : ∃ z, z = (V17.set i (a, (.inl ("com/example/hylly/hylly/store/Cell", [("com/example/hylly/hylly/store/Cell", "row", "[B", (.ref y1)), ("com/example/hylly/hylly/store/Cell", "family", "[B", (.ref y2)), ("com/example/hylly/hylly/store/Cell", "qualifier", "[B", (.ref y3)), ("com/example/hylly/hylly/store/Cell", "timestamp", "J", (.long y4)), ("com/example/hylly/hylly/store/Cell", "type", "Lcom/example/hylly/hylly/store/Cell$Type;", (.ref y5)), ("com/example/hylly/hylly/store/Cell", "value", "[B", .null)])))) := ⟨_, rfl⟩
      rw [← eV18] at X18
      have i18_0 := (eV18 ▸ oSetGet i17_0 : V18[i]? = some (a, (.inl ("com/example/hylly/hylly/store/Cell", [("com/example/hylly/hylly/store/Cell", "row", "[B", (.ref y1)), ("com/example/hylly/hylly/store/Cell", "family", "[B", (.ref y2)), ("com/example/hylly/hylly/store/Cell", "qualifier", "[B", (.ref y3)), ("com/example/hylly/hylly/store/Cell", "timestamp", "J", (.long y4)), ("com/example/hylly/hylly/store/Cell", "type", "Lcom/example/hylly/hylly/store/Cell$Type;", (.ref y5)), ("com/example/hylly/hylly/store/Cell", "value", "[B", .null)]))))
      have ln18_0 : oLn Z V18 y3 nq := eV18 ▸ oLn.set ln17_0 i17_0
      have ln18_1 : oLn Z V18 y6 nv := eV18 ▸ oLn.set ln17_1 i17_0
      refine gAloadN E X18 d1_115 rfl rfl (q := 116) rfl ?_
      refine gAload E X18 d1_116 rfl rfl (q := 118) rfl ?_
      refine gPutF E X18 d1_118 (hw _ (List.mem_of_getElem? (i := 47) rfl)) Via.refl (i := i) i18_0 (j := 5) rfl (Or.inr ⟨(hw _ (List.mem_of_getElem? (i := 48) rfl)), rfl, rfl⟩) (hw _ (List.mem_of_getElem? (i := 6) rfl)) (ty := (.array .byte)) (by decide) rfl rfl (V' := (V18.set i (a, (.inl ("com/example/hylly/hylly/store/Cell", [("com/example/hylly/hylly/store/Cell", "row", "[B", (.ref y1)), ("com/example/hylly/hylly/store/Cell", "family", "[B", (.ref y2)), ("com/example/hylly/hylly/store/Cell", "qualifier", "[B", (.ref y3)), ("com/example/hylly/hylly/store/Cell", "timestamp", "J", (.long y4)), ("com/example/hylly/hylly/store/Cell", "type", "Lcom/example/hylly/hylly/store/Cell$Type;", (.ref y5)), ("com/example/hylly/hylly/store/Cell", "value", "[B", (.ref y6))]))))) rfl (q := 121) rfl ?_
      intro T19 X19
      obtain ⟨V19, eV19⟩ : ∃ z, z = (V18.set i (a, (.inl ("com/example/hylly/hylly/store/Cell", [("com/example/hylly/hylly/store/Cell", "row", "[B", (.ref y1)), ("com/example/hylly/hylly/store/Cell", "family", "[B", (.ref y2)), ("com/example/hylly/hylly/store/Cell", "qualifier", "[B", (.ref y3)), ("com/example/hylly/hylly/store/Cell", "timestamp", "J", (.long y4)), ("com/example/hylly/hylly/store/Cell", "type", "Lcom/example/hylly/hylly/store/Cell$Type;", (.ref y5)), ("com/example/hylly/hylly/store/Cell", "value", "[B", (.ref y6))])))) := ⟨_, rfl⟩
      rw [← eV19] at X19
      have i19_0 := (eV19 ▸ oSetGet i18_0 : V19[i]? = some (a, (.inl ("com/example/hylly/hylly/store/Cell", [("com/example/hylly/hylly/store/Cell", "row", "[B", (.ref y1)), ("com/example/hylly/hylly/store/Cell", "family", "[B", (.ref y2)), ("com/example/hylly/hylly/store/Cell", "qualifier", "[B", (.ref y3)), ("com/example/hylly/hylly/store/Cell", "timestamp", "J", (.long y4)), ("com/example/hylly/hylly/store/Cell", "type", "Lcom/example/hylly/hylly/store/Cell$Type;", (.ref y5)), ("com/example/hylly/hylly/store/Cell", "value", "[B", (.ref y6))]))))
      have ln19_0 : oLn Z V19 y3 nq := eV19 ▸ oLn.set ln18_0 i18_0
      have ln19_1 : oLn Z V19 y6 nv := eV19 ▸ oLn.set ln18_1 i18_0
      exact gRetV E X19 d1_121 (by decide) (by decide) (⟨rfl, by simp only [eV19, eV18, eV17, eV16, eV15, eV14, List.set_set]⟩)
    · refine gAloadN E X13 d1_73 rfl rfl (q := 74) rfl ?_
      refine gLenG E X13 (z := nq) d1_74 Lq (q := 75) rfl ?_
      refine gIf_le E X13 d1_75 (by decide) (q := 88) (by decide) (q' := 78) rfl (fun h75 => ?_) (fun h75 => by exfalso; exact hq (by cases h70; rfl) h75)
      refine gAloadN E X13 d1_88 rfl rfl (q := 89) rfl ?_
      refine gAloadN E X13 d1_89 rfl rfl (q := 90) rfl ?_
      refine gPutF E X13 d1_90 (hw _ (List.mem_of_getElem? (i := 37) rfl)) Via.refl (i := i) hi (j := 0) rfl (Or.inr ⟨(hw _ (List.mem_of_getElem? (i := 38) rfl)), rfl, rfl⟩) (hw _ (List.mem_of_getElem? (i := 6) rfl)) (ty := (.array .byte)) (by decide) rfl rfl (V' := (V.set i (a, (.inl ("com/example/hylly/hylly/store/Cell", [("com/example/hylly/hylly/store/Cell", "row", "[B", (.ref y1)), ("com/example/hylly/hylly/store/Cell", "family", "[B", .null), ("com/example/hylly/hylly/store/Cell", "qualifier", "[B", .null), ("com/example/hylly/hylly/store/Cell", "timestamp", "J", (.long (0 : Int64))), ("com/example/hylly/hylly/store/Cell", "type", "Lcom/example/hylly/hylly/store/Cell$Type;", .null), ("com/example/hylly/hylly/store/Cell", "value", "[B", .null)]))))) rfl (q := 93) rfl ?_
      intro T20 X20
      obtain ⟨V20, eV20⟩ : ∃ z, z = (V.set i (a, (.inl ("com/example/hylly/hylly/store/Cell", [("com/example/hylly/hylly/store/Cell", "row", "[B", (.ref y1)), ("com/example/hylly/hylly/store/Cell", "family", "[B", .null), ("com/example/hylly/hylly/store/Cell", "qualifier", "[B", .null), ("com/example/hylly/hylly/store/Cell", "timestamp", "J", (.long (0 : Int64))), ("com/example/hylly/hylly/store/Cell", "type", "Lcom/example/hylly/hylly/store/Cell$Type;", .null), ("com/example/hylly/hylly/store/Cell", "value", "[B", .null)])))) := ⟨_, rfl⟩
      rw [← eV20] at X20
      have i20_0 := (eV20 ▸ oSetGet hi : V20[i]? = some (a, (.inl ("com/example/hylly/hylly/store/Cell", [("com/example/hylly/hylly/store/Cell", "row", "[B", (.ref y1)), ("com/example/hylly/hylly/store/Cell", "family", "[B", .null), ("com/example/hylly/hylly/store/Cell", "qualifier", "[B", .null), ("com/example/hylly/hylly/store/Cell", "timestamp", "J", (.long (0 : Int64))), ("com/example/hylly/hylly/store/Cell", "type", "Lcom/example/hylly/hylly/store/Cell$Type;", .null), ("com/example/hylly/hylly/store/Cell", "value", "[B", .null)]))))
      have ln20_0 : oLn Z V20 y3 nq := eV20 ▸ oLn.set Lq hi
      have ln20_1 : oLn Z V20 y6 nv := eV20 ▸ oLn.set Lv hi
      refine gAloadN E X20 d1_93 rfl rfl (q := 94) rfl ?_
      refine gAloadN E X20 d1_94 rfl rfl (q := 95) rfl ?_
      refine gPutF E X20 d1_95 (hw _ (List.mem_of_getElem? (i := 39) rfl)) Via.refl (i := i) i20_0 (j := 1) rfl (Or.inr ⟨(hw _ (List.mem_of_getElem? (i := 40) rfl)), rfl, rfl⟩) (hw _ (List.mem_of_getElem? (i := 6) rfl)) (ty := (.array .byte)) (by decide) rfl rfl (V' := (V20.set i (a, (.inl ("com/example/hylly/hylly/store/Cell", [("com/example/hylly/hylly/store/Cell", "row", "[B", (.ref y1)), ("com/example/hylly/hylly/store/Cell", "family", "[B", (.ref y2)), ("com/example/hylly/hylly/store/Cell", "qualifier", "[B", .null), ("com/example/hylly/hylly/store/Cell", "timestamp", "J", (.long (0 : Int64))), ("com/example/hylly/hylly/store/Cell", "type", "Lcom/example/hylly/hylly/store/Cell$Type;", .null), ("com/example/hylly/hylly/store/Cell", "value", "[B", .null)]))))) rfl (q := 98) rfl ?_
      intro T21 X21
      obtain ⟨V21, eV21⟩ : ∃ z, z = (V20.set i (a, (.inl ("com/example/hylly/hylly/store/Cell", [("com/example/hylly/hylly/store/Cell", "row", "[B", (.ref y1)), ("com/example/hylly/hylly/store/Cell", "family", "[B", (.ref y2)), ("com/example/hylly/hylly/store/Cell", "qualifier", "[B", .null), ("com/example/hylly/hylly/store/Cell", "timestamp", "J", (.long (0 : Int64))), ("com/example/hylly/hylly/store/Cell", "type", "Lcom/example/hylly/hylly/store/Cell$Type;", .null), ("com/example/hylly/hylly/store/Cell", "value", "[B", .null)])))) := ⟨_, rfl⟩
      rw [← eV21] at X21
      have i21_0 := (eV21 ▸ oSetGet i20_0 : V21[i]? = some (a, (.inl ("com/example/hylly/hylly/store/Cell", [("com/example/hylly/hylly/store/Cell", "row", "[B", (.ref y1)), ("com/example/hylly/hylly/store/Cell", "family", "[B", (.ref y2)), ("com/example/hylly/hylly/store/Cell", "qualifier", "[B", .null), ("com/example/hylly/hylly/store/Cell", "timestamp", "J", (.long (0 : Int64))), ("com/example/hylly/hylly/store/Cell", "type", "Lcom/example/hylly/hylly/store/Cell$Type;", .null), ("com/example/hylly/hylly/store/Cell", "value", "[B", .null)]))))
      have ln21_0 : oLn Z V21 y3 nq := eV21 ▸ oLn.set ln20_0 i20_0
      have ln21_1 : oLn Z V21 y6 nv := eV21 ▸ oLn.set ln20_1 i20_0
      refine gAloadN E X21 d1_98 rfl rfl (q := 99) rfl ?_
      refine gAloadN E X21 d1_99 rfl rfl (q := 100) rfl ?_
      refine gPutF E X21 d1_100 (hw _ (List.mem_of_getElem? (i := 41) rfl)) Via.refl (i := i) i21_0 (j := 2) rfl (Or.inr ⟨(hw _ (List.mem_of_getElem? (i := 42) rfl)), rfl, rfl⟩) (hw _ (List.mem_of_getElem? (i := 6) rfl)) (ty := (.array .byte)) (by decide) rfl rfl (V' := (V21.set i (a, (.inl ("com/example/hylly/hylly/store/Cell", [("com/example/hylly/hylly/store/Cell", "row", "[B", (.ref y1)), ("com/example/hylly/hylly/store/Cell", "family", "[B", (.ref y2)), ("com/example/hylly/hylly/store/Cell", "qualifier", "[B", (.ref y3)), ("com/example/hylly/hylly/store/Cell", "timestamp", "J", (.long (0 : Int64))), ("com/example/hylly/hylly/store/Cell", "type", "Lcom/example/hylly/hylly/store/Cell$Type;", .null), ("com/example/hylly/hylly/store/Cell", "value", "[B", .null)]))))) rfl (q := 103) rfl ?_
      intro T22 X22
      obtain ⟨V22, eV22⟩ : ∃ z, z = (V21.set i (a, (.inl ("com/example/hylly/hylly/store/Cell", [("com/example/hylly/hylly/store/Cell", "row", "[B", (.ref y1)), ("com/example/hylly/hylly/store/Cell", "family", "[B", (.ref y2)), ("com/example/hylly/hylly/store/Cell", "qualifier", "[B", (.ref y3)), ("com/example/hylly/hylly/store/Cell", "timestamp", "J", (.long (0 : Int64))), ("com/example/hylly/hylly/store/Cell", "type", "Lcom/example/hylly/hylly/store/Cell$Type;", .null), ("com/example/hylly/hylly/store/Cell", "value", "[B", .null)])))) := ⟨_, rfl⟩
      rw [← eV22] at X22
      have i22_0 := (eV22 ▸ oSetGet i21_0 : V22[i]? = some (a, (.inl ("com/example/hylly/hylly/store/Cell", [("com/example/hylly/hylly/store/Cell", "row", "[B", (.ref y1)), ("com/example/hylly/hylly/store/Cell", "family", "[B", (.ref y2)), ("com/example/hylly/hylly/store/Cell", "qualifier", "[B", (.ref y3)), ("com/example/hylly/hylly/store/Cell", "timestamp", "J", (.long (0 : Int64))), ("com/example/hylly/hylly/store/Cell", "type", "Lcom/example/hylly/hylly/store/Cell$Type;", .null), ("com/example/hylly/hylly/store/Cell", "value", "[B", .null)]))))
      have ln22_0 : oLn Z V22 y3 nq := eV22 ▸ oLn.set ln21_0 i21_0
      have ln22_1 : oLn Z V22 y6 nv := eV22 ▸ oLn.set ln21_1 i21_0
      refine gAloadN E X22 d1_103 rfl rfl (q := 104) rfl ?_
      refine gLload E X22 d1_104 rfl (q := 106) rfl ?_
      refine gPutF E X22 d1_106 (hw _ (List.mem_of_getElem? (i := 43) rfl)) Via.refl (i := i) i22_0 (j := 3) rfl (Or.inr ⟨(hw _ (List.mem_of_getElem? (i := 44) rfl)), rfl, rfl⟩) (hw _ (List.mem_of_getElem? (i := 6) rfl)) (ty := .long) (by decide) rfl rfl (V' := (V22.set i (a, (.inl ("com/example/hylly/hylly/store/Cell", [("com/example/hylly/hylly/store/Cell", "row", "[B", (.ref y1)), ("com/example/hylly/hylly/store/Cell", "family", "[B", (.ref y2)), ("com/example/hylly/hylly/store/Cell", "qualifier", "[B", (.ref y3)), ("com/example/hylly/hylly/store/Cell", "timestamp", "J", (.long y4)), ("com/example/hylly/hylly/store/Cell", "type", "Lcom/example/hylly/hylly/store/Cell$Type;", .null), ("com/example/hylly/hylly/store/Cell", "value", "[B", .null)]))))) rfl (q := 109) rfl ?_
      intro T23 X23
      obtain ⟨V23, eV23⟩ : ∃ z, z = (V22.set i (a, (.inl ("com/example/hylly/hylly/store/Cell", [("com/example/hylly/hylly/store/Cell", "row", "[B", (.ref y1)), ("com/example/hylly/hylly/store/Cell", "family", "[B", (.ref y2)), ("com/example/hylly/hylly/store/Cell", "qualifier", "[B", (.ref y3)), ("com/example/hylly/hylly/store/Cell", "timestamp", "J", (.long y4)), ("com/example/hylly/hylly/store/Cell", "type", "Lcom/example/hylly/hylly/store/Cell$Type;", .null), ("com/example/hylly/hylly/store/Cell", "value", "[B", .null)])))) := ⟨_, rfl⟩
      rw [← eV23] at X23
      have i23_0 := (eV23 ▸ oSetGet i22_0 : V23[i]? = some (a, (.inl ("com/example/hylly/hylly/store/Cell", [("com/example/hylly/hylly/store/Cell", "row", "[B", (.ref y1)), ("com/example/hylly/hylly/store/Cell", "family", "[B", (.ref y2)), ("com/example/hylly/hylly/store/Cell", "qualifier", "[B", (.ref y3)), ("com/example/hylly/hylly/store/Cell", "timestamp", "J", (.long y4)), ("com/example/hylly/hylly/store/Cell", "type", "Lcom/example/hylly/hylly/store/Cell$Type;", .null), ("com/example/hylly/hylly/store/Cell", "value", "[B", .null)]))))
      have ln23_0 : oLn Z V23 y3 nq := eV23 ▸ oLn.set ln22_0 i22_0
      have ln23_1 : oLn Z V23 y6 nv := eV23 ▸ oLn.set ln22_1 i22_0
      refine gAloadN E X23 d1_109 rfl rfl (q := 110) rfl ?_
      refine gAload E X23 d1_110 rfl rfl (q := 112) rfl ?_
      refine gPutF E X23 d1_112 (hw _ (List.mem_of_getElem? (i := 45) rfl)) Via.refl (i := i) i23_0 (j := 4) rfl (Or.inr ⟨(hw _ (List.mem_of_getElem? (i := 46) rfl)), rfl, rfl⟩) (hw _ (List.mem_of_getElem? (i := 6) rfl)) (ty := (.object "com/example/hylly/hylly/store/Cell$Type")) (by decide) rfl rfl (V' := (V23.set i (a, (.inl ("com/example/hylly/hylly/store/Cell", [("com/example/hylly/hylly/store/Cell", "row", "[B", (.ref y1)), ("com/example/hylly/hylly/store/Cell", "family", "[B", (.ref y2)), ("com/example/hylly/hylly/store/Cell", "qualifier", "[B", (.ref y3)), ("com/example/hylly/hylly/store/Cell", "timestamp", "J", (.long y4)), ("com/example/hylly/hylly/store/Cell", "type", "Lcom/example/hylly/hylly/store/Cell$Type;", (.ref y5)), ("com/example/hylly/hylly/store/Cell", "value", "[B", .null)]))))) rfl (q := 115) rfl ?_
      intro T24 X24
      obtain ⟨V24, eV24⟩ : ∃ z, z = (V23.set i (a, (.inl ("com/example/hylly/hylly/store/Cell", [("com/example/hylly/hylly/store/Cell", "row", "[B", (.ref y1)), ("com/example/hylly/hylly/store/Cell", "family", "[B", (.ref y2)), ("com/example/hylly/hylly/store/Cell", "qualifier", "[B", (.ref y3)), ("com/example/hylly/hylly/store/Cell", "timestamp", "J", (.long y4)), ("com/example/hylly/hylly/store/Cell", "type", "Lcom/example/hylly/hylly/store/Cell$Type;", (.ref y5)), ("com/example/hylly/hylly/store/Cell", "value", "[B", .null)])))) := ⟨_, rfl⟩
      rw [← eV24] at X24
      have i24_0 := (eV24 ▸ oSetGet i23_0 : V24[i]? = some (a, (.inl ("com/example/hylly/hylly/store/Cell", [("com/example/hylly/hylly/store/Cell", "row", "[B", (.ref y1)), ("com/example/hylly/hylly/store/Cell", "family", "[B", (.ref y2)), ("com/example/hylly/hylly/store/Cell", "qualifier", "[B", (.ref y3)), ("com/example/hylly/hylly/store/Cell", "timestamp", "J", (.long y4)), ("com/example/hylly/hylly/store/Cell", "type", "Lcom/example/hylly/hylly/store/Cell$Type;", (.ref y5)), ("com/example/hylly/hylly/store/Cell", "value", "[B", .null)]))))
      have ln24_0 : oLn Z V24 y3 nq := eV24 ▸ oLn.set ln23_0 i23_0
      have ln24_1 : oLn Z V24 y6 nv := eV24 ▸ oLn.set ln23_1 i23_0
      refine gAloadN E X24 d1_115 rfl rfl (q := 116) rfl ?_
      refine gAload E X24 d1_116 rfl rfl (q := 118) rfl ?_
      refine gPutF E X24 d1_118 (hw _ (List.mem_of_getElem? (i := 47) rfl)) Via.refl (i := i) i24_0 (j := 5) rfl (Or.inr ⟨(hw _ (List.mem_of_getElem? (i := 48) rfl)), rfl, rfl⟩) (hw _ (List.mem_of_getElem? (i := 6) rfl)) (ty := (.array .byte)) (by decide) rfl rfl (V' := (V24.set i (a, (.inl ("com/example/hylly/hylly/store/Cell", [("com/example/hylly/hylly/store/Cell", "row", "[B", (.ref y1)), ("com/example/hylly/hylly/store/Cell", "family", "[B", (.ref y2)), ("com/example/hylly/hylly/store/Cell", "qualifier", "[B", (.ref y3)), ("com/example/hylly/hylly/store/Cell", "timestamp", "J", (.long y4)), ("com/example/hylly/hylly/store/Cell", "type", "Lcom/example/hylly/hylly/store/Cell$Type;", (.ref y5)), ("com/example/hylly/hylly/store/Cell", "value", "[B", (.ref y6))]))))) rfl (q := 121) rfl ?_
      intro T25 X25
      obtain ⟨V25, eV25⟩ : ∃ z, z = (V24.set i (a, (.inl ("com/example/hylly/hylly/store/Cell", [("com/example/hylly/hylly/store/Cell", "row", "[B", (.ref y1)), ("com/example/hylly/hylly/store/Cell", "family", "[B", (.ref y2)), ("com/example/hylly/hylly/store/Cell", "qualifier", "[B", (.ref y3)), ("com/example/hylly/hylly/store/Cell", "timestamp", "J", (.long y4)), ("com/example/hylly/hylly/store/Cell", "type", "Lcom/example/hylly/hylly/store/Cell$Type;", (.ref y5)), ("com/example/hylly/hylly/store/Cell", "value", "[B", (.ref y6))])))) := ⟨_, rfl⟩
      rw [← eV25] at X25
      have i25_0 := (eV25 ▸ oSetGet i24_0 : V25[i]? = some (a, (.inl ("com/example/hylly/hylly/store/Cell", [("com/example/hylly/hylly/store/Cell", "row", "[B", (.ref y1)), ("com/example/hylly/hylly/store/Cell", "family", "[B", (.ref y2)), ("com/example/hylly/hylly/store/Cell", "qualifier", "[B", (.ref y3)), ("com/example/hylly/hylly/store/Cell", "timestamp", "J", (.long y4)), ("com/example/hylly/hylly/store/Cell", "type", "Lcom/example/hylly/hylly/store/Cell$Type;", (.ref y5)), ("com/example/hylly/hylly/store/Cell", "value", "[B", (.ref y6))]))))
      have ln25_0 : oLn Z V25 y3 nq := eV25 ▸ oLn.set ln24_0 i24_0
      have ln25_1 : oLn Z V25 y6 nv := eV25 ▸ oLn.set ln24_1 i24_0
      exact gRetV E X25 d1_121 (by decide) (by decide) (⟨rfl, by simp only [eV25, eV24, eV23, eV22, eV21, eV20, List.set_set]⟩)
  · refine gAload E X12 d1_49 rfl rfl (q := 51) rfl ?_
    refine gLenG E X12 (z := nv) d1_51 Lv (q := 52) rfl ?_
    refine gIf_le E X12 d1_52 (by decide) (q := 65) (by decide) (q' := 55) rfl (fun h52 => ?_) (fun h52 => by exfalso; exact hv (fun z => h46 (congrArg Value.ref z)) h52)
    refine gAload E X12 d1_65 rfl rfl (q := 67) rfl ?_
    refine gGetS E X12 d1_67 (hw _ (List.mem_of_getElem? (i := 36) rfl)) Via.refl SF (q := 70) rfl ?_
    intro T26 X26
    refine gAc_ne E X26 rfl rfl d1_70 (by decide) (q := 88) (by decide) (q' := 73) rfl (fun h70 => ?_) (fun h70 => ?_)
    · refine gAloadN E X26 d1_88 rfl rfl (q := 89) rfl ?_
      refine gAloadN E X26 d1_89 rfl rfl (q := 90) rfl ?_
      refine gPutF E X26 d1_90 (hw _ (List.mem_of_getElem? (i := 37) rfl)) Via.refl (i := i) hi (j := 0) rfl (Or.inr ⟨(hw _ (List.mem_of_getElem? (i := 38) rfl)), rfl, rfl⟩) (hw _ (List.mem_of_getElem? (i := 6) rfl)) (ty := (.array .byte)) (by decide) rfl rfl (V' := (V.set i (a, (.inl ("com/example/hylly/hylly/store/Cell", [("com/example/hylly/hylly/store/Cell", "row", "[B", (.ref y1)), ("com/example/hylly/hylly/store/Cell", "family", "[B", .null), ("com/example/hylly/hylly/store/Cell", "qualifier", "[B", .null), ("com/example/hylly/hylly/store/Cell", "timestamp", "J", (.long (0 : Int64))), ("com/example/hylly/hylly/store/Cell", "type", "Lcom/example/hylly/hylly/store/Cell$Type;", .null), ("com/example/hylly/hylly/store/Cell", "value", "[B", .null)]))))) rfl (q := 93) rfl ?_
      intro T27 X27
      obtain ⟨V27, eV27⟩ : ∃ z, z = (V.set i (a, (.inl ("com/example/hylly/hylly/store/Cell", [("com/example/hylly/hylly/store/Cell", "row", "[B", (.ref y1)), ("com/example/hylly/hylly/store/Cell", "family", "[B", .null), ("com/example/hylly/hylly/store/Cell", "qualifier", "[B", .null), ("com/example/hylly/hylly/store/Cell", "timestamp", "J", (.long (0 : Int64))), ("com/example/hylly/hylly/store/Cell", "type", "Lcom/example/hylly/hylly/store/Cell$Type;", .null), ("com/example/hylly/hylly/store/Cell", "value", "[B", .null)])))) := ⟨_, rfl⟩
      rw [← eV27] at X27
      have i27_0 := (eV27 ▸ oSetGet hi : V27[i]? = some (a, (.inl ("com/example/hylly/hylly/store/Cell", [("com/example/hylly/hylly/store/Cell", "row", "[B", (.ref y1)), ("com/example/hylly/hylly/store/Cell", "family", "[B", .null), ("com/example/hylly/hylly/store/Cell", "qualifier", "[B", .null), ("com/example/hylly/hylly/store/Cell", "timestamp", "J", (.long (0 : Int64))), ("com/example/hylly/hylly/store/Cell", "type", "Lcom/example/hylly/hylly/store/Cell$Type;", .null), ("com/example/hylly/hylly/store/Cell", "value", "[B", .null)]))))
      have ln27_0 : oLn Z V27 y3 nq := eV27 ▸ oLn.set Lq hi
      have ln27_1 : oLn Z V27 y6 nv := eV27 ▸ oLn.set Lv hi
      refine gAloadN E X27 d1_93 rfl rfl (q := 94) rfl ?_
      refine gAloadN E X27 d1_94 rfl rfl (q := 95) rfl ?_
      refine gPutF E X27 d1_95 (hw _ (List.mem_of_getElem? (i := 39) rfl)) Via.refl (i := i) i27_0 (j := 1) rfl (Or.inr ⟨(hw _ (List.mem_of_getElem? (i := 40) rfl)), rfl, rfl⟩) (hw _ (List.mem_of_getElem? (i := 6) rfl)) (ty := (.array .byte)) (by decide) rfl rfl (V' := (V27.set i (a, (.inl ("com/example/hylly/hylly/store/Cell", [("com/example/hylly/hylly/store/Cell", "row", "[B", (.ref y1)), ("com/example/hylly/hylly/store/Cell", "family", "[B", (.ref y2)), ("com/example/hylly/hylly/store/Cell", "qualifier", "[B", .null), ("com/example/hylly/hylly/store/Cell", "timestamp", "J", (.long (0 : Int64))), ("com/example/hylly/hylly/store/Cell", "type", "Lcom/example/hylly/hylly/store/Cell$Type;", .null), ("com/example/hylly/hylly/store/Cell", "value", "[B", .null)]))))) rfl (q := 98) rfl ?_
      intro T28 X28
      obtain ⟨V28, eV28⟩ : ∃ z, z = (V27.set i (a, (.inl ("com/example/hylly/hylly/store/Cell", [("com/example/hylly/hylly/store/Cell", "row", "[B", (.ref y1)), ("com/example/hylly/hylly/store/Cell", "family", "[B", (.ref y2)), ("com/example/hylly/hylly/store/Cell", "qualifier", "[B", .null), ("com/example/hylly/hylly/store/Cell", "timestamp", "J", (.long (0 : Int64))), ("com/example/hylly/hylly/store/Cell", "type", "Lcom/example/hylly/hylly/store/Cell$Type;", .null), ("com/example/hylly/hylly/store/Cell", "value", "[B", .null)])))) := ⟨_, rfl⟩
      rw [← eV28] at X28
      have i28_0 := (eV28 ▸ oSetGet i27_0 : V28[i]? = some (a, (.inl ("com/example/hylly/hylly/store/Cell", [("com/example/hylly/hylly/store/Cell", "row", "[B", (.ref y1)), ("com/example/hylly/hylly/store/Cell", "family", "[B", (.ref y2)), ("com/example/hylly/hylly/store/Cell", "qualifier", "[B", .null), ("com/example/hylly/hylly/store/Cell", "timestamp", "J", (.long (0 : Int64))), ("com/example/hylly/hylly/store/Cell", "type", "Lcom/example/hylly/hylly/store/Cell$Type;", .null), ("com/example/hylly/hylly/store/Cell", "value", "[B", .null)]))))
      have ln28_0 : oLn Z V28 y3 nq := eV28 ▸ oLn.set ln27_0 i27_0
      have ln28_1 : oLn Z V28 y6 nv := eV28 ▸ oLn.set ln27_1 i27_0
      refine gAloadN E X28 d1_98 rfl rfl (q := 99) rfl ?_
      refine gAloadN E X28 d1_99 rfl rfl (q := 100) rfl ?_
      refine gPutF E X28 d1_100 (hw _ (List.mem_of_getElem? (i := 41) rfl)) Via.refl (i := i) i28_0 (j := 2) rfl (Or.inr ⟨(hw _ (List.mem_of_getElem? (i := 42) rfl)), rfl, rfl⟩) (hw _ (List.mem_of_getElem? (i := 6) rfl)) (ty := (.array .byte)) (by decide) rfl rfl (V' := (V28.set i (a, (.inl ("com/example/hylly/hylly/store/Cell", [("com/example/hylly/hylly/store/Cell", "row", "[B", (.ref y1)), ("com/example/hylly/hylly/store/Cell", "family", "[B", (.ref y2)), ("com/example/hylly/hylly/store/Cell", "qualifier", "[B", (.ref y3)), ("com/example/hylly/hylly/store/Cell", "timestamp", "J", (.long (0 : Int64))), ("com/example/hylly/hylly/store/Cell", "type", "Lcom/example/hylly/hylly/store/Cell$Type;", .null), ("com/example/hylly/hylly/store/Cell", "value", "[B", .null)]))))) rfl (q := 103) rfl ?_
      intro T29 X29
      obtain ⟨V29, eV29⟩ : ∃ z, z = (V28.set i (a, (.inl ("com/example/hylly/hylly/store/Cell", [("com/example/hylly/hylly/store/Cell", "row", "[B", (.ref y1)), ("com/example/hylly/hylly/store/Cell", "family", "[B", (.ref y2)), ("com/example/hylly/hylly/store/Cell", "qualifier", "[B", (.ref y3)), ("com/example/hylly/hylly/store/Cell", "timestamp", "J", (.long (0 : Int64))), ("com/example/hylly/hylly/store/Cell", "type", "Lcom/example/hylly/hylly/store/Cell$Type;", .null), ("com/example/hylly/hylly/store/Cell", "value", "[B", .null)])))) := ⟨_, rfl⟩
      rw [← eV29] at X29
      have i29_0 := (eV29 ▸ oSetGet i28_0 : V29[i]? = some (a, (.inl ("com/example/hylly/hylly/store/Cell", [("com/example/hylly/hylly/store/Cell", "row", "[B", (.ref y1)), ("com/example/hylly/hylly/store/Cell", "family", "[B", (.ref y2)), ("com/example/hylly/hylly/store/Cell", "qualifier", "[B", (.ref y3)), ("com/example/hylly/hylly/store/Cell", "timestamp", "J", (.long (0 : Int64))), ("com/example/hylly/hylly/store/Cell", "type", "Lcom/example/hylly/hylly/store/Cell$Type;", .null), ("com/example/hylly/hylly/store/Cell", "value", "[B", .null)]))))
      have ln29_0 : oLn Z V29 y3 nq := eV29 ▸ oLn.set ln28_0 i28_0
      have ln29_1 : oLn Z V29 y6 nv := eV29 ▸ oLn.set ln28_1 i28_0
      refine gAloadN E X29 d1_103 rfl rfl (q := 104) rfl ?_
      refine gLload E X29 d1_104 rfl (q := 106) rfl ?_
      refine gPutF E X29 d1_106 (hw _ (List.mem_of_getElem? (i := 43) rfl)) Via.refl (i := i) i29_0 (j := 3) rfl (Or.inr ⟨(hw _ (List.mem_of_getElem? (i := 44) rfl)), rfl, rfl⟩) (hw _ (List.mem_of_getElem? (i := 6) rfl)) (ty := .long) (by decide) rfl rfl (V' := (V29.set i (a, (.inl ("com/example/hylly/hylly/store/Cell", [("com/example/hylly/hylly/store/Cell", "row", "[B", (.ref y1)), ("com/example/hylly/hylly/store/Cell", "family", "[B", (.ref y2)), ("com/example/hylly/hylly/store/Cell", "qualifier", "[B", (.ref y3)), ("com/example/hylly/hylly/store/Cell", "timestamp", "J", (.long y4)), ("com/example/hylly/hylly/store/Cell", "type", "Lcom/example/hylly/hylly/store/Cell$Type;", .null), ("com/example/hylly/hylly/store/Cell", "value", "[B", .null)]))))) rfl (q := 109) rfl ?_
      intro T30 X30
      obtain ⟨V30, eV30⟩ : ∃ z, z = (V29.set i (a, (.inl ("com/example/hylly/hylly/store/Cell", [("com/example/hylly/hylly/store/Cell", "row", "[B", (.ref y1)), ("com/example/hylly/hylly/store/Cell", "family", "[B", (.ref y2)), ("com/example/hylly/hylly/store/Cell", "qualifier", "[B", (.ref y3)), ("com/example/hylly/hylly/store/Cell", "timestamp", "J", (.long y4)), ("com/example/hylly/hylly/store/Cell", "type", "Lcom/example/hylly/hylly/store/Cell$Type;", .null), ("com/example/hylly/hylly/store/Cell", "value", "[B", .null)])))) := ⟨_, rfl⟩
      rw [← eV30] at X30
      have i30_0 := (eV30 ▸ oSetGet i29_0 : V30[i]? = some (a, (.inl ("com/example/hylly/hylly/store/Cell", [("com/example/hylly/hylly/store/Cell", "row", "[B", (.ref y1)), ("com/example/hylly/hylly/store/Cell", "family", "[B", (.ref y2)), ("com/example/hylly/hylly/store/Cell", "qualifier", "[B", (.ref y3)), ("com/example/hylly/hylly/store/Cell", "timestamp", "J", (.long y4)), ("com/example/hylly/hylly/store/Cell", "type", "Lcom/example/hylly/hylly/store/Cell$Type;", .null), ("com/example/hylly/hylly/store/Cell", "value", "[B", .null)]))))
      have ln30_0 : oLn Z V30 y3 nq := eV30 ▸ oLn.set ln29_0 i29_0
      have ln30_1 : oLn Z V30 y6 nv := eV30 ▸ oLn.set ln29_1 i29_0
      refine gAloadN E X30 d1_109 rfl rfl (q := 110) rfl ?_
      refine gAload E X30 d1_110 rfl rfl (q := 112) rfl ?_
      refine gPutF E X30 d1_112 (hw _ (List.mem_of_getElem? (i := 45) rfl)) Via.refl (i := i) i30_0 (j := 4) rfl (Or.inr ⟨(hw _ (List.mem_of_getElem? (i := 46) rfl)), rfl, rfl⟩) (hw _ (List.mem_of_getElem? (i := 6) rfl)) (ty := (.object "com/example/hylly/hylly/store/Cell$Type")) (by decide) rfl rfl (V' := (V30.set i (a, (.inl ("com/example/hylly/hylly/store/Cell", [("com/example/hylly/hylly/store/Cell", "row", "[B", (.ref y1)), ("com/example/hylly/hylly/store/Cell", "family", "[B", (.ref y2)), ("com/example/hylly/hylly/store/Cell", "qualifier", "[B", (.ref y3)), ("com/example/hylly/hylly/store/Cell", "timestamp", "J", (.long y4)), ("com/example/hylly/hylly/store/Cell", "type", "Lcom/example/hylly/hylly/store/Cell$Type;", (.ref y5)), ("com/example/hylly/hylly/store/Cell", "value", "[B", .null)]))))) rfl (q := 115) rfl ?_
      intro T31 X31
      obtain ⟨V31, eV31⟩ : ∃ z, z = (V30.set i (a, (.inl ("com/example/hylly/hylly/store/Cell", [("com/example/hylly/hylly/store/Cell", "row", "[B", (.ref y1)), ("com/example/hylly/hylly/store/Cell", "family", "[B", (.ref y2)), ("com/example/hylly/hylly/store/Cell", "qualifier", "[B", (.ref y3)), ("com/example/hylly/hylly/store/Cell", "timestamp", "J", (.long y4)), ("com/example/hylly/hylly/store/Cell", "type", "Lcom/example/hylly/hylly/store/Cell$Type;", (.ref y5)), ("com/example/hylly/hylly/store/Cell", "value", "[B", .null)])))) := ⟨_, rfl⟩
      rw [← eV31] at X31
      have i31_0 := (eV31 ▸ oSetGet i30_0 : V31[i]? = some (a, (.inl ("com/example/hylly/hylly/store/Cell", [("com/example/hylly/hylly/store/Cell", "row", "[B", (.ref y1)), ("com/example/hylly/hylly/store/Cell", "family", "[B", (.ref y2)), ("com/example/hylly/hylly/store/Cell", "qualifier", "[B", (.ref y3)), ("com/example/hylly/hylly/store/Cell", "timestamp", "J", (.long y4)), ("com/example/hylly/hylly/store/Cell", "type", "Lcom/example/hylly/hylly/store/Cell$Type;", (.ref y5)), ("com/example/hylly/hylly/store/Cell", "value", "[B", .null)]))))
      have ln31_0 : oLn Z V31 y3 nq := eV31 ▸ oLn.set ln30_0 i30_0
      have ln31_1 : oLn Z V31 y6 nv := eV31 ▸ oLn.set ln30_1 i30_0
      refine gAloadN E X31 d1_115 rfl rfl (q := 116) rfl ?_
      refine gAload E X31 d1_116 rfl rfl (q := 118) rfl ?_
      refine gPutF E X31 d1_118 (hw _ (List.mem_of_getElem? (i := 47) rfl)) Via.refl (i := i) i31_0 (j := 5) rfl (Or.inr ⟨(hw _ (List.mem_of_getElem? (i := 48) rfl)), rfl, rfl⟩) (hw _ (List.mem_of_getElem? (i := 6) rfl)) (ty := (.array .byte)) (by decide) rfl rfl (V' := (V31.set i (a, (.inl ("com/example/hylly/hylly/store/Cell", [("com/example/hylly/hylly/store/Cell", "row", "[B", (.ref y1)), ("com/example/hylly/hylly/store/Cell", "family", "[B", (.ref y2)), ("com/example/hylly/hylly/store/Cell", "qualifier", "[B", (.ref y3)), ("com/example/hylly/hylly/store/Cell", "timestamp", "J", (.long y4)), ("com/example/hylly/hylly/store/Cell", "type", "Lcom/example/hylly/hylly/store/Cell$Type;", (.ref y5)), ("com/example/hylly/hylly/store/Cell", "value", "[B", (.ref y6))]))))) rfl (q := 121) rfl ?_
      intro T32 X32
      obtain ⟨V32, eV32⟩ : ∃ z, z = (V31.set i (a, (.inl ("com/example/hylly/hylly/store/Cell", [("com/example/hylly/hylly/store/Cell", "row", "[B", (.ref y1)), ("com/example/hylly/hylly/store/Cell", "family", "[B", (.ref y2)), ("com/example/hylly/hylly/store/Cell", "qualifier", "[B", (.ref y3)), ("com/example/hylly/hylly/store/Cell", "timestamp", "J", (.long y4)), ("com/example/hylly/hylly/store/Cell", "type", "Lcom/example/hylly/hylly/store/Cell$Type;", (.ref y5)), ("com/example/hylly/hylly/store/Cell", "value", "[B", (.ref y6))])))) := ⟨_, rfl⟩
      rw [← eV32] at X32
      have i32_0 := (eV32 ▸ oSetGet i31_0 : V32[i]? = some (a, (.inl ("com/example/hylly/hylly/store/Cell", [("com/example/hylly/hylly/store/Cell", "row", "[B", (.ref y1)), ("com/example/hylly/hylly/store/Cell", "family", "[B", (.ref y2)), ("com/example/hylly/hylly/store/Cell", "qualifier", "[B", (.ref y3)), ("com/example/hylly/hylly/store/Cell", "timestamp", "J", (.long y4)), ("com/example/hylly/hylly/store/Cell", "type", "Lcom/example/hylly/hylly/store/Cell$Type;", (.ref y5)), ("com/example/hylly/hylly/store/Cell", "value", "[B", (.ref y6))]))))
      have ln32_0 : oLn Z V32 y3 nq := eV32 ▸ oLn.set ln31_0 i31_0
      have ln32_1 : oLn Z V32 y6 nv := eV32 ▸ oLn.set ln31_1 i31_0
      exact gRetV E X32 d1_121 (by decide) (by decide) (⟨rfl, by simp only [eV32, eV31, eV30, eV29, eV28, eV27, List.set_set]⟩)
    · refine gAloadN E X26 d1_73 rfl rfl (q := 74) rfl ?_
      refine gLenG E X26 (z := nq) d1_74 Lq (q := 75) rfl ?_
      refine gIf_le E X26 d1_75 (by decide) (q := 88) (by decide) (q' := 78) rfl (fun h75 => ?_) (fun h75 => by exfalso; exact hq (by cases h70; rfl) h75)
      refine gAloadN E X26 d1_88 rfl rfl (q := 89) rfl ?_
      refine gAloadN E X26 d1_89 rfl rfl (q := 90) rfl ?_
      refine gPutF E X26 d1_90 (hw _ (List.mem_of_getElem? (i := 37) rfl)) Via.refl (i := i) hi (j := 0) rfl (Or.inr ⟨(hw _ (List.mem_of_getElem? (i := 38) rfl)), rfl, rfl⟩) (hw _ (List.mem_of_getElem? (i := 6) rfl)) (ty := (.array .byte)) (by decide) rfl rfl (V' := (V.set i (a, (.inl ("com/example/hylly/hylly/store/Cell", [("com/example/hylly/hylly/store/Cell", "row", "[B", (.ref y1)), ("com/example/hylly/hylly/store/Cell", "family", "[B", .null), ("com/example/hylly/hylly/store/Cell", "qualifier", "[B", .null), ("com/example/hylly/hylly/store/Cell", "timestamp", "J", (.long (0 : Int64))), ("com/example/hylly/hylly/store/Cell", "type", "Lcom/example/hylly/hylly/store/Cell$Type;", .null), ("com/example/hylly/hylly/store/Cell", "value", "[B", .null)]))))) rfl (q := 93) rfl ?_
      intro T33 X33
      obtain ⟨V33, eV33⟩ : ∃ z, z = (V.set i (a, (.inl ("com/example/hylly/hylly/store/Cell", [("com/example/hylly/hylly/store/Cell", "row", "[B", (.ref y1)), ("com/example/hylly/hylly/store/Cell", "family", "[B", .null), ("com/example/hylly/hylly/store/Cell", "qualifier", "[B", .null), ("com/example/hylly/hylly/store/Cell", "timestamp", "J", (.long (0 : Int64))), ("com/example/hylly/hylly/store/Cell", "type", "Lcom/example/hylly/hylly/store/Cell$Type;", .null), ("com/example/hylly/hylly/store/Cell", "value", "[B", .null)])))) := ⟨_, rfl⟩
      rw [← eV33] at X33
      have i33_0 := (eV33 ▸ oSetGet hi : V33[i]? = some (a, (.inl ("com/example/hylly/hylly/store/Cell", [("com/example/hylly/hylly/store/Cell", "row", "[B", (.ref y1)), ("com/example/hylly/hylly/store/Cell", "family", "[B", .null), ("com/example/hylly/hylly/store/Cell", "qualifier", "[B", .null), ("com/example/hylly/hylly/store/Cell", "timestamp", "J", (.long (0 : Int64))), ("com/example/hylly/hylly/store/Cell", "type", "Lcom/example/hylly/hylly/store/Cell$Type;", .null), ("com/example/hylly/hylly/store/Cell", "value", "[B", .null)]))))
      have ln33_0 : oLn Z V33 y3 nq := eV33 ▸ oLn.set Lq hi
      have ln33_1 : oLn Z V33 y6 nv := eV33 ▸ oLn.set Lv hi
      refine gAloadN E X33 d1_93 rfl rfl (q := 94) rfl ?_
      refine gAloadN E X33 d1_94 rfl rfl (q := 95) rfl ?_
      refine gPutF E X33 d1_95 (hw _ (List.mem_of_getElem? (i := 39) rfl)) Via.refl (i := i) i33_0 (j := 1) rfl (Or.inr ⟨(hw _ (List.mem_of_getElem? (i := 40) rfl)), rfl, rfl⟩) (hw _ (List.mem_of_getElem? (i := 6) rfl)) (ty := (.array .byte)) (by decide) rfl rfl (V' := (V33.set i (a, (.inl ("com/example/hylly/hylly/store/Cell", [("com/example/hylly/hylly/store/Cell", "row", "[B", (.ref y1)), ("com/example/hylly/hylly/store/Cell", "family", "[B", (.ref y2)), ("com/example/hylly/hylly/store/Cell", "qualifier", "[B", .null), ("com/example/hylly/hylly/store/Cell", "timestamp", "J", (.long (0 : Int64))), ("com/example/hylly/hylly/store/Cell", "type", "Lcom/example/hylly/hylly/store/Cell$Type;", .null), ("com/example/hylly/hylly/store/Cell", "value", "[B", .null)]))))) rfl (q := 98) rfl ?_
      intro T34 X34
      obtain ⟨V34, eV34⟩ : ∃ z, z = (V33.set i (a, (.inl ("com/example/hylly/hylly/store/Cell", [("com/example/hylly/hylly/store/Cell", "row", "[B", (.ref y1)), ("com/example/hylly/hylly/store/Cell", "family", "[B", (.ref y2)), ("com/example/hylly/hylly/store/Cell", "qualifier", "[B", .null), ("com/example/hylly/hylly/store/Cell", "timestamp", "J", (.long (0 : Int64))), ("com/example/hylly/hylly/store/Cell", "type", "Lcom/example/hylly/hylly/store/Cell$Type;", .null), ("com/example/hylly/hylly/store/Cell", "value", "[B", .null)])))) := ⟨_, rfl⟩
      rw [← eV34] at X34
      have i34_0 := (eV34 ▸ oSetGet i33_0 : V34[i]? = some (a, (.inl ("com/example/hylly/hylly/store/Cell", [("com/example/hylly/hylly/store/Cell", "row", "[B", (.ref y1)), ("com/example/hylly/hylly/store/Cell", "family", "[B", (.ref y2)), ("com/example/hylly/hylly/store/Cell", "qualifier", "[B", .null), ("com/example/hylly/hylly/store/Cell", "timestamp", "J", (.long (0 : Int64))), ("com/example/hylly/hylly/store/Cell", "type", "Lcom/example/hylly/hylly/store/Cell$Type;", .null), ("com/example/hylly/hylly/store/Cell", "value", "[B", .null)]))))
      have ln34_0 : oLn Z V34 y3 nq := eV34 ▸ oLn.set ln33_0 i33_0
      have ln34_1 : oLn Z V34 y6 nv := eV34 ▸ oLn.set ln33_1 i33_0
      refine gAloadN E X34 d1_98 rfl rfl (q := 99) rfl ?_
      refine gAloadN E X34 d1_99 rfl rfl (q := 100) rfl ?_
      refine gPutF E X34 d1_100 (hw _ (List.mem_of_getElem? (i := 41) rfl)) Via.refl (i := i) i34_0 (j := 2) rfl (Or.inr ⟨(hw _ (List.mem_of_getElem? (i := 42) rfl)), rfl, rfl⟩) (hw _ (List.mem_of_getElem? (i := 6) rfl)) (ty := (.array .byte)) (by decide) rfl rfl (V' := (V34.set i (a, (.inl ("com/example/hylly/hylly/store/Cell", [("com/example/hylly/hylly/store/Cell", "row", "[B", (.ref y1)), ("com/example/hylly/hylly/store/Cell", "family", "[B", (.ref y2)), ("com/example/hylly/hylly/store/Cell", "qualifier", "[B", (.ref y3)), ("com/example/hylly/hylly/store/Cell", "timestamp", "J", (.long (0 : Int64))), ("com/example/hylly/hylly/store/Cell", "type", "Lcom/example/hylly/hylly/store/Cell$Type;", .null), ("com/example/hylly/hylly/store/Cell", "value", "[B", .null)]))))) rfl (q := 103) rfl ?_
      intro T35 X35
      obtain ⟨V35, eV35⟩ : ∃ z, z = (V34.set i (a, (.inl ("com/example/hylly/hylly/store/Cell", [("com/example/hylly/hylly/store/Cell", "row", "[B", (.ref y1)), ("com/example/hylly/hylly/store/Cell", "family", "[B", (.ref y2)), ("com/example/hylly/hylly/store/Cell", "qualifier", "[B", (.ref y3)), ("com/example/hylly/hylly/store/Cell", "timestamp", "J", (.long (0 : Int64))), ("com/example/hylly/hylly/store/Cell", "type", "Lcom/example/hylly/hylly/store/Cell$Type;", .null), ("com/example/hylly/hylly/store/Cell", "value", "[B", .null)])))) := ⟨_, rfl⟩
      rw [← eV35] at X35
      have i35_0 := (eV35 ▸ oSetGet i34_0 : V35[i]? = some (a, (.inl ("com/example/hylly/hylly/store/Cell", [("com/example/hylly/hylly/store/Cell", "row", "[B", (.ref y1)), ("com/example/hylly/hylly/store/Cell", "family", "[B", (.ref y2)), ("com/example/hylly/hylly/store/Cell", "qualifier", "[B", (.ref y3)), ("com/example/hylly/hylly/store/Cell", "timestamp", "J", (.long (0 : Int64))), ("com/example/hylly/hylly/store/Cell", "type", "Lcom/example/hylly/hylly/store/Cell$Type;", .null), ("com/example/hylly/hylly/store/Cell", "value", "[B", .null)]))))
      have ln35_0 : oLn Z V35 y3 nq := eV35 ▸ oLn.set ln34_0 i34_0
      have ln35_1 : oLn Z V35 y6 nv := eV35 ▸ oLn.set ln34_1 i34_0
      refine gAloadN E X35 d1_103 rfl rfl (q := 104) rfl ?_
      refine gLload E X35 d1_104 rfl (q := 106) rfl ?_
      refine gPutF E X35 d1_106 (hw _ (List.mem_of_getElem? (i := 43) rfl)) Via.refl (i := i) i35_0 (j := 3) rfl (Or.inr ⟨(hw _ (List.mem_of_getElem? (i := 44) rfl)), rfl, rfl⟩) (hw _ (List.mem_of_getElem? (i := 6) rfl)) (ty := .long) (by decide) rfl rfl (V' := (V35.set i (a, (.inl ("com/example/hylly/hylly/store/Cell", [("com/example/hylly/hylly/store/Cell", "row", "[B", (.ref y1)), ("com/example/hylly/hylly/store/Cell", "family", "[B", (.ref y2)), ("com/example/hylly/hylly/store/Cell", "qualifier", "[B", (.ref y3)), ("com/example/hylly/hylly/store/Cell", "timestamp", "J", (.long y4)), ("com/example/hylly/hylly/store/Cell", "type", "Lcom/example/hylly/hylly/store/Cell$Type;", .null), ("com/example/hylly/hylly/store/Cell", "value", "[B", .null)]))))) rfl (q := 109) rfl ?_
      intro T36 X36
      obtain ⟨V36, eV36⟩ : ∃ z, z = (V35.set i (a, (.inl ("com/example/hylly/hylly/store/Cell", [("com/example/hylly/hylly/store/Cell", "row", "[B", (.ref y1)), ("com/example/hylly/hylly/store/Cell", "family", "[B", (.ref y2)), ("com/example/hylly/hylly/store/Cell", "qualifier", "[B", (.ref y3)), ("com/example/hylly/hylly/store/Cell", "timestamp", "J", (.long y4)), ("com/example/hylly/hylly/store/Cell", "type", "Lcom/example/hylly/hylly/store/Cell$Type;", .null), ("com/example/hylly/hylly/store/Cell", "value", "[B", .null)])))) := ⟨_, rfl⟩
      rw [← eV36] at X36
      have i36_0 := (eV36 ▸ oSetGet i35_0 : V36[i]? = some (a, (.inl ("com/example/hylly/hylly/store/Cell", [("com/example/hylly/hylly/store/Cell", "row", "[B", (.ref y1)), ("com/example/hylly/hylly/store/Cell", "family", "[B", (.ref y2)), ("com/example/hylly/hylly/store/Cell", "qualifier", "[B", (.ref y3)), ("com/example/hylly/hylly/store/Cell", "timestamp", "J", (.long y4)), ("com/example/hylly/hylly/store/Cell", "type", "Lcom/example/hylly/hylly/store/Cell$Type;", .null), ("com/example/hylly/hylly/store/Cell", "value", "[B", .null)]))))
      have ln36_0 : oLn Z V36 y3 nq := eV36 ▸ oLn.set ln35_0 i35_0
      have ln36_1 : oLn Z V36 y6 nv := eV36 ▸ oLn.set ln35_1 i35_0
      refine gAloadN E X36 d1_109 rfl rfl (q := 110) rfl ?_
      refine gAload E X36 d1_110 rfl rfl (q := 112) rfl ?_
      refine gPutF E X36 d1_112 (hw _ (List.mem_of_getElem? (i := 45) rfl)) Via.refl (i := i) i36_0 (j := 4) rfl (Or.inr ⟨(hw _ (List.mem_of_getElem? (i := 46) rfl)), rfl, rfl⟩) (hw _ (List.mem_of_getElem? (i := 6) rfl)) (ty := (.object "com/example/hylly/hylly/store/Cell$Type")) (by decide) rfl rfl (V' := (V36.set i (a, (.inl ("com/example/hylly/hylly/store/Cell", [("com/example/hylly/hylly/store/Cell", "row", "[B", (.ref y1)), ("com/example/hylly/hylly/store/Cell", "family", "[B", (.ref y2)), ("com/example/hylly/hylly/store/Cell", "qualifier", "[B", (.ref y3)), ("com/example/hylly/hylly/store/Cell", "timestamp", "J", (.long y4)), ("com/example/hylly/hylly/store/Cell", "type", "Lcom/example/hylly/hylly/store/Cell$Type;", (.ref y5)), ("com/example/hylly/hylly/store/Cell", "value", "[B", .null)]))))) rfl (q := 115) rfl ?_
      intro T37 X37
      obtain ⟨V37, eV37⟩ : ∃ z, z = (V36.set i (a, (.inl ("com/example/hylly/hylly/store/Cell", [("com/example/hylly/hylly/store/Cell", "row", "[B", (.ref y1)), ("com/example/hylly/hylly/store/Cell", "family", "[B", (.ref y2)), ("com/example/hylly/hylly/store/Cell", "qualifier", "[B", (.ref y3)), ("com/example/hylly/hylly/store/Cell", "timestamp", "J", (.long y4)), ("com/example/hylly/hylly/store/Cell", "type", "Lcom/example/hylly/hylly/store/Cell$Type;", (.ref y5)), ("com/example/hylly/hylly/store/Cell", "value", "[B", .null)])))) := ⟨_, rfl⟩
      rw [← eV37] at X37
      have i37_0 := (eV37 ▸ oSetGet i36_0 : V37[i]? = some (a, (.inl ("com/example/hylly/hylly/store/Cell", [("com/example/hylly/hylly/store/Cell", "row", "[B", (.ref y1)), ("com/example/hylly/hylly/store/Cell", "family", "[B", (.ref y2)), ("com/example/hylly/hylly/store/Cell", "qualifier", "[B", (.ref y3)), ("com/example/hylly/hylly/store/Cell", "timestamp", "J", (.long y4)), ("com/example/hylly/hylly/store/Cell", "type", "Lcom/example/hylly/hylly/store/Cell$Type;", (.ref y5)), ("com/example/hylly/hylly/store/Cell", "value", "[B", .null)]))))
      have ln37_0 : oLn Z V37 y3 nq := eV37 ▸ oLn.set ln36_0 i36_0
      have ln37_1 : oLn Z V37 y6 nv := eV37 ▸ oLn.set ln36_1 i36_0
      refine gAloadN E X37 d1_115 rfl rfl (q := 116) rfl ?_
      refine gAload E X37 d1_116 rfl rfl (q := 118) rfl ?_
      refine gPutF E X37 d1_118 (hw _ (List.mem_of_getElem? (i := 47) rfl)) Via.refl (i := i) i37_0 (j := 5) rfl (Or.inr ⟨(hw _ (List.mem_of_getElem? (i := 48) rfl)), rfl, rfl⟩) (hw _ (List.mem_of_getElem? (i := 6) rfl)) (ty := (.array .byte)) (by decide) rfl rfl (V' := (V37.set i (a, (.inl ("com/example/hylly/hylly/store/Cell", [("com/example/hylly/hylly/store/Cell", "row", "[B", (.ref y1)), ("com/example/hylly/hylly/store/Cell", "family", "[B", (.ref y2)), ("com/example/hylly/hylly/store/Cell", "qualifier", "[B", (.ref y3)), ("com/example/hylly/hylly/store/Cell", "timestamp", "J", (.long y4)), ("com/example/hylly/hylly/store/Cell", "type", "Lcom/example/hylly/hylly/store/Cell$Type;", (.ref y5)), ("com/example/hylly/hylly/store/Cell", "value", "[B", (.ref y6))]))))) rfl (q := 121) rfl ?_
      intro T38 X38
      obtain ⟨V38, eV38⟩ : ∃ z, z = (V37.set i (a, (.inl ("com/example/hylly/hylly/store/Cell", [("com/example/hylly/hylly/store/Cell", "row", "[B", (.ref y1)), ("com/example/hylly/hylly/store/Cell", "family", "[B", (.ref y2)), ("com/example/hylly/hylly/store/Cell", "qualifier", "[B", (.ref y3)), ("com/example/hylly/hylly/store/Cell", "timestamp", "J", (.long y4)), ("com/example/hylly/hylly/store/Cell", "type", "Lcom/example/hylly/hylly/store/Cell$Type;", (.ref y5)), ("com/example/hylly/hylly/store/Cell", "value", "[B", (.ref y6))])))) := ⟨_, rfl⟩
      rw [← eV38] at X38
      have i38_0 := (eV38 ▸ oSetGet i37_0 : V38[i]? = some (a, (.inl ("com/example/hylly/hylly/store/Cell", [("com/example/hylly/hylly/store/Cell", "row", "[B", (.ref y1)), ("com/example/hylly/hylly/store/Cell", "family", "[B", (.ref y2)), ("com/example/hylly/hylly/store/Cell", "qualifier", "[B", (.ref y3)), ("com/example/hylly/hylly/store/Cell", "timestamp", "J", (.long y4)), ("com/example/hylly/hylly/store/Cell", "type", "Lcom/example/hylly/hylly/store/Cell$Type;", (.ref y5)), ("com/example/hylly/hylly/store/Cell", "value", "[B", (.ref y6))]))))
      have ln38_0 : oLn Z V38 y3 nq := eV38 ▸ oLn.set ln37_0 i37_0
      have ln38_1 : oLn Z V38 y6 nv := eV38 ▸ oLn.set ln37_1 i37_0
      exact gRetV E X38 d1_121 (by decide) (by decide) (⟨rfl, by simp only [eV38, eV37, eV36, eV35, eV34, eV33, List.set_set]⟩)
theorem d5_0 : decode prog_48_method_7_code 0 = .ok (.aload_n 0, 1) := by decide +kernel
theorem d5_1 : decode prog_48_method_7_code 1 = .ok (.getfield 43, 3) := by decide +kernel
theorem d5_4 : decode prog_48_method_7_code 4 = .ok (.arraylength, 1) := by decide +kernel
theorem d5_5 : decode prog_48_method_7_code 5 = .ok (.i2l, 1) := by decide +kernel
theorem d5_6 : decode prog_48_method_7_code 6 = .ok (.aload_n 0, 1) := by decide +kernel
theorem d5_7 : decode prog_48_method_7_code 7 = .ok (.getfield 48, 3) := by decide +kernel
theorem d5_10 : decode prog_48_method_7_code 10 = .ok (.arraylength, 1) := by decide +kernel
theorem d5_11 : decode prog_48_method_7_code 11 = .ok (.i2l, 1) := by decide +kernel
theorem d5_12 : decode prog_48_method_7_code 12 = .ok (.ladd, 1) := by decide +kernel
theorem d5_13 : decode prog_48_method_7_code 13 = .ok (.aload_n 0, 1) := by decide +kernel
theorem d5_14 : decode prog_48_method_7_code 14 = .ok (.getfield 50, 3) := by decide +kernel
theorem d5_17 : decode prog_48_method_7_code 17 = .ok (.arraylength, 1) := by decide +kernel
theorem d5_18 : decode prog_48_method_7_code 18 = .ok (.i2l, 1) := by decide +kernel
theorem d5_19 : decode prog_48_method_7_code 19 = .ok (.ladd, 1) := by decide +kernel
theorem d5_20 : decode prog_48_method_7_code 20 = .ok (.ldc2_w 95, 3) := by decide +kernel
theorem d5_23 : decode prog_48_method_7_code 23 = .ok (.ladd, 1) := by decide +kernel
theorem d5_24 : decode prog_48_method_7_code 24 = .ok (.aload_n 0, 1) := by decide +kernel
theorem d5_25 : decode prog_48_method_7_code 25 = .ok (.getfield 58, 3) := by decide +kernel
theorem d5_28 : decode prog_48_method_7_code 28 = .ok (.arraylength, 1) := by decide +kernel
theorem d5_29 : decode prog_48_method_7_code 29 = .ok (.i2l, 1) := by decide +kernel
theorem d5_30 : decode prog_48_method_7_code 30 = .ok (.ladd, 1) := by decide +kernel
theorem d5_31 : decode prog_48_method_7_code 31 = .ok (.lreturn, 1) := by decide +kernel
set_option maxRecDepth 65536 in
set_option maxHeartbeats 40000000 in
theorem cZ (l : Launch) (Z : State) (a0 : Array Value) (hw : ∀ d ∈ tables_1, d.before a0 Z = true) {V : oVw} (a : Addr) (y1 : Addr) (y2 : Addr) (y3 : Addr) (y4 : Int64) (y5 : Addr) (y6 : Addr) (n1 : Int32) (n2 : Int32) (n3 : Int32) (n4 : Int32) {i : Nat} (hi : V[i]? = some (a, (.inl ("com/example/hylly/hylly/store/Cell", [("com/example/hylly/hylly/store/Cell", "row", "[B", (.ref y1)), ("com/example/hylly/hylly/store/Cell", "family", "[B", (.ref y2)), ("com/example/hylly/hylly/store/Cell", "qualifier", "[B", (.ref y3)), ("com/example/hylly/hylly/store/Cell", "timestamp", "J", (.long y4)), ("com/example/hylly/hylly/store/Cell", "type", "Lcom/example/hylly/hylly/store/Cell$Type;", (.ref y5)), ("com/example/hylly/hylly/store/Cell", "value", "[B", (.ref y6))])))) (L1 : oLn Z V y1 n1) (L2 : oLn Z V y2 n2) (L3 : oLn Z V y3 n3) (L4 : oLn Z V y6 n4) :
    oCon l Z (⟨"com/example/hylly/hylly/store/Cell", "size", "()J"⟩ : MethodName) prog_48_method_7_code 1 (some .long) ({ frames := 0, cells := 0, slots := 0, locals := 0 } : Room) #[(.ref a)] V (fun v V' => v = some (.long (n1.toInt64 + n2.toInt64 + n3.toInt64 + (8 : Int64) + n4.toInt64)) ∧ V' = V) := by
  refine oEnter (plainFor_of_name pn_com_example_hylly_hylly_store_Cell) (Ls := #[.val (.ref a)]) (fun m => by first | (simp [entryFrame, mkF, argsToLocals, Value.category]; done) | rfl) ?_
  intro p e s m below meth c T E X
  refine gAloadN E X d5_0 rfl rfl (q := 1) rfl ?_
  refine gGetF E X d5_1 (hw _ (List.mem_of_getElem? (i := 37) rfl)) Via.refl (i := i) hi (j := 0) rfl (q := 4) rfl ?_
  intro T1 X1
  refine gLenG E X1 (z := n1) d5_4 L1 (q := 5) rfl ?_
  refine gI2l E X1 d5_5 (z := n1.toInt64) rfl (q := 6) rfl ?_
  refine gAloadN E X1 d5_6 rfl rfl (q := 7) rfl ?_
  refine gGetF E X1 d5_7 (hw _ (List.mem_of_getElem? (i := 39) rfl)) Via.refl (i := i) hi (j := 1) rfl (q := 10) rfl ?_
  intro T2 X2
  refine gLenG E X2 (z := n2) d5_10 L2 (q := 11) rfl ?_
  refine gI2l E X2 d5_11 (z := n2.toInt64) rfl (q := 12) rfl ?_
  refine gLadd E X2 d5_12 (z := (n1.toInt64 + n2.toInt64)) rfl (q := 13) rfl ?_
  refine gAloadN E X2 d5_13 rfl rfl (q := 14) rfl ?_
  refine gGetF E X2 d5_14 (hw _ (List.mem_of_getElem? (i := 41) rfl)) Via.refl (i := i) hi (j := 2) rfl (q := 17) rfl ?_
  intro T3 X3
  refine gLenG E X3 (z := n3) d5_17 L3 (q := 18) rfl ?_
  refine gI2l E X3 d5_18 (z := n3.toInt64) rfl (q := 19) rfl ?_
  refine gLadd E X3 d5_19 (z := ((n1.toInt64 + n2.toInt64) + n3.toInt64)) rfl (q := 20) rfl ?_
  refine gLdc2J E X3 d5_20 (hw _ (List.mem_of_getElem? (i := 55) rfl)) (q := 23) rfl ?_
  refine gLadd E X3 d5_23 (z := (((n1.toInt64 + n2.toInt64) + n3.toInt64) + (8 : Int64))) rfl (q := 24) rfl ?_
  refine gAloadN E X3 d5_24 rfl rfl (q := 25) rfl ?_
  refine gGetF E X3 d5_25 (hw _ (List.mem_of_getElem? (i := 47) rfl)) Via.refl (i := i) hi (j := 5) rfl (q := 28) rfl ?_
  intro T4 X4
  refine gLenG E X4 (z := n4) d5_28 L4 (q := 29) rfl ?_
  refine gI2l E X4 d5_29 (z := n4.toInt64) rfl (q := 30) rfl ?_
  refine gLadd E X4 d5_30 (z := ((((n1.toInt64 + n2.toInt64) + n3.toInt64) + (8 : Int64)) + n4.toInt64)) rfl (q := 31) rfl ?_
  exact gRetJ E X4 d5_31 (by decide) (by decide) (⟨rfl, rfl⟩)
theorem lay_Cell (Z : State) (a0 : Array Value) (hw : ∀ d ∈ tables_1, d.before a0 Z = true) : oLay Z a0 "com/example/hylly/hylly/store/Cell" [("com/example/hylly/hylly/store/Cell", "row", "[B", .null), ("com/example/hylly/hylly/store/Cell", "family", "[B", .null), ("com/example/hylly/hylly/store/Cell", "qualifier", "[B", .null), ("com/example/hylly/hylly/store/Cell", "timestamp", "J", (.long (0 : Int64))), ("com/example/hylly/hylly/store/Cell", "type", "Lcom/example/hylly/hylly/store/Cell$Type;", .null), ("com/example/hylly/hylly/store/Cell", "value", "[B", .null)] := oLay.of (by decide) ⟨⟨Or.inr (hw _ (List.mem_of_getElem? (i := 38) rfl)), (.array .byte), by decide, rfl⟩, ⟨Or.inr (hw _ (List.mem_of_getElem? (i := 40) rfl)), (.array .byte), by decide, rfl⟩, ⟨Or.inr (hw _ (List.mem_of_getElem? (i := 42) rfl)), (.array .byte), by decide, rfl⟩, ⟨Or.inr (hw _ (List.mem_of_getElem? (i := 44) rfl)), .long, by decide, rfl⟩, ⟨Or.inr (hw _ (List.mem_of_getElem? (i := 46) rfl)), (.object "com/example/hylly/hylly/store/Cell$Type"), by decide, rfl⟩, ⟨Or.inr (hw _ (List.mem_of_getElem? (i := 48) rfl)), (.array .byte), by decide, rfl⟩, trivial⟩
theorem pd_2 : parseMethodDescriptor "([B[B[BJLcom/example/hylly/hylly/store/Cell$Type;[B)V" = some ⟨[(.array .byte), (.array .byte), (.array .byte), .long, (.object "com/example/hylly/hylly/store/Cell$Type"), (.array .byte)], none⟩ := by decide +kernel
theorem pd_3 : parseMethodDescriptor "()J" = some ⟨[], some .long⟩ := by decide +kernel
theorem pn_com_example_hylly_hylly_store_CellSizePinLaw : plainName "com/example/hylly/hylly/store/CellSizePinLaw" = true := by first | (simp [plainName, overriddenIn]; done) | decide +kernel
set_option maxRecDepth 65536 in
set_option maxHeartbeats 40000000 in
theorem rm0 (l : Launch) (Z : State) (a0 : Array Value) (hw : ∀ d ∈ tables_1, d.before a0 Z = true) (u0 : Int32) (u1 : Int32) (u2 : Int32) (u3 : Int32) (u4 : Int32) (u5 : Int64) (b0 : Addr) (b1 : Addr) (b2 : Addr) (b3 : Addr) (S0 : Sta Z Z.heap "com/example/hylly/hylly/store/Cell$Type" "PUT" "Lcom/example/hylly/hylly/store/Cell$Type;" (.ref b0)) (S1 : Sta Z Z.heap "com/example/hylly/hylly/store/Cell$Type" "DELETE_COLUMN" "Lcom/example/hylly/hylly/store/Cell$Type;" (.ref b1)) (S2 : Sta Z Z.heap "com/example/hylly/hylly/store/Cell$Type" "DELETE_VERSION" "Lcom/example/hylly/hylly/store/Cell$Type;" (.ref b2)) (S3 : Sta Z Z.heap "com/example/hylly/hylly/store/Cell$Type" "DELETE_FAMILY" "Lcom/example/hylly/hylly/store/Cell$Type;" (.ref b3)) (m01 : ¬ b0 = b1) (m02 : ¬ b0 = b2) (m03 : ¬ b0 = b3) (m12 : ¬ b1 = b2) (m13 : ¬ b1 = b3) (m23 : ¬ b2 = b3) :
    oCon l Z x code maxLocals ret room_1 #[(.int u0), (.int u1), (.int u2), (.int u3), (.int u4), (.long u5)] [] (fun v _ => v = some (.int 1)) := by
  refine oEnter (plainFor_of_name pn_com_example_hylly_hylly_store_CellSizePinLaw) (Ls := #[.val (.int u0), .val (.int u1), .val (.int u2), .val (.int u3), .val (.int u4), .val (.long u5), .second, .unset, .unset, .unset, .unset, .unset, .unset, .unset, .unset, .unset]) (fun m => by first | (simp [entryFrame, mkF, argsToLocals, Value.category, maxLocals]; done) | rfl) ?_
  intro p e s m below meth c T E X
  have ne0 := m03
  have ne1 := m13
  have ne2 := m23
  refine gIloadN E X at_0 rfl (q := 1) rfl ?_
  refine gBipush E X at_1 (v := (15 : Int32)) (by decide) (q := 3) rfl ?_
  refine gIand E X at_3 (z := (u0 &&& (15 : Int32))) rfl (q := 4) rfl ?_
  refine gIstore E X at_4 (l' := #[.val (.int u0), .val (.int u1), .val (.int u2), .val (.int u3), .val (.int u4), .val (.long u5), .second, .val (.int (u0 &&& (15 : Int32))), .unset, .unset, .unset, .unset, .unset, .unset, .unset, .unset]) rfl (q := 6) rfl ?_
  refine gIloadN E X at_6 rfl (q := 7) rfl ?_
  refine gBipush E X at_7 (v := (15 : Int32)) (by decide) (q := 9) rfl ?_
  refine gIand E X at_9 (z := (u1 &&& (15 : Int32))) rfl (q := 10) rfl ?_
  refine gIstore E X at_10 (l' := #[.val (.int u0), .val (.int u1), .val (.int u2), .val (.int u3), .val (.int u4), .val (.long u5), .second, .val (.int (u0 &&& (15 : Int32))), .val (.int (u1 &&& (15 : Int32))), .unset, .unset, .unset, .unset, .unset, .unset, .unset]) rfl (q := 12) rfl ?_
  refine gIloadN E X at_12 rfl (q := 13) rfl ?_
  refine gBipush E X at_13 (v := (15 : Int32)) (by decide) (q := 15) rfl ?_
  refine gIand E X at_15 (z := (u2 &&& (15 : Int32))) rfl (q := 16) rfl ?_
  refine gIstore E X at_16 (l' := #[.val (.int u0), .val (.int u1), .val (.int u2), .val (.int u3), .val (.int u4), .val (.long u5), .second, .val (.int (u0 &&& (15 : Int32))), .val (.int (u1 &&& (15 : Int32))), .val (.int (u2 &&& (15 : Int32))), .unset, .unset, .unset, .unset, .unset, .unset]) rfl (q := 18) rfl ?_
  refine gIloadN E X at_18 rfl (q := 19) rfl ?_
  refine gBipush E X at_19 (v := (15 : Int32)) (by decide) (q := 21) rfl ?_
  refine gIand E X at_21 (z := (u3 &&& (15 : Int32))) rfl (q := 22) rfl ?_
  refine gIstore E X at_22 (l' := #[.val (.int u0), .val (.int u1), .val (.int u2), .val (.int u3), .val (.int u4), .val (.long u5), .second, .val (.int (u0 &&& (15 : Int32))), .val (.int (u1 &&& (15 : Int32))), .val (.int (u2 &&& (15 : Int32))), .val (.int (u3 &&& (15 : Int32))), .unset, .unset, .unset, .unset, .unset]) rfl (q := 24) rfl ?_
  refine gIload E X at_24 rfl (q := 26) rfl ?_
  refine gIconst E X at_26 (v := (3 : Int32)) (by decide) (q := 27) rfl ?_
  refine gIand E X at_27 (z := (u4 &&& (3 : Int32))) rfl (q := 28) rfl ?_
  refine gIstore E X at_28 (l' := #[.val (.int u0), .val (.int u1), .val (.int u2), .val (.int u3), .val (.int u4), .val (.long u5), .second, .val (.int (u0 &&& (15 : Int32))), .val (.int (u1 &&& (15 : Int32))), .val (.int (u2 &&& (15 : Int32))), .val (.int (u3 &&& (15 : Int32))), .val (.int (u4 &&& (3 : Int32))), .unset, .unset, .unset, .unset]) rfl (q := 30) rfl ?_
  refine (fun (k : ∀ (rl : Int32), rl = (u0 &&& (15 : Int32)) → oG p e below s Z room_1 (fun v _ => v = some (.int 1)) T (mkF m 30 #[.val (.int u0), .val (.int u1), .val (.int u2), .val (.int u3), .val (.int u4), .val (.long u5), .second, .val (.int rl), .val (.int (u1 &&& (15 : Int32))), .val (.int (u2 &&& (15 : Int32))), .val (.int (u3 &&& (15 : Int32))), .val (.int (u4 &&& (3 : Int32))), .unset, .unset, .unset, .unset] [])) => k _ rfl) ?_
  intro rl hrl
  have zrl : 0 ≤ rl.toInt ∧ rl.toInt ≤ 15 := by rw [hrl]; exact own_15 u0
  refine (fun (k : ∀ (fl : Int32), fl = (u1 &&& (15 : Int32)) → oG p e below s Z room_1 (fun v _ => v = some (.int 1)) T (mkF m 30 #[.val (.int u0), .val (.int u1), .val (.int u2), .val (.int u3), .val (.int u4), .val (.long u5), .second, .val (.int rl), .val (.int fl), .val (.int (u2 &&& (15 : Int32))), .val (.int (u3 &&& (15 : Int32))), .val (.int (u4 &&& (3 : Int32))), .unset, .unset, .unset, .unset] [])) => k _ rfl) ?_
  intro fl hfl
  have zfl : 0 ≤ fl.toInt ∧ fl.toInt ≤ 15 := by rw [hfl]; exact own_15 u1
  refine (fun (k : ∀ (ql : Int32), ql = (u2 &&& (15 : Int32)) → oG p e below s Z room_1 (fun v _ => v = some (.int 1)) T (mkF m 30 #[.val (.int u0), .val (.int u1), .val (.int u2), .val (.int u3), .val (.int u4), .val (.long u5), .second, .val (.int rl), .val (.int fl), .val (.int ql), .val (.int (u3 &&& (15 : Int32))), .val (.int (u4 &&& (3 : Int32))), .unset, .unset, .unset, .unset] [])) => k _ rfl) ?_
  intro ql hql
  have zql : 0 ≤ ql.toInt ∧ ql.toInt ≤ 15 := by rw [hql]; exact own_15 u2
  refine (fun (k : ∀ (vl : Int32), vl = (u3 &&& (15 : Int32)) → oG p e below s Z room_1 (fun v _ => v = some (.int 1)) T (mkF m 30 #[.val (.int u0), .val (.int u1), .val (.int u2), .val (.int u3), .val (.int u4), .val (.long u5), .second, .val (.int rl), .val (.int fl), .val (.int ql), .val (.int vl), .val (.int (u4 &&& (3 : Int32))), .unset, .unset, .unset, .unset] [])) => k _ rfl) ?_
  intro vl hvl
  have zvl : 0 ≤ vl.toInt ∧ vl.toInt ≤ 15 := by rw [hvl]; exact own_15 u3
  refine (fun (k : ∀ (kk : Int32), kk = (u4 &&& (3 : Int32)) → oG p e below s Z room_1 (fun v _ => v = some (.int 1)) T (mkF m 30 #[.val (.int u0), .val (.int u1), .val (.int u2), .val (.int u3), .val (.int u4), .val (.long u5), .second, .val (.int rl), .val (.int fl), .val (.int ql), .val (.int vl), .val (.int kk), .unset, .unset, .unset, .unset] [])) => k _ rfl) ?_
  intro kk hkk
  rcases (show kk = (0 : Int32) ∨ kk = (1 : Int32) ∨ kk = (2 : Int32) ∨ kk = (3 : Int32) from by rw [hkk]; exact own_k u4) with rfl | rfl | rfl | rfl
  · refine gIload E X at_30 rfl (q := 32) rfl ?_
    refine gIf_ne E X at_32 (by decide) (q := 43) (by decide) (q' := 35) rfl (fun h32 => by exfalso; exact absurd h32 (by decide)) (fun h32 => ?_)
    refine gGetS E X at_35 (hw _ (List.mem_of_getElem? (i := 0) rfl)) Via.refl S0 (q := 38) rfl ?_
    intro T1 X1
    refine gAstore E X1 at_38 rfl (l' := #[.val (.int u0), .val (.int u1), .val (.int u2), .val (.int u3), .val (.int u4), .val (.long u5), .second, .val (.int rl), .val (.int fl), .val (.int ql), .val (.int vl), .val (.int (0 : Int32)), .val (.ref b0), .unset, .unset, .unset]) rfl (q := 40) rfl ?_
    refine gGoto E X1 at_40 (by decide) (q := 76) (by decide) ?_
    refine gAload E X1 at_76 rfl rfl (q := 78) rfl ?_
    refine gGetS E X1 at_78 (hw _ (List.mem_of_getElem? (i := 0) rfl)) Via.refl S0 (q := 81) rfl ?_
    intro T2 X2
    refine gAc_eq E X2 rfl rfl at_81 (by decide) (q := 87) (by decide) (q' := 84) rfl (fun h81 => ?_) (fun h81 => by exfalso; exact h81 rfl)
    refine gAload E X2 at_87 rfl rfl (q := 89) rfl ?_
    refine gGetS E X2 at_89 (hw _ (List.mem_of_getElem? (i := 3) rfl)) Via.refl S3 (q := 92) rfl ?_
    intro T3 X3
    refine gAc_ne E X3 rfl rfl at_92 (by decide) (q := 98) (by decide) (q' := 95) rfl (fun h92 => ?_) (fun h92 => by exfalso; cases h92; exact m03 rfl)
    refine gNew E X3 (c2 := 1) (s2 := 6) at_98 (hw _ (List.mem_of_getElem? (i := 5) rfl)) (hw _ (List.mem_of_getElem? (i := 6) rfl)) (hw _ (List.mem_of_getElem? (i := 7) rfl)) (lay_Cell Z a0 hw) (by decide) (by decide) (by decide) (by decide) (q := 101) rfl ?_
    intro T4 a4 X4
    refine gDup E X4 at_101 rfl (q := 102) rfl ?_
    refine gIload E X4 at_102 rfl (q := 104) rfl ?_
    refine gNewA E X4 (c2 := 2) (s2 := 21) (cap := 15) (vs := (List.replicate rl.toNatClampNeg (.int (0 : Int32)))) (ty := .byte) rfl at_104 (hw _ (List.mem_of_getElem? (i := 8) rfl)) (own_neg zrl) (own_cap zrl) (by decide) rfl (by decide) (by decide) (by decide) (by decide) (q := 106) rfl ?_
    intro T5 a5 X5
    refine gIload E X5 at_106 rfl (q := 108) rfl ?_
    refine gNewA E X5 (c2 := 3) (s2 := 36) (cap := 15) (vs := (List.replicate fl.toNatClampNeg (.int (0 : Int32)))) (ty := .byte) rfl at_108 (hw _ (List.mem_of_getElem? (i := 8) rfl)) (own_neg zfl) (own_cap zfl) (by decide) rfl (by decide) (by decide) (by decide) (by decide) (q := 110) rfl ?_
    intro T6 a6 X6
    refine gIload E X6 at_110 rfl (q := 112) rfl ?_
    refine gNewA E X6 (c2 := 4) (s2 := 51) (cap := 15) (vs := (List.replicate ql.toNatClampNeg (.int (0 : Int32)))) (ty := .byte) rfl at_112 (hw _ (List.mem_of_getElem? (i := 8) rfl)) (own_neg zql) (own_cap zql) (by decide) rfl (by decide) (by decide) (by decide) (by decide) (q := 114) rfl ?_
    intro T7 a7 X7
    refine gLload E X7 at_114 rfl (q := 116) rfl ?_
    refine gAload E X7 at_116 rfl rfl (q := 118) rfl ?_
    refine gIload E X7 at_118 rfl (q := 120) rfl ?_
    refine gNewA E X7 (c2 := 5) (s2 := 66) (cap := 15) (vs := (List.replicate vl.toNatClampNeg (.int (0 : Int32)))) (ty := .byte) rfl at_120 (hw _ (List.mem_of_getElem? (i := 8) rfl)) (own_neg zvl) (own_cap zvl) (by decide) rfl (by decide) (by decide) (by decide) (by decide) (q := 122) rfl ?_
    intro T8 a8 X8
    refine gCallI E X8 (W := 1) (c2 := 15) (s2 := 194) (a := a4) [(.ref a5), (.ref a6), (.ref a7), (.long u5), (.ref b0), (.ref a8)] [(.ref a4)] at_122 rfl (hw _ (List.mem_of_getElem? (i := 9) rfl)) (hw _ (List.mem_of_getElem? (i := 10) rfl)) (hw _ (List.mem_of_getElem? (i := 7) rfl)) (hw _ (List.mem_of_getElem? (i := 11) rfl)) (by decide) (cI l Z a0 hw a4 a5 a6 a7 u5 b0 a8 b0 b3 ql vl (i := 0) rfl S0 S3 (Or.inr ⟨3, _, _, rfl, oRepLen (own_neg zql)⟩) (Or.inr ⟨4, _, _, rfl, oRepLen (own_neg zvl)⟩) (fun z => absurd rfl z) (fun z => absurd z ne0)) pd_2 rfl rfl rfl (by decide) (Nat.le_of_eq rfl) (by decide) (by decide) (by decide) (by decide) (by decide) (q := 125) rfl ?_
    intro T9 v9 V9 R9 X9
    obtain ⟨rfl, rfl⟩ := R9
    replace X9 : oX p l e room_1 s m #[(.int u0), (.int u1), (.int u2), (.int u3), (.int u4), (.long u5)] below meth c Z T9 [(a4, (.inl ("com/example/hylly/hylly/store/Cell", [("com/example/hylly/hylly/store/Cell", "row", "[B", (.ref a5)), ("com/example/hylly/hylly/store/Cell", "family", "[B", (.ref a6)), ("com/example/hylly/hylly/store/Cell", "qualifier", "[B", (.ref a7)), ("com/example/hylly/hylly/store/Cell", "timestamp", "J", (.long u5)), ("com/example/hylly/hylly/store/Cell", "type", "Lcom/example/hylly/hylly/store/Cell$Type;", (.ref b0)), ("com/example/hylly/hylly/store/Cell", "value", "[B", (.ref a8))]))), (a5, (.inr (.byte, (List.replicate rl.toNatClampNeg (.int (0 : Int32)))))), (a6, (.inr (.byte, (List.replicate fl.toNatClampNeg (.int (0 : Int32)))))), (a7, (.inr (.byte, (List.replicate ql.toNatClampNeg (.int (0 : Int32)))))), (a8, (.inr (.byte, (List.replicate vl.toNatClampNeg (.int (0 : Int32))))))] 15 194 := X9
    show oG p e below s Z room_1 (fun v _ => v = some (.int 1)) T9 (mkF m 125 #[.val (.int u0), .val (.int u1), .val (.int u2), .val (.int u3), .val (.int u4), .val (.long u5), .second, .val (.int rl), .val (.int fl), .val (.int ql), .val (.int vl), .val (.int (0 : Int32)), .val (.ref b0), .unset, .unset, .unset] [(.ref a4)])
    refine gAstore E X9 at_125 rfl (l' := #[.val (.int u0), .val (.int u1), .val (.int u2), .val (.int u3), .val (.int u4), .val (.long u5), .second, .val (.int rl), .val (.int fl), .val (.int ql), .val (.int vl), .val (.int (0 : Int32)), .val (.ref b0), .val (.ref a4), .unset, .unset]) rfl (q := 127) rfl ?_
    refine gLdc2J E X9 at_127 (hw _ (List.mem_of_getElem? (i := 49) rfl)) (q := 130) rfl ?_
    refine gIload E X9 at_130 rfl (q := 132) rfl ?_
    refine gI2l E X9 at_132 (z := rl.toInt64) rfl (q := 133) rfl ?_
    refine gLadd E X9 at_133 (z := ((8 : Int64) + rl.toInt64)) rfl (q := 134) rfl ?_
    refine gIload E X9 at_134 rfl (q := 136) rfl ?_
    refine gI2l E X9 at_136 (z := fl.toInt64) rfl (q := 137) rfl ?_
    refine gLadd E X9 at_137 (z := (((8 : Int64) + rl.toInt64) + fl.toInt64)) rfl (q := 138) rfl ?_
    refine gIload E X9 at_138 rfl (q := 140) rfl ?_
    refine gI2l E X9 at_140 (z := ql.toInt64) rfl (q := 141) rfl ?_
    refine gLadd E X9 at_141 (z := ((((8 : Int64) + rl.toInt64) + fl.toInt64) + ql.toInt64)) rfl (q := 142) rfl ?_
    refine gIload E X9 at_142 rfl (q := 144) rfl ?_
    refine gI2l E X9 at_144 (z := vl.toInt64) rfl (q := 145) rfl ?_
    refine gLadd E X9 at_145 (z := (((((8 : Int64) + rl.toInt64) + fl.toInt64) + ql.toInt64) + vl.toInt64)) rfl (q := 146) rfl ?_
    refine gLstore E X9 at_146 (l' := #[.val (.int u0), .val (.int u1), .val (.int u2), .val (.int u3), .val (.int u4), .val (.long u5), .second, .val (.int rl), .val (.int fl), .val (.int ql), .val (.int vl), .val (.int (0 : Int32)), .val (.ref b0), .val (.ref a4), .val (.long (((((8 : Int64) + rl.toInt64) + fl.toInt64) + ql.toInt64) + vl.toInt64)), .second]) rfl (q := 148) rfl ?_
    refine gAload E X9 at_148 rfl rfl (q := 150) rfl ?_
    refine gCallV E X9 (W := 0) (c2 := 15) (s2 := 194) (i := 0) (a := a4) [] [] at_150 rfl (hw _ (List.mem_of_getElem? (i := 50) rfl)) (hw _ (List.mem_of_getElem? (i := 51) rfl)) (hw _ (List.mem_of_getElem? (i := 53) rfl)) (hw _ (List.mem_of_getElem? (i := 53) rfl)) (hw _ (List.mem_of_getElem? (i := 52) rfl)) (hw _ (List.mem_of_getElem? (i := 7) rfl)) (hw _ (List.mem_of_getElem? (i := 54) rfl)) (by decide) (cZ l Z a0 hw a4 a5 a6 a7 u5 b0 a8 rl fl ql vl (i := 0) rfl (Or.inr ⟨1, _, _, rfl, oRepLen (own_neg zrl)⟩) (Or.inr ⟨2, _, _, rfl, oRepLen (own_neg zfl)⟩) (Or.inr ⟨3, _, _, rfl, oRepLen (own_neg zql)⟩) (Or.inr ⟨4, _, _, rfl, oRepLen (own_neg zvl)⟩)) pd_3 rfl rfl rfl (by decide) (Nat.le_of_eq rfl) (by decide) (by decide) (by decide) (by decide) (by decide) (q := 153) rfl ?_
    intro T10 v10 V10 R10 X10
    obtain ⟨rfl, rfl⟩ := R10
    replace X10 : oX p l e room_1 s m #[(.int u0), (.int u1), (.int u2), (.int u3), (.int u4), (.long u5)] below meth c Z T10 [(a4, (.inl ("com/example/hylly/hylly/store/Cell", [("com/example/hylly/hylly/store/Cell", "row", "[B", (.ref a5)), ("com/example/hylly/hylly/store/Cell", "family", "[B", (.ref a6)), ("com/example/hylly/hylly/store/Cell", "qualifier", "[B", (.ref a7)), ("com/example/hylly/hylly/store/Cell", "timestamp", "J", (.long u5)), ("com/example/hylly/hylly/store/Cell", "type", "Lcom/example/hylly/hylly/store/Cell$Type;", (.ref b0)), ("com/example/hylly/hylly/store/Cell", "value", "[B", (.ref a8))]))), (a5, (.inr (.byte, (List.replicate rl.toNatClampNeg (.int (0 : Int32)))))), (a6, (.inr (.byte, (List.replicate fl.toNatClampNeg (.int (0 : Int32)))))), (a7, (.inr (.byte, (List.replicate ql.toNatClampNeg (.int (0 : Int32)))))), (a8, (.inr (.byte, (List.replicate vl.toNatClampNeg (.int (0 : Int32))))))] 15 194 := X10
    show oG p e below s Z room_1 (fun v _ => v = some (.int 1)) T10 (mkF m 153 #[.val (.int u0), .val (.int u1), .val (.int u2), .val (.int u3), .val (.int u4), .val (.long u5), .second, .val (.int rl), .val (.int fl), .val (.int ql), .val (.int vl), .val (.int (0 : Int32)), .val (.ref b0), .val (.ref a4), .val (.long (((((8 : Int64) + rl.toInt64) + fl.toInt64) + ql.toInt64) + vl.toInt64)), .second] [(.long (rl.toInt64 + fl.toInt64 + ql.toInt64 + (8 : Int64) + vl.toInt64))])
    refine gLload E X10 at_153 rfl (q := 155) rfl ?_
    refine gLcmp E X10 at_155 (q := 156) rfl ?_
    refine gLc_ne E X10 at_156 (by decide) (q := 163) (by decide) (q' := 159) rfl (fun h156 => by exfalso; exact h156 (own_sum _ _ _ _)) (fun h156 => ?_)
    refine gIconst E X10 at_159 (v := (1 : Int32)) (by decide) (q := 160) rfl ?_
    refine gGoto E X10 at_160 (by decide) (q := 164) (by decide) ?_
    exact gRetN E X10 (by simp) at_164 (by decide) (by decide) (rfl)
  · refine gIload E X at_30 rfl (q := 32) rfl ?_
    refine gIf_ne E X at_32 (by decide) (q := 43) (by decide) (q' := 35) rfl (fun h32 => ?_) (fun h32 => by exfalso; exact absurd h32 (by decide))
    refine gIload E X at_43 rfl (q := 45) rfl ?_
    refine gIconst E X at_45 (v := (1 : Int32)) (by decide) (q := 46) rfl ?_
    refine gIc_ne E X at_46 (by decide) (q := 57) (by decide) (q' := 49) rfl (fun h46 => by exfalso; exact absurd h46 (by decide)) (fun h46 => ?_)
    refine gGetS E X at_49 (hw _ (List.mem_of_getElem? (i := 58) rfl)) Via.refl S1 (q := 52) rfl ?_
    intro T11 X11
    refine gAstore E X11 at_52 rfl (l' := #[.val (.int u0), .val (.int u1), .val (.int u2), .val (.int u3), .val (.int u4), .val (.long u5), .second, .val (.int rl), .val (.int fl), .val (.int ql), .val (.int vl), .val (.int (1 : Int32)), .val (.ref b1), .unset, .unset, .unset]) rfl (q := 54) rfl ?_
    refine gGoto E X11 at_54 (by decide) (q := 76) (by decide) ?_
    refine gAload E X11 at_76 rfl rfl (q := 78) rfl ?_
    refine gGetS E X11 at_78 (hw _ (List.mem_of_getElem? (i := 0) rfl)) Via.refl S0 (q := 81) rfl ?_
    intro T12 X12
    refine gAc_eq E X12 rfl rfl at_81 (by decide) (q := 87) (by decide) (q' := 84) rfl (fun h81 => by exfalso; cases h81; exact m01 rfl) (fun h81 => ?_)
    refine gIconst E X12 at_84 (v := (0 : Int32)) (by decide) (q := 85) rfl ?_
    refine gIstore E X12 at_85 (l' := #[.val (.int u0), .val (.int u1), .val (.int u2), .val (.int u3), .val (.int u4), .val (.long u5), .second, .val (.int rl), .val (.int fl), .val (.int ql), .val (.int (0 : Int32)), .val (.int (1 : Int32)), .val (.ref b1), .unset, .unset, .unset]) rfl (q := 87) rfl ?_
    refine gAload E X12 at_87 rfl rfl (q := 89) rfl ?_
    refine gGetS E X12 at_89 (hw _ (List.mem_of_getElem? (i := 3) rfl)) Via.refl S3 (q := 92) rfl ?_
    intro T13 X13
    refine gAc_ne E X13 rfl rfl at_92 (by decide) (q := 98) (by decide) (q' := 95) rfl (fun h92 => ?_) (fun h92 => by exfalso; cases h92; exact m13 rfl)
    refine gNew E X13 (c2 := 1) (s2 := 6) at_98 (hw _ (List.mem_of_getElem? (i := 5) rfl)) (hw _ (List.mem_of_getElem? (i := 6) rfl)) (hw _ (List.mem_of_getElem? (i := 7) rfl)) (lay_Cell Z a0 hw) (by decide) (by decide) (by decide) (by decide) (q := 101) rfl ?_
    intro T14 a14 X14
    refine gDup E X14 at_101 rfl (q := 102) rfl ?_
    refine gIload E X14 at_102 rfl (q := 104) rfl ?_
    refine gNewA E X14 (c2 := 2) (s2 := 21) (cap := 15) (vs := (List.replicate rl.toNatClampNeg (.int (0 : Int32)))) (ty := .byte) rfl at_104 (hw _ (List.mem_of_getElem? (i := 8) rfl)) (own_neg zrl) (own_cap zrl) (by decide) rfl (by decide) (by decide) (by decide) (by decide) (q := 106) rfl ?_
    intro T15 a15 X15
    refine gIload E X15 at_106 rfl (q := 108) rfl ?_
    refine gNewA E X15 (c2 := 3) (s2 := 36) (cap := 15) (vs := (List.replicate fl.toNatClampNeg (.int (0 : Int32)))) (ty := .byte) rfl at_108 (hw _ (List.mem_of_getElem? (i := 8) rfl)) (own_neg zfl) (own_cap zfl) (by decide) rfl (by decide) (by decide) (by decide) (by decide) (q := 110) rfl ?_
    intro T16 a16 X16
    refine gIload E X16 at_110 rfl (q := 112) rfl ?_
    refine gNewA E X16 (c2 := 4) (s2 := 51) (cap := 15) (vs := (List.replicate ql.toNatClampNeg (.int (0 : Int32)))) (ty := .byte) rfl at_112 (hw _ (List.mem_of_getElem? (i := 8) rfl)) (own_neg zql) (own_cap zql) (by decide) rfl (by decide) (by decide) (by decide) (by decide) (q := 114) rfl ?_
    intro T17 a17 X17
    refine gLload E X17 at_114 rfl (q := 116) rfl ?_
    refine gAload E X17 at_116 rfl rfl (q := 118) rfl ?_
    refine gIload E X17 at_118 rfl (q := 120) rfl ?_
    refine gNewA E X17 (c2 := 5) (s2 := 51) (cap := 0) (vs := []) (ty := .byte) rfl at_120 (hw _ (List.mem_of_getElem? (i := 8) rfl)) (by decide) (by decide) (by decide) rfl (by decide) (by decide) (by decide) (by decide) (q := 122) rfl ?_
    intro T18 a18 X18
    refine gCallI E X18 (W := 1) (c2 := 15) (s2 := 179) (a := a14) [(.ref a15), (.ref a16), (.ref a17), (.long u5), (.ref b1), (.ref a18)] [(.ref a14)] at_122 rfl (hw _ (List.mem_of_getElem? (i := 9) rfl)) (hw _ (List.mem_of_getElem? (i := 10) rfl)) (hw _ (List.mem_of_getElem? (i := 7) rfl)) (hw _ (List.mem_of_getElem? (i := 11) rfl)) (by decide) (cI l Z a0 hw a14 a15 a16 a17 u5 b1 a18 b0 b3 ql (0 : Int32) (i := 0) rfl S0 S3 (Or.inr ⟨3, _, _, rfl, oRepLen (own_neg zql)⟩) (Or.inr ⟨4, _, _, rfl, rfl⟩) (fun _ => by decide) (fun z => absurd z ne1)) pd_2 rfl rfl rfl (by decide) (Nat.le_of_eq rfl) (by decide) (by decide) (by decide) (by decide) (by decide) (q := 125) rfl ?_
    intro T19 v19 V19 R19 X19
    obtain ⟨rfl, rfl⟩ := R19
    replace X19 : oX p l e room_1 s m #[(.int u0), (.int u1), (.int u2), (.int u3), (.int u4), (.long u5)] below meth c Z T19 [(a14, (.inl ("com/example/hylly/hylly/store/Cell", [("com/example/hylly/hylly/store/Cell", "row", "[B", (.ref a15)), ("com/example/hylly/hylly/store/Cell", "family", "[B", (.ref a16)), ("com/example/hylly/hylly/store/Cell", "qualifier", "[B", (.ref a17)), ("com/example/hylly/hylly/store/Cell", "timestamp", "J", (.long u5)), ("com/example/hylly/hylly/store/Cell", "type", "Lcom/example/hylly/hylly/store/Cell$Type;", (.ref b1)), ("com/example/hylly/hylly/store/Cell", "value", "[B", (.ref a18))]))), (a15, (.inr (.byte, (List.replicate rl.toNatClampNeg (.int (0 : Int32)))))), (a16, (.inr (.byte, (List.replicate fl.toNatClampNeg (.int (0 : Int32)))))), (a17, (.inr (.byte, (List.replicate ql.toNatClampNeg (.int (0 : Int32)))))), (a18, (.inr (.byte, [])))] 15 179 := X19
    show oG p e below s Z room_1 (fun v _ => v = some (.int 1)) T19 (mkF m 125 #[.val (.int u0), .val (.int u1), .val (.int u2), .val (.int u3), .val (.int u4), .val (.long u5), .second, .val (.int rl), .val (.int fl), .val (.int ql), .val (.int (0 : Int32)), .val (.int (1 : Int32)), .val (.ref b1), .unset, .unset, .unset] [(.ref a14)])
    refine gAstore E X19 at_125 rfl (l' := #[.val (.int u0), .val (.int u1), .val (.int u2), .val (.int u3), .val (.int u4), .val (.long u5), .second, .val (.int rl), .val (.int fl), .val (.int ql), .val (.int (0 : Int32)), .val (.int (1 : Int32)), .val (.ref b1), .val (.ref a14), .unset, .unset]) rfl (q := 127) rfl ?_
    refine gLdc2J E X19 at_127 (hw _ (List.mem_of_getElem? (i := 49) rfl)) (q := 130) rfl ?_
    refine gIload E X19 at_130 rfl (q := 132) rfl ?_
    refine gI2l E X19 at_132 (z := rl.toInt64) rfl (q := 133) rfl ?_
    refine gLadd E X19 at_133 (z := ((8 : Int64) + rl.toInt64)) rfl (q := 134) rfl ?_
    refine gIload E X19 at_134 rfl (q := 136) rfl ?_
    refine gI2l E X19 at_136 (z := fl.toInt64) rfl (q := 137) rfl ?_
    refine gLadd E X19 at_137 (z := (((8 : Int64) + rl.toInt64) + fl.toInt64)) rfl (q := 138) rfl ?_
    refine gIload E X19 at_138 rfl (q := 140) rfl ?_
    refine gI2l E X19 at_140 (z := ql.toInt64) rfl (q := 141) rfl ?_
    refine gLadd E X19 at_141 (z := ((((8 : Int64) + rl.toInt64) + fl.toInt64) + ql.toInt64)) rfl (q := 142) rfl ?_
    refine gIload E X19 at_142 rfl (q := 144) rfl ?_
    refine gI2l E X19 at_144 (z := (0 : Int64)) (by decide) (q := 145) rfl ?_
    refine gLadd E X19 at_145 (z := (((((8 : Int64) + rl.toInt64) + fl.toInt64) + ql.toInt64) + (0 : Int64))) rfl (q := 146) rfl ?_
    refine gLstore E X19 at_146 (l' := #[.val (.int u0), .val (.int u1), .val (.int u2), .val (.int u3), .val (.int u4), .val (.long u5), .second, .val (.int rl), .val (.int fl), .val (.int ql), .val (.int (0 : Int32)), .val (.int (1 : Int32)), .val (.ref b1), .val (.ref a14), .val (.long (((((8 : Int64) + rl.toInt64) + fl.toInt64) + ql.toInt64) + (0 : Int64))), .second]) rfl (q := 148) rfl ?_
    refine gAload E X19 at_148 rfl rfl (q := 150) rfl ?_
    refine gCallV E X19 (W := 0) (c2 := 15) (s2 := 179) (i := 0) (a := a14) [] [] at_150 rfl (hw _ (List.mem_of_getElem? (i := 50) rfl)) (hw _ (List.mem_of_getElem? (i := 51) rfl)) (hw _ (List.mem_of_getElem? (i := 53) rfl)) (hw _ (List.mem_of_getElem? (i := 53) rfl)) (hw _ (List.mem_of_getElem? (i := 52) rfl)) (hw _ (List.mem_of_getElem? (i := 7) rfl)) (hw _ (List.mem_of_getElem? (i := 54) rfl)) (by decide) (cZ l Z a0 hw a14 a15 a16 a17 u5 b1 a18 rl fl ql (0 : Int32) (i := 0) rfl (Or.inr ⟨1, _, _, rfl, oRepLen (own_neg zrl)⟩) (Or.inr ⟨2, _, _, rfl, oRepLen (own_neg zfl)⟩) (Or.inr ⟨3, _, _, rfl, oRepLen (own_neg zql)⟩) (Or.inr ⟨4, _, _, rfl, rfl⟩)) pd_3 rfl rfl rfl (by decide) (Nat.le_of_eq rfl) (by decide) (by decide) (by decide) (by decide) (by decide) (q := 153) rfl ?_
    intro T20 v20 V20 R20 X20
    obtain ⟨rfl, rfl⟩ := R20
    replace X20 : oX p l e room_1 s m #[(.int u0), (.int u1), (.int u2), (.int u3), (.int u4), (.long u5)] below meth c Z T20 [(a14, (.inl ("com/example/hylly/hylly/store/Cell", [("com/example/hylly/hylly/store/Cell", "row", "[B", (.ref a15)), ("com/example/hylly/hylly/store/Cell", "family", "[B", (.ref a16)), ("com/example/hylly/hylly/store/Cell", "qualifier", "[B", (.ref a17)), ("com/example/hylly/hylly/store/Cell", "timestamp", "J", (.long u5)), ("com/example/hylly/hylly/store/Cell", "type", "Lcom/example/hylly/hylly/store/Cell$Type;", (.ref b1)), ("com/example/hylly/hylly/store/Cell", "value", "[B", (.ref a18))]))), (a15, (.inr (.byte, (List.replicate rl.toNatClampNeg (.int (0 : Int32)))))), (a16, (.inr (.byte, (List.replicate fl.toNatClampNeg (.int (0 : Int32)))))), (a17, (.inr (.byte, (List.replicate ql.toNatClampNeg (.int (0 : Int32)))))), (a18, (.inr (.byte, [])))] 15 179 := X20
    show oG p e below s Z room_1 (fun v _ => v = some (.int 1)) T20 (mkF m 153 #[.val (.int u0), .val (.int u1), .val (.int u2), .val (.int u3), .val (.int u4), .val (.long u5), .second, .val (.int rl), .val (.int fl), .val (.int ql), .val (.int (0 : Int32)), .val (.int (1 : Int32)), .val (.ref b1), .val (.ref a14), .val (.long (((((8 : Int64) + rl.toInt64) + fl.toInt64) + ql.toInt64) + (0 : Int64))), .second] [(.long (rl.toInt64 + fl.toInt64 + ql.toInt64 + (8 : Int64) + (0 : Int32).toInt64))])
    refine gLload E X20 at_153 rfl (q := 155) rfl ?_
    refine gLcmp E X20 at_155 (q := 156) rfl ?_
    refine gLc_ne E X20 at_156 (by decide) (q := 163) (by decide) (q' := 159) rfl (fun h156 => by exfalso; exact h156 (own_sum _ _ _ _)) (fun h156 => ?_)
    refine gIconst E X20 at_159 (v := (1 : Int32)) (by decide) (q := 160) rfl ?_
    refine gGoto E X20 at_160 (by decide) (q := 164) (by decide) ?_
    exact gRetN E X20 (by simp) at_164 (by decide) (by decide) (rfl)
  · refine gIload E X at_30 rfl (q := 32) rfl ?_
    refine gIf_ne E X at_32 (by decide) (q := 43) (by decide) (q' := 35) rfl (fun h32 => ?_) (fun h32 => by exfalso; exact absurd h32 (by decide))
    refine gIload E X at_43 rfl (q := 45) rfl ?_
    refine gIconst E X at_45 (v := (1 : Int32)) (by decide) (q := 46) rfl ?_
    refine gIc_ne E X at_46 (by decide) (q := 57) (by decide) (q' := 49) rfl (fun h46 => ?_) (fun h46 => by exfalso; exact absurd h46 (by decide))
    refine gIload E X at_57 rfl (q := 59) rfl ?_
    refine gIconst E X at_59 (v := (2 : Int32)) (by decide) (q := 60) rfl ?_
    refine gIc_ne E X at_60 (by decide) (q := 71) (by decide) (q' := 63) rfl (fun h60 => by exfalso; exact absurd h60 (by decide)) (fun h60 => ?_)
    refine gGetS E X at_63 (hw _ (List.mem_of_getElem? (i := 56) rfl)) Via.refl S2 (q := 66) rfl ?_
    intro T21 X21
    refine gAstore E X21 at_66 rfl (l' := #[.val (.int u0), .val (.int u1), .val (.int u2), .val (.int u3), .val (.int u4), .val (.long u5), .second, .val (.int rl), .val (.int fl), .val (.int ql), .val (.int vl), .val (.int (2 : Int32)), .val (.ref b2), .unset, .unset, .unset]) rfl (q := 68) rfl ?_
    refine gGoto E X21 at_68 (by decide) (q := 76) (by decide) ?_
    refine gAload E X21 at_76 rfl rfl (q := 78) rfl ?_
    refine gGetS E X21 at_78 (hw _ (List.mem_of_getElem? (i := 0) rfl)) Via.refl S0 (q := 81) rfl ?_
    intro T22 X22
    refine gAc_eq E X22 rfl rfl at_81 (by decide) (q := 87) (by decide) (q' := 84) rfl (fun h81 => by exfalso; cases h81; exact m02 rfl) (fun h81 => ?_)
    refine gIconst E X22 at_84 (v := (0 : Int32)) (by decide) (q := 85) rfl ?_
    refine gIstore E X22 at_85 (l' := #[.val (.int u0), .val (.int u1), .val (.int u2), .val (.int u3), .val (.int u4), .val (.long u5), .second, .val (.int rl), .val (.int fl), .val (.int ql), .val (.int (0 : Int32)), .val (.int (2 : Int32)), .val (.ref b2), .unset, .unset, .unset]) rfl (q := 87) rfl ?_
    refine gAload E X22 at_87 rfl rfl (q := 89) rfl ?_
    refine gGetS E X22 at_89 (hw _ (List.mem_of_getElem? (i := 3) rfl)) Via.refl S3 (q := 92) rfl ?_
    intro T23 X23
    refine gAc_ne E X23 rfl rfl at_92 (by decide) (q := 98) (by decide) (q' := 95) rfl (fun h92 => ?_) (fun h92 => by exfalso; cases h92; exact m23 rfl)
    refine gNew E X23 (c2 := 1) (s2 := 6) at_98 (hw _ (List.mem_of_getElem? (i := 5) rfl)) (hw _ (List.mem_of_getElem? (i := 6) rfl)) (hw _ (List.mem_of_getElem? (i := 7) rfl)) (lay_Cell Z a0 hw) (by decide) (by decide) (by decide) (by decide) (q := 101) rfl ?_
    intro T24 a24 X24
    refine gDup E X24 at_101 rfl (q := 102) rfl ?_
    refine gIload E X24 at_102 rfl (q := 104) rfl ?_
    refine gNewA E X24 (c2 := 2) (s2 := 21) (cap := 15) (vs := (List.replicate rl.toNatClampNeg (.int (0 : Int32)))) (ty := .byte) rfl at_104 (hw _ (List.mem_of_getElem? (i := 8) rfl)) (own_neg zrl) (own_cap zrl) (by decide) rfl (by decide) (by decide) (by decide) (by decide) (q := 106) rfl ?_
    intro T25 a25 X25
    refine gIload E X25 at_106 rfl (q := 108) rfl ?_
    refine gNewA E X25 (c2 := 3) (s2 := 36) (cap := 15) (vs := (List.replicate fl.toNatClampNeg (.int (0 : Int32)))) (ty := .byte) rfl at_108 (hw _ (List.mem_of_getElem? (i := 8) rfl)) (own_neg zfl) (own_cap zfl) (by decide) rfl (by decide) (by decide) (by decide) (by decide) (q := 110) rfl ?_
    intro T26 a26 X26
    refine gIload E X26 at_110 rfl (q := 112) rfl ?_
    refine gNewA E X26 (c2 := 4) (s2 := 51) (cap := 15) (vs := (List.replicate ql.toNatClampNeg (.int (0 : Int32)))) (ty := .byte) rfl at_112 (hw _ (List.mem_of_getElem? (i := 8) rfl)) (own_neg zql) (own_cap zql) (by decide) rfl (by decide) (by decide) (by decide) (by decide) (q := 114) rfl ?_
    intro T27 a27 X27
    refine gLload E X27 at_114 rfl (q := 116) rfl ?_
    refine gAload E X27 at_116 rfl rfl (q := 118) rfl ?_
    refine gIload E X27 at_118 rfl (q := 120) rfl ?_
    refine gNewA E X27 (c2 := 5) (s2 := 51) (cap := 0) (vs := []) (ty := .byte) rfl at_120 (hw _ (List.mem_of_getElem? (i := 8) rfl)) (by decide) (by decide) (by decide) rfl (by decide) (by decide) (by decide) (by decide) (q := 122) rfl ?_
    intro T28 a28 X28
    refine gCallI E X28 (W := 1) (c2 := 15) (s2 := 179) (a := a24) [(.ref a25), (.ref a26), (.ref a27), (.long u5), (.ref b2), (.ref a28)] [(.ref a24)] at_122 rfl (hw _ (List.mem_of_getElem? (i := 9) rfl)) (hw _ (List.mem_of_getElem? (i := 10) rfl)) (hw _ (List.mem_of_getElem? (i := 7) rfl)) (hw _ (List.mem_of_getElem? (i := 11) rfl)) (by decide) (cI l Z a0 hw a24 a25 a26 a27 u5 b2 a28 b0 b3 ql (0 : Int32) (i := 0) rfl S0 S3 (Or.inr ⟨3, _, _, rfl, oRepLen (own_neg zql)⟩) (Or.inr ⟨4, _, _, rfl, rfl⟩) (fun _ => by decide) (fun z => absurd z ne2)) pd_2 rfl rfl rfl (by decide) (Nat.le_of_eq rfl) (by decide) (by decide) (by decide) (by decide) (by decide) (q := 125) rfl ?_
    intro T29 v29 V29 R29 X29
    obtain ⟨rfl, rfl⟩ := R29
    replace X29 : oX p l e room_1 s m #[(.int u0), (.int u1), (.int u2), (.int u3), (.int u4), (.long u5)] below meth c Z T29 [(a24, (.inl ("com/example/hylly/hylly/store/Cell", [("com/example/hylly/hylly/store/Cell", "row", "[B", (.ref a25)), ("com/example/hylly/hylly/store/Cell", "family", "[B", (.ref a26)), ("com/example/hylly/hylly/store/Cell", "qualifier", "[B", (.ref a27)), ("com/example/hylly/hylly/store/Cell", "timestamp", "J", (.long u5)), ("com/example/hylly/hylly/store/Cell", "type", "Lcom/example/hylly/hylly/store/Cell$Type;", (.ref b2)), ("com/example/hylly/hylly/store/Cell", "value", "[B", (.ref a28))]))), (a25, (.inr (.byte, (List.replicate rl.toNatClampNeg (.int (0 : Int32)))))), (a26, (.inr (.byte, (List.replicate fl.toNatClampNeg (.int (0 : Int32)))))), (a27, (.inr (.byte, (List.replicate ql.toNatClampNeg (.int (0 : Int32)))))), (a28, (.inr (.byte, [])))] 15 179 := X29
    show oG p e below s Z room_1 (fun v _ => v = some (.int 1)) T29 (mkF m 125 #[.val (.int u0), .val (.int u1), .val (.int u2), .val (.int u3), .val (.int u4), .val (.long u5), .second, .val (.int rl), .val (.int fl), .val (.int ql), .val (.int (0 : Int32)), .val (.int (2 : Int32)), .val (.ref b2), .unset, .unset, .unset] [(.ref a24)])
    refine gAstore E X29 at_125 rfl (l' := #[.val (.int u0), .val (.int u1), .val (.int u2), .val (.int u3), .val (.int u4), .val (.long u5), .second, .val (.int rl), .val (.int fl), .val (.int ql), .val (.int (0 : Int32)), .val (.int (2 : Int32)), .val (.ref b2), .val (.ref a24), .unset, .unset]) rfl (q := 127) rfl ?_
    refine gLdc2J E X29 at_127 (hw _ (List.mem_of_getElem? (i := 49) rfl)) (q := 130) rfl ?_
    refine gIload E X29 at_130 rfl (q := 132) rfl ?_
    refine gI2l E X29 at_132 (z := rl.toInt64) rfl (q := 133) rfl ?_
    refine gLadd E X29 at_133 (z := ((8 : Int64) + rl.toInt64)) rfl (q := 134) rfl ?_
    refine gIload E X29 at_134 rfl (q := 136) rfl ?_
    refine gI2l E X29 at_136 (z := fl.toInt64) rfl (q := 137) rfl ?_
    refine gLadd E X29 at_137 (z := (((8 : Int64) + rl.toInt64) + fl.toInt64)) rfl (q := 138) rfl ?_
    refine gIload E X29 at_138 rfl (q := 140) rfl ?_
    refine gI2l E X29 at_140 (z := ql.toInt64) rfl (q := 141) rfl ?_
    refine gLadd E X29 at_141 (z := ((((8 : Int64) + rl.toInt64) + fl.toInt64) + ql.toInt64)) rfl (q := 142) rfl ?_
    refine gIload E X29 at_142 rfl (q := 144) rfl ?_
    refine gI2l E X29 at_144 (z := (0 : Int64)) (by decide) (q := 145) rfl ?_
    refine gLadd E X29 at_145 (z := (((((8 : Int64) + rl.toInt64) + fl.toInt64) + ql.toInt64) + (0 : Int64))) rfl (q := 146) rfl ?_
    refine gLstore E X29 at_146 (l' := #[.val (.int u0), .val (.int u1), .val (.int u2), .val (.int u3), .val (.int u4), .val (.long u5), .second, .val (.int rl), .val (.int fl), .val (.int ql), .val (.int (0 : Int32)), .val (.int (2 : Int32)), .val (.ref b2), .val (.ref a24), .val (.long (((((8 : Int64) + rl.toInt64) + fl.toInt64) + ql.toInt64) + (0 : Int64))), .second]) rfl (q := 148) rfl ?_
    refine gAload E X29 at_148 rfl rfl (q := 150) rfl ?_
    refine gCallV E X29 (W := 0) (c2 := 15) (s2 := 179) (i := 0) (a := a24) [] [] at_150 rfl (hw _ (List.mem_of_getElem? (i := 50) rfl)) (hw _ (List.mem_of_getElem? (i := 51) rfl)) (hw _ (List.mem_of_getElem? (i := 53) rfl)) (hw _ (List.mem_of_getElem? (i := 53) rfl)) (hw _ (List.mem_of_getElem? (i := 52) rfl)) (hw _ (List.mem_of_getElem? (i := 7) rfl)) (hw _ (List.mem_of_getElem? (i := 54) rfl)) (by decide) (cZ l Z a0 hw a24 a25 a26 a27 u5 b2 a28 rl fl ql (0 : Int32) (i := 0) rfl (Or.inr ⟨1, _, _, rfl, oRepLen (own_neg zrl)⟩) (Or.inr ⟨2, _, _, rfl, oRepLen (own_neg zfl)⟩) (Or.inr ⟨3, _, _, rfl, oRepLen (own_neg zql)⟩) (Or.inr ⟨4, _, _, rfl, rfl⟩)) pd_3 rfl rfl rfl (by decide) (Nat.le_of_eq rfl) (by decide) (by decide) (by decide) (by decide) (by decide) (q := 153) rfl ?_
    intro T30 v30 V30 R30 X30
    obtain ⟨rfl, rfl⟩ := R30
    replace X30 : oX p l e room_1 s m #[(.int u0), (.int u1), (.int u2), (.int u3), (.int u4), (.long u5)] below meth c Z T30 [(a24, (.inl ("com/example/hylly/hylly/store/Cell", [("com/example/hylly/hylly/store/Cell", "row", "[B", (.ref a25)), ("com/example/hylly/hylly/store/Cell", "family", "[B", (.ref a26)), ("com/example/hylly/hylly/store/Cell", "qualifier", "[B", (.ref a27)), ("com/example/hylly/hylly/store/Cell", "timestamp", "J", (.long u5)), ("com/example/hylly/hylly/store/Cell", "type", "Lcom/example/hylly/hylly/store/Cell$Type;", (.ref b2)), ("com/example/hylly/hylly/store/Cell", "value", "[B", (.ref a28))]))), (a25, (.inr (.byte, (List.replicate rl.toNatClampNeg (.int (0 : Int32)))))), (a26, (.inr (.byte, (List.replicate fl.toNatClampNeg (.int (0 : Int32)))))), (a27, (.inr (.byte, (List.replicate ql.toNatClampNeg (.int (0 : Int32)))))), (a28, (.inr (.byte, [])))] 15 179 := X30
    show oG p e below s Z room_1 (fun v _ => v = some (.int 1)) T30 (mkF m 153 #[.val (.int u0), .val (.int u1), .val (.int u2), .val (.int u3), .val (.int u4), .val (.long u5), .second, .val (.int rl), .val (.int fl), .val (.int ql), .val (.int (0 : Int32)), .val (.int (2 : Int32)), .val (.ref b2), .val (.ref a24), .val (.long (((((8 : Int64) + rl.toInt64) + fl.toInt64) + ql.toInt64) + (0 : Int64))), .second] [(.long (rl.toInt64 + fl.toInt64 + ql.toInt64 + (8 : Int64) + (0 : Int32).toInt64))])
    refine gLload E X30 at_153 rfl (q := 155) rfl ?_
    refine gLcmp E X30 at_155 (q := 156) rfl ?_
    refine gLc_ne E X30 at_156 (by decide) (q := 163) (by decide) (q' := 159) rfl (fun h156 => by exfalso; exact h156 (own_sum _ _ _ _)) (fun h156 => ?_)
    refine gIconst E X30 at_159 (v := (1 : Int32)) (by decide) (q := 160) rfl ?_
    refine gGoto E X30 at_160 (by decide) (q := 164) (by decide) ?_
    exact gRetN E X30 (by simp) at_164 (by decide) (by decide) (rfl)
  · refine gIload E X at_30 rfl (q := 32) rfl ?_
    refine gIf_ne E X at_32 (by decide) (q := 43) (by decide) (q' := 35) rfl (fun h32 => ?_) (fun h32 => by exfalso; exact absurd h32 (by decide))
    refine gIload E X at_43 rfl (q := 45) rfl ?_
    refine gIconst E X at_45 (v := (1 : Int32)) (by decide) (q := 46) rfl ?_
    refine gIc_ne E X at_46 (by decide) (q := 57) (by decide) (q' := 49) rfl (fun h46 => ?_) (fun h46 => by exfalso; exact absurd h46 (by decide))
    refine gIload E X at_57 rfl (q := 59) rfl ?_
    refine gIconst E X at_59 (v := (2 : Int32)) (by decide) (q := 60) rfl ?_
    refine gIc_ne E X at_60 (by decide) (q := 71) (by decide) (q' := 63) rfl (fun h60 => ?_) (fun h60 => by exfalso; exact absurd h60 (by decide))
    refine gGetS E X at_71 (hw _ (List.mem_of_getElem? (i := 3) rfl)) Via.refl S3 (q := 74) rfl ?_
    intro T31 X31
    refine gAstore E X31 at_74 rfl (l' := #[.val (.int u0), .val (.int u1), .val (.int u2), .val (.int u3), .val (.int u4), .val (.long u5), .second, .val (.int rl), .val (.int fl), .val (.int ql), .val (.int vl), .val (.int (3 : Int32)), .val (.ref b3), .unset, .unset, .unset]) rfl (q := 76) rfl ?_
    refine gAload E X31 at_76 rfl rfl (q := 78) rfl ?_
    refine gGetS E X31 at_78 (hw _ (List.mem_of_getElem? (i := 0) rfl)) Via.refl S0 (q := 81) rfl ?_
    intro T32 X32
    refine gAc_eq E X32 rfl rfl at_81 (by decide) (q := 87) (by decide) (q' := 84) rfl (fun h81 => by exfalso; cases h81; exact m03 rfl) (fun h81 => ?_)
    refine gIconst E X32 at_84 (v := (0 : Int32)) (by decide) (q := 85) rfl ?_
    refine gIstore E X32 at_85 (l' := #[.val (.int u0), .val (.int u1), .val (.int u2), .val (.int u3), .val (.int u4), .val (.long u5), .second, .val (.int rl), .val (.int fl), .val (.int ql), .val (.int (0 : Int32)), .val (.int (3 : Int32)), .val (.ref b3), .unset, .unset, .unset]) rfl (q := 87) rfl ?_
    refine gAload E X32 at_87 rfl rfl (q := 89) rfl ?_
    refine gGetS E X32 at_89 (hw _ (List.mem_of_getElem? (i := 3) rfl)) Via.refl S3 (q := 92) rfl ?_
    intro T33 X33
    refine gAc_ne E X33 rfl rfl at_92 (by decide) (q := 98) (by decide) (q' := 95) rfl (fun h92 => by exfalso; exact h92 rfl) (fun h92 => ?_)
    refine gIconst E X33 at_95 (v := (0 : Int32)) (by decide) (q := 96) rfl ?_
    refine gIstore E X33 at_96 (l' := #[.val (.int u0), .val (.int u1), .val (.int u2), .val (.int u3), .val (.int u4), .val (.long u5), .second, .val (.int rl), .val (.int fl), .val (.int (0 : Int32)), .val (.int (0 : Int32)), .val (.int (3 : Int32)), .val (.ref b3), .unset, .unset, .unset]) rfl (q := 98) rfl ?_
    refine gNew E X33 (c2 := 1) (s2 := 6) at_98 (hw _ (List.mem_of_getElem? (i := 5) rfl)) (hw _ (List.mem_of_getElem? (i := 6) rfl)) (hw _ (List.mem_of_getElem? (i := 7) rfl)) (lay_Cell Z a0 hw) (by decide) (by decide) (by decide) (by decide) (q := 101) rfl ?_
    intro T34 a34 X34
    refine gDup E X34 at_101 rfl (q := 102) rfl ?_
    refine gIload E X34 at_102 rfl (q := 104) rfl ?_
    refine gNewA E X34 (c2 := 2) (s2 := 21) (cap := 15) (vs := (List.replicate rl.toNatClampNeg (.int (0 : Int32)))) (ty := .byte) rfl at_104 (hw _ (List.mem_of_getElem? (i := 8) rfl)) (own_neg zrl) (own_cap zrl) (by decide) rfl (by decide) (by decide) (by decide) (by decide) (q := 106) rfl ?_
    intro T35 a35 X35
    refine gIload E X35 at_106 rfl (q := 108) rfl ?_
    refine gNewA E X35 (c2 := 3) (s2 := 36) (cap := 15) (vs := (List.replicate fl.toNatClampNeg (.int (0 : Int32)))) (ty := .byte) rfl at_108 (hw _ (List.mem_of_getElem? (i := 8) rfl)) (own_neg zfl) (own_cap zfl) (by decide) rfl (by decide) (by decide) (by decide) (by decide) (q := 110) rfl ?_
    intro T36 a36 X36
    refine gIload E X36 at_110 rfl (q := 112) rfl ?_
    refine gNewA E X36 (c2 := 4) (s2 := 36) (cap := 0) (vs := []) (ty := .byte) rfl at_112 (hw _ (List.mem_of_getElem? (i := 8) rfl)) (by decide) (by decide) (by decide) rfl (by decide) (by decide) (by decide) (by decide) (q := 114) rfl ?_
    intro T37 a37 X37
    refine gLload E X37 at_114 rfl (q := 116) rfl ?_
    refine gAload E X37 at_116 rfl rfl (q := 118) rfl ?_
    refine gIload E X37 at_118 rfl (q := 120) rfl ?_
    refine gNewA E X37 (c2 := 5) (s2 := 36) (cap := 0) (vs := []) (ty := .byte) rfl at_120 (hw _ (List.mem_of_getElem? (i := 8) rfl)) (by decide) (by decide) (by decide) rfl (by decide) (by decide) (by decide) (by decide) (q := 122) rfl ?_
    intro T38 a38 X38
    refine gCallI E X38 (W := 1) (c2 := 15) (s2 := 164) (a := a34) [(.ref a35), (.ref a36), (.ref a37), (.long u5), (.ref b3), (.ref a38)] [(.ref a34)] at_122 rfl (hw _ (List.mem_of_getElem? (i := 9) rfl)) (hw _ (List.mem_of_getElem? (i := 10) rfl)) (hw _ (List.mem_of_getElem? (i := 7) rfl)) (hw _ (List.mem_of_getElem? (i := 11) rfl)) (by decide) (cI l Z a0 hw a34 a35 a36 a37 u5 b3 a38 b0 b3 (0 : Int32) (0 : Int32) (i := 0) rfl S0 S3 (Or.inr ⟨3, _, _, rfl, rfl⟩) (Or.inr ⟨4, _, _, rfl, rfl⟩) (fun _ => by decide) (fun _ => by decide)) pd_2 rfl rfl rfl (by decide) (Nat.le_of_eq rfl) (by decide) (by decide) (by decide) (by decide) (by decide) (q := 125) rfl ?_
    intro T39 v39 V39 R39 X39
    obtain ⟨rfl, rfl⟩ := R39
    replace X39 : oX p l e room_1 s m #[(.int u0), (.int u1), (.int u2), (.int u3), (.int u4), (.long u5)] below meth c Z T39 [(a34, (.inl ("com/example/hylly/hylly/store/Cell", [("com/example/hylly/hylly/store/Cell", "row", "[B", (.ref a35)), ("com/example/hylly/hylly/store/Cell", "family", "[B", (.ref a36)), ("com/example/hylly/hylly/store/Cell", "qualifier", "[B", (.ref a37)), ("com/example/hylly/hylly/store/Cell", "timestamp", "J", (.long u5)), ("com/example/hylly/hylly/store/Cell", "type", "Lcom/example/hylly/hylly/store/Cell$Type;", (.ref b3)), ("com/example/hylly/hylly/store/Cell", "value", "[B", (.ref a38))]))), (a35, (.inr (.byte, (List.replicate rl.toNatClampNeg (.int (0 : Int32)))))), (a36, (.inr (.byte, (List.replicate fl.toNatClampNeg (.int (0 : Int32)))))), (a37, (.inr (.byte, []))), (a38, (.inr (.byte, [])))] 15 164 := X39
    show oG p e below s Z room_1 (fun v _ => v = some (.int 1)) T39 (mkF m 125 #[.val (.int u0), .val (.int u1), .val (.int u2), .val (.int u3), .val (.int u4), .val (.long u5), .second, .val (.int rl), .val (.int fl), .val (.int (0 : Int32)), .val (.int (0 : Int32)), .val (.int (3 : Int32)), .val (.ref b3), .unset, .unset, .unset] [(.ref a34)])
    refine gAstore E X39 at_125 rfl (l' := #[.val (.int u0), .val (.int u1), .val (.int u2), .val (.int u3), .val (.int u4), .val (.long u5), .second, .val (.int rl), .val (.int fl), .val (.int (0 : Int32)), .val (.int (0 : Int32)), .val (.int (3 : Int32)), .val (.ref b3), .val (.ref a34), .unset, .unset]) rfl (q := 127) rfl ?_
    refine gLdc2J E X39 at_127 (hw _ (List.mem_of_getElem? (i := 49) rfl)) (q := 130) rfl ?_
    refine gIload E X39 at_130 rfl (q := 132) rfl ?_
    refine gI2l E X39 at_132 (z := rl.toInt64) rfl (q := 133) rfl ?_
    refine gLadd E X39 at_133 (z := ((8 : Int64) + rl.toInt64)) rfl (q := 134) rfl ?_
    refine gIload E X39 at_134 rfl (q := 136) rfl ?_
    refine gI2l E X39 at_136 (z := fl.toInt64) rfl (q := 137) rfl ?_
    refine gLadd E X39 at_137 (z := (((8 : Int64) + rl.toInt64) + fl.toInt64)) rfl (q := 138) rfl ?_
    refine gIload E X39 at_138 rfl (q := 140) rfl ?_
    refine gI2l E X39 at_140 (z := (0 : Int64)) (by decide) (q := 141) rfl ?_
    refine gLadd E X39 at_141 (z := ((((8 : Int64) + rl.toInt64) + fl.toInt64) + (0 : Int64))) rfl (q := 142) rfl ?_
    refine gIload E X39 at_142 rfl (q := 144) rfl ?_
    refine gI2l E X39 at_144 (z := (0 : Int64)) (by decide) (q := 145) rfl ?_
    refine gLadd E X39 at_145 (z := (((((8 : Int64) + rl.toInt64) + fl.toInt64) + (0 : Int64)) + (0 : Int64))) rfl (q := 146) rfl ?_
    refine gLstore E X39 at_146 (l' := #[.val (.int u0), .val (.int u1), .val (.int u2), .val (.int u3), .val (.int u4), .val (.long u5), .second, .val (.int rl), .val (.int fl), .val (.int (0 : Int32)), .val (.int (0 : Int32)), .val (.int (3 : Int32)), .val (.ref b3), .val (.ref a34), .val (.long (((((8 : Int64) + rl.toInt64) + fl.toInt64) + (0 : Int64)) + (0 : Int64))), .second]) rfl (q := 148) rfl ?_
    refine gAload E X39 at_148 rfl rfl (q := 150) rfl ?_
    refine gCallV E X39 (W := 0) (c2 := 15) (s2 := 164) (i := 0) (a := a34) [] [] at_150 rfl (hw _ (List.mem_of_getElem? (i := 50) rfl)) (hw _ (List.mem_of_getElem? (i := 51) rfl)) (hw _ (List.mem_of_getElem? (i := 53) rfl)) (hw _ (List.mem_of_getElem? (i := 53) rfl)) (hw _ (List.mem_of_getElem? (i := 52) rfl)) (hw _ (List.mem_of_getElem? (i := 7) rfl)) (hw _ (List.mem_of_getElem? (i := 54) rfl)) (by decide) (cZ l Z a0 hw a34 a35 a36 a37 u5 b3 a38 rl fl (0 : Int32) (0 : Int32) (i := 0) rfl (Or.inr ⟨1, _, _, rfl, oRepLen (own_neg zrl)⟩) (Or.inr ⟨2, _, _, rfl, oRepLen (own_neg zfl)⟩) (Or.inr ⟨3, _, _, rfl, rfl⟩) (Or.inr ⟨4, _, _, rfl, rfl⟩)) pd_3 rfl rfl rfl (by decide) (Nat.le_of_eq rfl) (by decide) (by decide) (by decide) (by decide) (by decide) (q := 153) rfl ?_
    intro T40 v40 V40 R40 X40
    obtain ⟨rfl, rfl⟩ := R40
    replace X40 : oX p l e room_1 s m #[(.int u0), (.int u1), (.int u2), (.int u3), (.int u4), (.long u5)] below meth c Z T40 [(a34, (.inl ("com/example/hylly/hylly/store/Cell", [("com/example/hylly/hylly/store/Cell", "row", "[B", (.ref a35)), ("com/example/hylly/hylly/store/Cell", "family", "[B", (.ref a36)), ("com/example/hylly/hylly/store/Cell", "qualifier", "[B", (.ref a37)), ("com/example/hylly/hylly/store/Cell", "timestamp", "J", (.long u5)), ("com/example/hylly/hylly/store/Cell", "type", "Lcom/example/hylly/hylly/store/Cell$Type;", (.ref b3)), ("com/example/hylly/hylly/store/Cell", "value", "[B", (.ref a38))]))), (a35, (.inr (.byte, (List.replicate rl.toNatClampNeg (.int (0 : Int32)))))), (a36, (.inr (.byte, (List.replicate fl.toNatClampNeg (.int (0 : Int32)))))), (a37, (.inr (.byte, []))), (a38, (.inr (.byte, [])))] 15 164 := X40
    show oG p e below s Z room_1 (fun v _ => v = some (.int 1)) T40 (mkF m 153 #[.val (.int u0), .val (.int u1), .val (.int u2), .val (.int u3), .val (.int u4), .val (.long u5), .second, .val (.int rl), .val (.int fl), .val (.int (0 : Int32)), .val (.int (0 : Int32)), .val (.int (3 : Int32)), .val (.ref b3), .val (.ref a34), .val (.long (((((8 : Int64) + rl.toInt64) + fl.toInt64) + (0 : Int64)) + (0 : Int64))), .second] [(.long (rl.toInt64 + fl.toInt64 + (0 : Int32).toInt64 + (8 : Int64) + (0 : Int32).toInt64))])
    refine gLload E X40 at_153 rfl (q := 155) rfl ?_
    refine gLcmp E X40 at_155 (q := 156) rfl ?_
    refine gLc_ne E X40 at_156 (by decide) (q := 163) (by decide) (q' := 159) rfl (fun h156 => by exfalso; exact h156 (own_sum _ _ _ _)) (fun h156 => ?_)
    refine gIconst E X40 at_159 (v := (1 : Int32)) (by decide) (q := 160) rfl ?_
    refine gGoto E X40 at_160 (by decide) (q := 164) (by decide) ?_
    exact gRetN E X40 (by simp) at_164 (by decide) (by decide) (rfl)
set_option maxRecDepth 65536 in
set_option maxHeartbeats 40000000 in
theorem comes_1 {Post : Tables → Env → Array Value → State → Outcome → State → Prop} (hpost : ∀ tb e args s v u, (limb_1_1.after args s (.returned v) u = true ∧ limb_1_2.after args s (.returned v) u = true ∧ True) → ReturnedEndW s (.returned v) u (Jvm.fieldLocs frame_1_writes args s ++ Jvm.arrayLocs frame_1_arrays args s ++ Jvm.staticLocs frame_1_statics s) 32 5376 → Post tb e args s (.returned v) u) :
    ArmFor flags0 classFile x code maxLocals ret World_1 tables_1 room_1 Calls_1 rest_1 Pre_1 Post := by
  intro l hfl _ _ p e ha hc hk s m args below hf hA hF happ hP
  obtain ⟨hcalls, hrest, hpre⟩ := hP
  obtain ⟨-, -, -, hnamed, -, -, -, hat⟩ := (Spec.applies_iff hf).mp happ
  obtain ⟨hg, hn⟩ := and_e (Cond.before_iff.mp (show (Jvm.Cond.and given_1 narrow_1).before args s = true from hpre))
  obtain ⟨h1, hg0⟩ := and_e hg
  obtain ⟨g0, hg1⟩ := and_e hg0
  obtain ⟨g1, hg2⟩ := and_e hg1
  obtain ⟨g2, hg3⟩ := and_e hg2
  obtain ⟨g3, hg4⟩ := and_e hg3
  obtain ⟨g4, hg5⟩ := and_e hg4
  obtain ⟨w0, w1, w2, w3, w4, w5, rfl⟩ : ∃ w0 w1 w2 w3 w4 w5 : Value, args = #[w0, w1, w2, w3, w4, w5] := by
    have hs : args.size = 6 := by simpa [Cond.value, given_1] using h1
    obtain ⟨L⟩ := args
    match L, hs with
    | [w0, w1, w2, w3, w4, w5], _ => exact ⟨w0, w1, w2, w3, w4, w5, rfl⟩
  have hw := fun d (hd : d ∈ tables_1) => atoms_spec (ws := Jvm.Cond.code x code maxLocals ret :: tables_1) hat d (List.mem_cons_of_mem _ hd)
  have hfit : Fit s := fun {y c} hc i hi => by
    obtain ⟨ha, rfl⟩ := Array.getElem?_eq_some_iff.mp hc
    have q := List.all_eq_true.mp ((Array.all_eq_true_iff_forall_mem.mp hF) _ (Array.getElem_mem ha)) i (List.mem_range.mpr hi)
    simpa [Array.getElem?_eq_getElem hi] using q
  obtain ⟨i0, e0⟩ := is_v g0
  obtain rfl : w0 = (.int i0) := Option.some.inj e0
  obtain ⟨i1, e1⟩ := is_v g1
  obtain rfl : w1 = (.int i1) := Option.some.inj e1
  obtain ⟨i2, e2⟩ := is_v g2
  obtain rfl : w2 = (.int i2) := Option.some.inj e2
  obtain ⟨i3, e3⟩ := is_v g3
  obtain rfl : w3 = (.int i3) := Option.some.inj e3
  obtain ⟨i4, e4⟩ := is_v g4
  obtain rfl : w4 = (.int i4) := Option.some.inj e4
  obtain ⟨i5, e5⟩ := isL_v hg5
  obtain rfl : w5 = (.long i5) := Option.some.inj e5
  obtain ⟨x0, hn⟩ := and_e hn
  obtain ⟨x3, hn⟩ := and_e hn
  obtain ⟨o0, hn⟩ := and_e hn
  obtain ⟨o3, hn⟩ := and_e hn
  obtain ⟨x2, hn⟩ := and_e hn
  obtain ⟨o2, hn⟩ := and_e hn
  obtain ⟨x1, o1⟩ := and_e hn
  obtain ⟨b0, v0⟩ := exa_v x0
  have S0 := Sta.start v0 (Or.inr ⟨(hw _ (List.mem_of_getElem? (i := 1) rfl)), (hw _ (List.mem_of_getElem? (i := 2) rfl))⟩)
  have F0 := Fld.start ((fld_at v0).symm.trans (oEqI o0))
  obtain ⟨b1, v1⟩ := exa_v x1
  have S1 := Sta.start v1 (Or.inr ⟨(hw _ (List.mem_of_getElem? (i := 1) rfl)), (hw _ (List.mem_of_getElem? (i := 59) rfl))⟩)
  have F1 := Fld.start ((fld_at v1).symm.trans (oEqI o1))
  obtain ⟨b2, v2⟩ := exa_v x2
  have S2 := Sta.start v2 (Or.inr ⟨(hw _ (List.mem_of_getElem? (i := 1) rfl)), (hw _ (List.mem_of_getElem? (i := 57) rfl))⟩)
  have F2 := Fld.start ((fld_at v2).symm.trans (oEqI o2))
  obtain ⟨b3, v3⟩ := exa_v x3
  have S3 := Sta.start v3 (Or.inr ⟨(hw _ (List.mem_of_getElem? (i := 1) rfl)), (hw _ (List.mem_of_getElem? (i := 4) rfl))⟩)
  have F3 := Fld.start ((fld_at v3).symm.trans (oEqI o3))
  have m01 := Fld.ne F0 F1 (by decide)
  have m02 := Fld.ne F0 F2 (by decide)
  have m03 := Fld.ne F0 F3 (by decide)
  have m12 := Fld.ne F1 F2 (by decide)
  have m13 := Fld.ne F1 F3 (by decide)
  have m23 := Fld.ne F2 F3 (by decide)
  obtain ⟨n, o, h1, h2, h3, v, L, rfl, ⟨N, V', rfl, -⟩, hq⟩ := rm0 l s _ hw i0 i1 i2 i3 i4 i5 b0 b1 b2 b3 S0 S1 S2 S3 m01 m02 m03 m12 m13 m23 tables_1 s.heap (oHv.nil s) p e ha hc hk s m _ below hf ((Spec.applies_iff_loose hf).mp happ).1 ⟨rfl, State.Warmed39.refl s, rfl⟩ trivial
  refine ⟨n, _, h1, h2, h3, hpost _ _ _ _ _ _ ⟨Cond.after_iff.mpr rfl, Cond.after_iff.mpr (eq_i res_at (Term.int_eval (1)) rfl), trivial⟩ ⟨hq.1, hq.2.1, hq.2.2.1, (hq.2.2.2.sift fun y hy => Or.inr (N y hy)).mono (by decide) (by decide)⟩⟩
theorem main_1_1 : Claimed_1_1 := comes_1 fun _ _ _ _ _ _ h hF => ⟨h.1, hF⟩
theorem main_1_2 : Claimed_1_2 := comes_1 fun _ _ _ _ _ _ h hF => ⟨h.2.1, hF⟩
end Jvm.Pilot.@@N@@
namespace Jvm.Pilot.@@N@@
open Jvm Jvm.ClassFile Sem Op Lib Jvm.Free Jvm.Stand Jvm.Pilot.@@N@@.Jvm.D
/-! MADE BY PROGRAM (witnessworld.py) out of the Statement's table words and the real class files: 18 classes; the members and pool entries that the words name. The judged class is class 1, her method 1. -/
namespace start1
open Jvm.ClassFile
def u (s : String) : CpInfo := .utf8 (stringToUtf16 s)
/-- a pool by its gaps: so many unusable entries, then the entry; so many at the end -/
def gap : Nat → List CpInfo → List CpInfo
  | 0, r => r
  | n + 1, r => .unusable :: gap n r
def poolList (es : List (Nat × CpInfo)) (last : Nat) : List CpInfo := es.foldr (fun e r => gap e.1 (e.2 :: r)) (gap last [])
def pool (es : List (Nat × CpInfo)) (last : Nat) : Array CpInfo := ⟨poolList es last⟩
def fileOf (pool : Array CpInfo) (this : Nat) (attrs : Array Attribute := #[]) (ms : Array MethodInfo := #[]) (fl : Nat := 33) (sup : Nat := 0) (ifs : Array Nat := #[]) (fds : Array FieldInfo := #[]) : ClassFile where
  minorVersion := 0
  majorVersion := 65
  constantPool := pool
  accessFlags := fl
  thisClass := this
  superClass := sup
  interfaces := ifs
  fields := fds
  methods := ms
  attributes := attrs
def plain (name : String) (sup : Option ClassId) : Class where
  name := name
  kind := .ordinary
  loader := none
  accessFlags := 33
  super := sup
  interfaces := #[]
  cf := none
  fields := #[]
  methods := #[]
  instanceTypes := #[]
  staticTypes := #[]
  resolved := #[]
  callSites := []
  init := .initialized
  statics := none
  mirror := none

def pool0 : Array CpInfo := pool [(5, u "<init>"), (0, u "()V"), (1, .class_ 10), (1, u "java/lang/Object")] 113

def k0c0 : Code := { maxStack := 0, maxLocals := 1, code := object_method_1_code, exceptionTable := #[], attributes := #[] }
def k0m0 : Method := { name := "<init>", desc := "()V", sig := { parameters := [], returnType := none }, accessFlags := 1, code := some k0c0 }
/-- java/lang/Object -/
def k0 : Class := { plain "java/lang/Object" none with
  accessFlags := 33
  interfaces := #[]
  cf := some (fileOf pool0 8 #[] #[{ accessFlags := 1, nameIndex := 5, descriptorIndex := 6, attributes := #[] }] 33 0 #[] #[])
  fields := #[]
  methods := #[k0m0]
  instanceTypes := #[]
  staticTypes := #[]
  resolved := Array.replicate 124 none
  statics := none }

def pool1 : Array CpInfo := pool [(2, .class_ 4), (1, u "java/lang/Object"), (0, u "<init>"), (0, u "()V"), (0, .fieldref 8 9), (0, .class_ 10), (0, .nameAndType 11 12), (0, u "com/example/hylly/hylly/store/Cell$Type"), (0, u "PUT"), (0, u "Lcom/example/hylly/hylly/store/Cell$Type;"), (0, .fieldref 8 14), (0, .nameAndType 15 12), (0, u "DELETE_COLUMN"), (0, .fieldref 8 17), (0, .nameAndType 18 12), (0, u "DELETE_VERSION"), (0, .fieldref 8 20), (0, .nameAndType 21 12), (0, u "DELETE_FAMILY"), (0, .class_ 23), (0, u "com/example/hylly/hylly/store/Cell"), (0, .methodref 22 25), (0, .nameAndType 5 26), (0, u "([B[B[BJLcom/example/hylly/hylly/store/Cell$Type;[B)V"), (0, .long 8), (1, .methodref 22 30), (0, .nameAndType 31 32), (0, u "size"), (0, u "()J"), (0, .class_ 34), (0, u "com/example/hylly/hylly/store/CellSizePinLaw"), (2, u "law"), (0, u "(IIIIIJ)Z")] 5

def k1m0 : Method := { name := "<init>", desc := "()V", sig := { parameters := [], returnType := none }, accessFlags := 1, code := none }
def k1c1 : Code := { maxStack := 9, maxLocals := 16, code := code, exceptionTable := #[], attributes := #[] }
def k1m1 : Method := { name := "law", desc := "(IIIIIJ)Z", sig := { parameters := [.int, .int, .int, .int, .int, .long], returnType := some .boolean }, accessFlags := 9, code := some k1c1 }
/-- com/example/hylly/hylly/store/CellSizePinLaw -/
def k1 : Class := { plain "com/example/hylly/hylly/store/CellSizePinLaw" (some 0) with
  accessFlags := 49
  interfaces := #[]
  cf := some (fileOf pool1 33 #[] #[{ accessFlags := 1, nameIndex := 5, descriptorIndex := 6, attributes := #[] }, { accessFlags := 9, nameIndex := 37, descriptorIndex := 38, attributes := #[] }] 49 2 #[] #[])
  fields := #[]
  methods := #[k1m0, k1m1]
  instanceTypes := #[]
  staticTypes := #[]
  resolved := Array.replicate 44 none
  statics := none }

def pool2 : Array CpInfo := pool [(1, .class_ 2), (0, u "java/lang/constant/Constable"), (0, .class_ 4), (0, u "java/lang/Object")] 6

/-- java/lang/constant/Constable -/
def k2 : Class := { plain "java/lang/constant/Constable" (some 0) with
  accessFlags := 1537
  interfaces := #[]
  cf := some (fileOf pool2 1 #[] #[] 1537 3 #[] #[])
  fields := #[]
  methods := #[]
  instanceTypes := #[]
  staticTypes := #[]
  resolved := Array.replicate 11 none
  statics := none }

def pool3 : Array CpInfo := pool [(1, .class_ 2), (0, u "java/lang/Comparable"), (0, .class_ 4), (0, u "java/lang/Object")] 7

/-- java/lang/Comparable -/
def k3 : Class := { plain "java/lang/Comparable" (some 0) with
  accessFlags := 1537
  interfaces := #[]
  cf := some (fileOf pool3 1 #[] #[] 1537 3 #[] #[])
  fields := #[]
  methods := #[]
  instanceTypes := #[]
  staticTypes := #[]
  resolved := Array.replicate 12 none
  statics := none }

def pool4 : Array CpInfo := pool [(1, .class_ 2), (0, u "java/io/Serializable"), (0, .class_ 4), (0, u "java/lang/Object")] 2

/-- java/io/Serializable -/
def k4 : Class := { plain "java/io/Serializable" (some 0) with
  accessFlags := 1537
  interfaces := #[]
  cf := some (fileOf pool4 1 #[] #[] 1537 3 #[] #[])
  fields := #[]
  methods := #[]
  instanceTypes := #[]
  staticTypes := #[]
  resolved := Array.replicate 7 none
  statics := none }

def pool5 : Array CpInfo := pool [(2, .class_ 4), (1, u "java/lang/Enum"), (0, u "name"), (0, u "Ljava/lang/String;"), (2, u "ordinal"), (0, u "I"), (1, .class_ 14), (1, u "java/lang/Object"), (4, u "hash"), (86, .class_ 108), (1, u "java/lang/Enum$EnumDesc"), (2, .class_ 112), (0, u "java/lang/constant/Constable"), (0, .class_ 114), (0, u "java/lang/Comparable"), (0, .class_ 116), (0, u "java/io/Serializable")] 87

/-- java/lang/Enum -/
def k5 : Class := { plain "java/lang/Enum" (some 0) with
  accessFlags := 1057
  interfaces := #[2, 3, 4]
  cf := some (fileOf pool5 2 #[.nestMembers #[106]] #[] 1057 12 #[111, 113, 115] #[{ accessFlags := 18, nameIndex := 5, descriptorIndex := 6, attributes := #[] }, { accessFlags := 18, nameIndex := 9, descriptorIndex := 10, attributes := #[] }, { accessFlags := 2, nameIndex := 19, descriptorIndex := 10, attributes := #[] }])
  fields := #[{ name := "name", type := (.object "java/lang/String"), accessFlags := 18, slot := 0, constantValue := 0 }, { name := "ordinal", type := .int, accessFlags := 18, slot := 1, constantValue := 0 }, { name := "hash", type := .int, accessFlags := 2, slot := 2, constantValue := 0 }]
  methods := #[]
  instanceTypes := #[(.object "java/lang/String"), .int, .int]
  staticTypes := #[]
  resolved := Array.replicate 204 none
  statics := none }

def pool6 : Array CpInfo := pool [(1, .class_ 2), (0, u "com/example/hylly/hylly/store/Cell$Type"), (2, u "DELETE_FAMILY"), (0, u "Lcom/example/hylly/hylly/store/Cell$Type;"), (2, u "DELETE_COLUMN"), (2, u "DELETE_VERSION"), (2, u "PUT"), (2, u "$VALUES"), (0, u "[Lcom/example/hylly/hylly/store/Cell$Type;"), (6, .class_ 28), (1, u "java/lang/Enum"), (8, u "code"), (0, u "B"), (2, u "BY_CODE"), (28, .class_ 71), (0, u "com/example/hylly/hylly/store/Cell")] 2

/-- com/example/hylly/hylly/store/Cell$Type -/
def k6 : Class := { plain "com/example/hylly/hylly/store/Cell$Type" (some 5) with
  accessFlags := 16433
  interfaces := #[]
  cf := some (fileOf pool6 1 #[.nestHost 70] #[] 16433 26 #[] #[{ accessFlags := 16409, nameIndex := 5, descriptorIndex := 6, attributes := #[] }, { accessFlags := 16409, nameIndex := 9, descriptorIndex := 6, attributes := #[] }, { accessFlags := 16409, nameIndex := 12, descriptorIndex := 6, attributes := #[] }, { accessFlags := 16409, nameIndex := 15, descriptorIndex := 6, attributes := #[] }, { accessFlags := 26, nameIndex := 41, descriptorIndex := 19, attributes := #[] }, { accessFlags := 18, nameIndex := 37, descriptorIndex := 38, attributes := #[] }, { accessFlags := 4122, nameIndex := 18, descriptorIndex := 19, attributes := #[] }])
  fields := #[{ name := "DELETE_FAMILY", type := (.object "com/example/hylly/hylly/store/Cell$Type"), accessFlags := 16409, slot := 0, constantValue := 0 }, { name := "DELETE_COLUMN", type := (.object "com/example/hylly/hylly/store/Cell$Type"), accessFlags := 16409, slot := 1, constantValue := 0 }, { name := "DELETE_VERSION", type := (.object "com/example/hylly/hylly/store/Cell$Type"), accessFlags := 16409, slot := 2, constantValue := 0 }, { name := "PUT", type := (.object "com/example/hylly/hylly/store/Cell$Type"), accessFlags := 16409, slot := 3, constantValue := 0 }, { name := "BY_CODE", type := (.array (.object "com/example/hylly/hylly/store/Cell$Type")), accessFlags := 26, slot := 4, constantValue := 0 }, { name := "code", type := .byte, accessFlags := 18, slot := 3, constantValue := 0 }, { name := "$VALUES", type := (.array (.object "com/example/hylly/hylly/store/Cell$Type")), accessFlags := 4122, slot := 5, constantValue := 0 }]
  methods := #[]
  instanceTypes := #[(.object "java/lang/String"), .int, .int, .byte]
  staticTypes := #[(.object "com/example/hylly/hylly/store/Cell$Type"), (.object "com/example/hylly/hylly/store/Cell$Type"), (.object "com/example/hylly/hylly/store/Cell$Type"), (.object "com/example/hylly/hylly/store/Cell$Type"), (.array (.object "com/example/hylly/hylly/store/Cell$Type")), (.array (.object "com/example/hylly/hylly/store/Cell$Type"))]
  resolved := Array.replicate 74 none
  statics := some 0 }

def pool7 : Array CpInfo := pool [(1, .methodref 2 3), (0, .class_ 4), (0, .nameAndType 5 6), (0, u "java/lang/Object"), (0, u "<init>"), (0, u "()V"), (0, .class_ 8), (0, u "java/lang/Record")] 13

def k7c0 : Code := { maxStack := 1, maxLocals := 1, code := jdk_30_method_1_code, exceptionTable := #[], attributes := #[] }
def k7m0 : Method := { name := "<init>", desc := "()V", sig := { parameters := [], returnType := none }, accessFlags := 4, code := some k7c0 }
/-- java/lang/Record -/
def k7 : Class := { plain "java/lang/Record" (some 0) with
  accessFlags := 1057
  interfaces := #[]
  cf := some (fileOf pool7 7 #[] #[{ accessFlags := 4, nameIndex := 5, descriptorIndex := 6, attributes := #[] }] 1057 2 #[] #[])
  fields := #[]
  methods := #[k7m0]
  instanceTypes := #[]
  staticTypes := #[]
  resolved := Array.replicate 22 none
  statics := none }

def pool8 : Array CpInfo := pool [(3, .methodref 4 5), (0, .class_ 6), (0, .nameAndType 7 8), (0, u "java/lang/Record"), (0, u "<init>"), (0, u "()V"), (0, .string 10), (0, u "row"), (0, .methodref 12 13), (0, .class_ 14), (0, .nameAndType 15 16), (0, u "java/util/Objects"), (0, u "requireNonNull"), (0, u "(Ljava/lang/Object;Ljava/lang/String;)Ljava/lang/Object;"), (0, .string 18), (0, u "family"), (0, .string 20), (0, u "qualifier"), (0, .string 22), (0, u "type"), (0, .string 24), (0, u "value"), (0, .fieldref 26 27), (0, .class_ 28), (0, .nameAndType 29 30), (0, u "com/example/hylly/hylly/store/Cell$Type"), (0, u "PUT"), (0, u "Lcom/example/hylly/hylly/store/Cell$Type;"), (7, .fieldref 26 39), (0, .nameAndType 40 30), (0, u "DELETE_FAMILY"), (2, .fieldref 44 45), (0, .class_ 46), (0, .nameAndType 10 47), (0, u "com/example/hylly/hylly/store/Cell"), (0, u "[B"), (0, .fieldref 44 49), (0, .nameAndType 18 47), (0, .fieldref 44 51), (0, .nameAndType 20 47), (0, .fieldref 44 53), (0, .nameAndType 54 55), (0, u "timestamp"), (0, u "J"), (0, .fieldref 44 57), (0, .nameAndType 22 30), (0, .fieldref 44 59), (0, .nameAndType 24 47), (2, u "([B[B[BJLcom/example/hylly/hylly/store/Cell$Type;[B)V"), (5, u "NO_BYTES"), (26, .long 8), (39, u "ORDER"), (0, u "Ljava/util/Comparator;"), (0, u "LATEST_TIMESTAMP"), (13, u "size"), (0, u "()J")] 49

def k8c0 : Code := { maxStack := 3, maxLocals := 8, code := prog_48_method_1_code, exceptionTable := #[], attributes := #[] }
def k8m0 : Method := { name := "<init>", desc := "([B[B[BJLcom/example/hylly/hylly/store/Cell$Type;[B)V", sig := { parameters := [(.array .byte), (.array .byte), (.array .byte), .long, (.object "com/example/hylly/hylly/store/Cell$Type"), (.array .byte)], returnType := none }, accessFlags := 1, code := some k8c0 }
def k8c1 : Code := { maxStack := 4, maxLocals := 1, code := prog_48_method_7_code, exceptionTable := #[], attributes := #[] }
def k8m1 : Method := { name := "size", desc := "()J", sig := { parameters := [], returnType := some .long }, accessFlags := 1, code := some k8c1 }
/-- com/example/hylly/hylly/store/Cell -/
def k8 : Class := { plain "com/example/hylly/hylly/store/Cell" (some 7) with
  accessFlags := 49
  interfaces := #[]
  cf := some (fileOf pool8 44 #[.nestMembers #[26]] #[{ accessFlags := 1, nameIndex := 7, descriptorIndex := 62, attributes := #[] }, { accessFlags := 1, nameIndex := 151, descriptorIndex := 152, attributes := #[] }] 49 4 #[] #[{ accessFlags := 18, nameIndex := 10, descriptorIndex := 47, attributes := #[] }, { accessFlags := 18, nameIndex := 18, descriptorIndex := 47, attributes := #[] }, { accessFlags := 18, nameIndex := 20, descriptorIndex := 47, attributes := #[] }, { accessFlags := 18, nameIndex := 54, descriptorIndex := 55, attributes := #[] }, { accessFlags := 18, nameIndex := 22, descriptorIndex := 30, attributes := #[] }, { accessFlags := 18, nameIndex := 24, descriptorIndex := 47, attributes := #[] }, { accessFlags := 25, nameIndex := 137, descriptorIndex := 55, attributes := #[] }, { accessFlags := 25, nameIndex := 135, descriptorIndex := 136, attributes := #[] }, { accessFlags := 26, nameIndex := 68, descriptorIndex := 47, attributes := #[] }])
  fields := #[{ name := "row", type := (.array .byte), accessFlags := 18, slot := 0, constantValue := 0 }, { name := "family", type := (.array .byte), accessFlags := 18, slot := 1, constantValue := 0 }, { name := "qualifier", type := (.array .byte), accessFlags := 18, slot := 2, constantValue := 0 }, { name := "timestamp", type := .long, accessFlags := 18, slot := 3, constantValue := 0 }, { name := "type", type := (.object "com/example/hylly/hylly/store/Cell$Type"), accessFlags := 18, slot := 4, constantValue := 0 }, { name := "value", type := (.array .byte), accessFlags := 18, slot := 5, constantValue := 0 }, { name := "LATEST_TIMESTAMP", type := .long, accessFlags := 25, slot := 0, constantValue := 0 }, { name := "ORDER", type := (.object "java/util/Comparator"), accessFlags := 25, slot := 1, constantValue := 0 }, { name := "NO_BYTES", type := (.array .byte), accessFlags := 26, slot := 2, constantValue := 0 }]
  methods := #[k8m0, k8m1]
  instanceTypes := #[(.array .byte), (.array .byte), (.array .byte), .long, (.object "com/example/hylly/hylly/store/Cell$Type"), (.array .byte)]
  staticTypes := #[.long, (.object "java/util/Comparator"), (.array .byte)]
  resolved := Array.replicate 202 none
  statics := none }

def pool9 : Array CpInfo := pool [(2, .class_ 4), (1, u "java/lang/CharSequence"), (42, .class_ 48), (0, u "java/lang/CharSequence$1CodePointIterator"), (10, .class_ 60), (0, u "java/lang/CharSequence$1CharIterator"), (5, .class_ 67), (0, u "java/lang/Object")] 63

/-- java/lang/CharSequence -/
def k9 : Class := { plain "java/lang/CharSequence" (some 0) with
  accessFlags := 1537
  interfaces := #[]
  cf := some (fileOf pool9 2 #[.nestMembers #[47, 59]] #[] 1537 66 #[] #[])
  fields := #[]
  methods := #[]
  instanceTypes := #[]
  staticTypes := #[]
  resolved := Array.replicate 131 none
  statics := none }

def pool10 : Array CpInfo := pool [(1, .class_ 2), (0, u "java/lang/constant/ConstantDesc"), (0, .class_ 4), (0, u "java/lang/Object")] 32

/-- java/lang/constant/ConstantDesc -/
def k10 : Class := { plain "java/lang/constant/ConstantDesc" (some 0) with
  accessFlags := 1537
  interfaces := #[]
  cf := some (fileOf pool10 1 #[] #[] 1537 3 #[] #[])
  fields := #[]
  methods := #[]
  instanceTypes := #[]
  staticTypes := #[]
  resolved := Array.replicate 37 none
  statics := none }

def pool11 : Array CpInfo := pool [(2, .class_ 4), (1, u "java/lang/Object"), (0, u "<init>"), (0, u "()V"), (3, .class_ 12), (1, u "java/lang/String"), (0, u "value"), (0, u "[B"), (2, u "coder"), (0, u "B"), (2, u "hash"), (0, u "I"), (2, u "hashIsZero"), (0, u "Z"), (13, u "COMPACT_STRINGS"), (534, .class_ 576), (0, u "java/lang/CharSequence"), (22, u "CASE_INSENSITIVE_ORDER"), (0, u "Ljava/util/Comparator;"), (500, u "serialPersistentFields"), (0, u "[Ljava/io/ObjectStreamField;"), (0, .class_ 1104), (0, u "java/lang/String$CaseInsensitiveComparator"), (1, .class_ 1107), (0, u "java/io/Serializable"), (0, .class_ 1109), (0, u "java/lang/Comparable"), (0, .class_ 1111), (0, u "java/lang/constant/Constable"), (0, .class_ 1113), (0, u "java/lang/constant/ConstantDesc"), (2, u "serialVersionUID"), (0, u "J"), (3, u "REPL"), (0, u "C"), (2, u "LATIN1"), (1, u "UTF16")] 323

def k11m0 : Method := { name := "<init>", desc := "()V", sig := { parameters := [], returnType := none }, accessFlags := 1, code := none }
/-- java/lang/String -/
def k11 : Class := { plain "java/lang/String" (some 0) with
  accessFlags := 49
  interfaces := #[4, 3, 9, 2, 10]
  cf := some (fileOf pool11 10 #[.nestMembers #[1103]] #[{ accessFlags := 1, nameIndex := 5, descriptorIndex := 6, attributes := #[] }] 49 2 #[1106, 1108, 575, 1110, 1112] #[{ accessFlags := 18, nameIndex := 13, descriptorIndex := 14, attributes := #[] }, { accessFlags := 18, nameIndex := 17, descriptorIndex := 18, attributes := #[] }, { accessFlags := 2, nameIndex := 21, descriptorIndex := 22, attributes := #[] }, { accessFlags := 2, nameIndex := 25, descriptorIndex := 26, attributes := #[] }, { accessFlags := 26, nameIndex := 1116, descriptorIndex := 1117, attributes := #[] }, { accessFlags := 24, nameIndex := 40, descriptorIndex := 26, attributes := #[] }, { accessFlags := 26, nameIndex := 1101, descriptorIndex := 1102, attributes := #[] }, { accessFlags := 26, nameIndex := 1121, descriptorIndex := 1122, attributes := #[] }, { accessFlags := 25, nameIndex := 599, descriptorIndex := 600, attributes := #[] }, { accessFlags := 24, nameIndex := 1125, descriptorIndex := 18, attributes := #[] }, { accessFlags := 24, nameIndex := 1127, descriptorIndex := 18, attributes := #[] }])
  fields := #[{ name := "value", type := (.array .byte), accessFlags := 18, slot := 0, constantValue := 0 }, { name := "coder", type := .byte, accessFlags := 18, slot := 1, constantValue := 0 }, { name := "hash", type := .int, accessFlags := 2, slot := 2, constantValue := 0 }, { name := "hashIsZero", type := .boolean, accessFlags := 2, slot := 3, constantValue := 0 }, { name := "serialVersionUID", type := .long, accessFlags := 26, slot := 0, constantValue := 0 }, { name := "COMPACT_STRINGS", type := .boolean, accessFlags := 24, slot := 1, constantValue := 0 }, { name := "serialPersistentFields", type := (.array (.object "java/io/ObjectStreamField")), accessFlags := 26, slot := 2, constantValue := 0 }, { name := "REPL", type := .char, accessFlags := 26, slot := 3, constantValue := 0 }, { name := "CASE_INSENSITIVE_ORDER", type := (.object "java/util/Comparator"), accessFlags := 25, slot := 4, constantValue := 0 }, { name := "LATIN1", type := .byte, accessFlags := 24, slot := 5, constantValue := 0 }, { name := "UTF16", type := .byte, accessFlags := 24, slot := 6, constantValue := 0 }]
  methods := #[k11m0]
  instanceTypes := #[(.array .byte), .byte, .int, .boolean]
  staticTypes := #[.long, .boolean, (.array (.object "java/io/ObjectStreamField")), .char, (.object "java/util/Comparator"), .byte, .byte]
  resolved := Array.replicate 1451 none
  statics := none }

def pool12 : Array CpInfo := pool [(2, .class_ 4), (1, u "java/lang/Object"), (0, u "<init>"), (0, u "()V"), (35, .class_ 44), (1, u "java/util/Objects"), (0, u "requireNonNull"), (48, u "(Ljava/lang/Object;Ljava/lang/String;)Ljava/lang/Object;")] 89

def k12m0 : Method := { name := "<init>", desc := "()V", sig := { parameters := [], returnType := none }, accessFlags := 2, code := none }
def k12c1 : Code := { maxStack := 3, maxLocals := 2, code := jdk_31_method_11_code, exceptionTable := #[], attributes := #[] }
def k12m1 : Method := { name := "requireNonNull", desc := "(Ljava/lang/Object;Ljava/lang/String;)Ljava/lang/Object;", sig := { parameters := [(.object "java/lang/Object"), (.object "java/lang/String")], returnType := some (.object "java/lang/Object") }, accessFlags := 9, code := some k12c1 }
/-- java/util/Objects -/
def k12 : Class := { plain "java/util/Objects" (some 0) with
  accessFlags := 49
  interfaces := #[]
  cf := some (fileOf pool12 42 #[] #[{ accessFlags := 2, nameIndex := 5, descriptorIndex := 6, attributes := #[] }, { accessFlags := 9, nameIndex := 45, descriptorIndex := 94, attributes := #[] }] 49 2 #[] #[])
  fields := #[]
  methods := #[k12m0, k12m1]
  instanceTypes := #[]
  staticTypes := #[]
  resolved := Array.replicate 184 none
  statics := none }

def pool13 : Array CpInfo := pool [(1, u "java/lang/Cloneable"), (0, .class_ 1), (0, u "java/lang/Object"), (0, .class_ 3)] 3

/-- java/lang/Cloneable -/
def k13 : Class := { plain "java/lang/Cloneable" (some 0) with
  accessFlags := 1537
  interfaces := #[]
  cf := some (fileOf pool13 2 #[] #[] 1537 4 #[] #[])
  fields := #[]
  methods := #[]
  instanceTypes := #[]
  staticTypes := #[]
  resolved := Array.replicate 8 none
  statics := none }

/-- the primitive byte -/
def k14 : Class := { plain "byte" none with kind := .primitive 'B', accessFlags := 0x411 }
/-- [B -/
def k15 : Class := { plain "[B" (some 0) with kind := .array 14 .byte, interfaces := #[13, 4], accessFlags := 1041 }

/-- the primitive int -/
def k16 : Class := { plain "int" none with kind := .primitive 'I', accessFlags := 0x411 }
/-- [I -/
def k17 : Class := { plain "[I" (some 0) with kind := .array 16 .int, interfaces := #[13, 4], accessFlags := 1041 }

def heap : Heap := #[{ cls := 6, slots := #[.ref 1, .ref 2, .ref 3, .ref 4, .null, .null], vm := .statics 6 },
  { cls := 6, slots := #[.null, .int 0, .int 0, .int 0], vm := .none },
  { cls := 6, slots := #[.null, .int 1, .int 0, .int 1], vm := .none },
  { cls := 6, slots := #[.null, .int 2, .int 0, .int 2], vm := .none },
  { cls := 6, slots := #[.null, .int 3, .int 0, .int 3], vm := .none }]
def classes : Array Class := #[k0, k1, k2, k3, k4, k5, k6, k7, k8, k9, k10, k11, k12, k13, k14, k15, k16, k17]
def interned : List (Array UInt16 × Addr) := []
def slotsUsed : Nat := 22
def theMethod : MethodId := ⟨1, 1⟩
def args0 : Array Value := #[.int 5, .int 5, .int 5, .int 5, .int 5, .long 9]
def aboutOver (below : List Frame) : State where
  vm := { classes := classes, interned := interned.toArray }
  heap := heap
  slotsUsed := slotsUsed
  threads := #[{ frames := .invoking theMethod args0 :: below }]
def below0 : List Frame := [.native { method := ⟨0, 0⟩, args := #[] }]
def about1 : State := aboutOver below0
def p0 : Program := .bare "" "" ""
def e0 : Env := launch0.env 0 0 0
theorem w_frames : about1.frames = Frame.invoking theMethod args0 :: below0 := rfl
set_option maxRecDepth 65536 in
theorem w_args : argsFit about1.vm theMethod args0 = true := by decide +kernel
set_option maxRecDepth 65536 in
theorem w_heap : heapFits about1 = true := by decide +kernel
set_option maxRecDepth 65536 in
theorem w_runnable : about1.curStatus? = some .runnable := by decide +kernel
set_option maxRecDepth 65536 in
theorem w_alone : about1.alone = true := by decide +kernel
set_option maxRecDepth 65536 in
theorem w_named : about1.methodNamed? x = some theMethod := by decide +kernel
set_option maxRecDepth 65536 in
theorem w_hears : about1.hears theMethod below0 = true := by decide +kernel
set_option maxRecDepth 65536 in
theorem w_ripe : about1.ripe theMethod args0 below0 = true := by decide +kernel
theorem w_running : about1.status = .running := rfl
set_option maxRecDepth 65536 in
theorem w_room : about1.hasRoom e0.platform room_1 = true :=
  launch0.hasRoom_least _ room_1 (by decide +kernel) (by decide +kernel) (by decide +kernel) (by decide +kernel) (by decide +kernel) (by decide +kernel)
theorem allAtoms_all (ts : List Jvm.Cond) (a : Array Jvm.Value) (st : Jvm.State) : (allAtoms ts).before a st = ts.all (fun c => c.before a st) := by
  induction ts with
  | nil => rfl
  | cons c t ih =>
    show (Jvm.Cond.and c (allAtoms t)).before a st = _
    rw [Jvm.Cond.before_and, ih, List.all_cons]
def words1 : List Jvm.Cond := Jvm.Cond.code x code maxLocals ret :: tables_1
/-- a 'code' word, met by the world's own term for the bytes: nothing is compared byte by byte -/
theorem code_word {y : MethodName} {bytes : ByteArray} {mx : Nat} {rt : Option FieldType} {a : Array Value} {s : State} {m : MethodId} {meth : Method} {c : Code} (h1 : s.methodNamed? y = some m) (h2 : s.vm.method? m = some meth) (h3 : meth.code = some c) (h4 : c.code = bytes)
    (h5 : (c.maxLocals == mx && c.exceptionTable.isEmpty && decide (c.maxStack ≤ mostOperands) && decide (meth.sig.returnType = rt) && !meth.locks && decide (parseMethodDescriptor y.desc = some meth.sig)) = true) : (Jvm.Cond.code y bytes mx rt).before a s = true := by
  simp only [Bool.and_eq_true, beq_iff_eq, Bool.not_eq_true', decide_eq_true_eq] at h5
  obtain ⟨⟨⟨⟨⟨g1, g2⟩, g3⟩, g4⟩, g5⟩, g6⟩ := h5
  simp [Cond.before, Cond.holds, Cond.value, h1, h2, h3, h4, g1, g2, g3, g4, g5, g6]
def isCode : Jvm.Cond → Bool
  | .code _ _ _ _ => true
  | _ => false
theorem all_split {L : List Jvm.Cond} {P : Jvm.Cond → Bool} (h1 : L.all (fun c => isCode c || P c) = true) (h2 : ∀ c ∈ L.filter isCode, P c = true) : L.all P = true := by
  refine List.all_eq_true.mpr fun c hc => ?_
  have h := List.all_eq_true.mp h1 c hc
  rcases Bool.eq_false_or_eq_true (isCode c) with hi | hi
  · exact h2 c (List.mem_filter.mpr ⟨hc, hi⟩)
  · simpa [hi] using h
set_option maxRecDepth 65536 in
theorem w_c0 : (Jvm.Cond.code x code maxLocals ret).before args0 about1 = true := code_word (m := ⟨1, 1⟩) (meth := k1m1) (c := k1c1) (by decide +kernel) rfl rfl rfl (by decide +kernel)
set_option maxRecDepth 65536 in
theorem w_c1 : (Jvm.Cond.code ({ cls := "com/example/hylly/hylly/store/Cell", name := "<init>", desc := "([B[B[BJLcom/example/hylly/hylly/store/Cell$Type;[B)V" } : Jvm.MethodName) prog_48_method_1_code (8 : Nat) (Option.none : Option Jvm.ClassFile.FieldType)).before args0 about1 = true := code_word (m := ⟨8, 0⟩) (meth := k8m0) (c := k8c0) (by decide +kernel) rfl rfl rfl (by decide +kernel)
set_option maxRecDepth 65536 in
theorem w_c2 : (Jvm.Cond.code ({ cls := "java/lang/Record", name := "<init>", desc := "()V" } : Jvm.MethodName) jdk_30_method_1_code (1 : Nat) (Option.none : Option Jvm.ClassFile.FieldType)).before args0 about1 = true := code_word (m := ⟨7, 0⟩) (meth := k7m0) (c := k7c0) (by decide +kernel) rfl rfl rfl (by decide +kernel)
set_option maxRecDepth 65536 in
theorem w_c3 : (Jvm.Cond.code ({ cls := "java/lang/Object", name := "<init>", desc := "()V" } : Jvm.MethodName) object_method_1_code (1 : Nat) (Option.none : Option Jvm.ClassFile.FieldType)).before args0 about1 = true := code_word (m := ⟨0, 0⟩) (meth := k0m0) (c := k0c0) (by decide +kernel) rfl rfl rfl (by decide +kernel)
set_option maxRecDepth 65536 in
theorem w_c4 : (Jvm.Cond.code ({ cls := "java/util/Objects", name := "requireNonNull", desc := "(Ljava/lang/Object;Ljava/lang/String;)Ljava/lang/Object;" } : Jvm.MethodName) jdk_31_method_11_code (2 : Nat) (Option.some (Jvm.ClassFile.FieldType.object "java/lang/Object"))).before args0 about1 = true := code_word (m := ⟨12, 1⟩) (meth := k12m1) (c := k12c1) (by decide +kernel) rfl rfl rfl (by decide +kernel)
set_option maxRecDepth 65536 in
theorem w_c5 : (Jvm.Cond.code ({ cls := "com/example/hylly/hylly/store/Cell", name := "size", desc := "()J" } : Jvm.MethodName) prog_48_method_7_code (1 : Nat) (Option.some Jvm.ClassFile.FieldType.long)).before args0 about1 = true := code_word (m := ⟨8, 1⟩) (meth := k8m1) (c := k8c1) (by decide +kernel) rfl rfl rfl (by decide +kernel)
def codes1 : List Jvm.Cond := [Jvm.Cond.code x code maxLocals ret, Jvm.Cond.code ({ cls := "com/example/hylly/hylly/store/Cell", name := "<init>", desc := "([B[B[BJLcom/example/hylly/hylly/store/Cell$Type;[B)V" } : Jvm.MethodName) prog_48_method_1_code (8 : Nat) (Option.none : Option Jvm.ClassFile.FieldType), Jvm.Cond.code ({ cls := "java/lang/Record", name := "<init>", desc := "()V" } : Jvm.MethodName) jdk_30_method_1_code (1 : Nat) (Option.none : Option Jvm.ClassFile.FieldType), Jvm.Cond.code ({ cls := "java/lang/Object", name := "<init>", desc := "()V" } : Jvm.MethodName) object_method_1_code (1 : Nat) (Option.none : Option Jvm.ClassFile.FieldType), Jvm.Cond.code ({ cls := "java/util/Objects", name := "requireNonNull", desc := "(Ljava/lang/Object;Ljava/lang/String;)Ljava/lang/Object;" } : Jvm.MethodName) jdk_31_method_11_code (2 : Nat) (Option.some (Jvm.ClassFile.FieldType.object "java/lang/Object")), Jvm.Cond.code ({ cls := "com/example/hylly/hylly/store/Cell", name := "size", desc := "()J" } : Jvm.MethodName) prog_48_method_7_code (1 : Nat) (Option.some Jvm.ClassFile.FieldType.long)]
set_option maxRecDepth 65536 in
theorem codes_eq : words1.filter isCode = codes1 := rfl
theorem w_codes : ∀ c ∈ words1.filter isCode, c.before args0 about1 = true := by
  rw [codes_eq]
  intro c hc
  simp only [codes1, List.mem_cons, List.not_mem_nil, or_false] at hc
  rcases hc with rfl | rfl | rfl | rfl | rfl | rfl
  · exact w_c0
  · exact w_c1
  · exact w_c2
  · exact w_c3
  · exact w_c4
  · exact w_c5
set_option maxRecDepth 65536 in
theorem w_t1 : (words1.take 24).all (fun c => isCode c || c.before args0 about1) = true := by decide +kernel
set_option maxRecDepth 65536 in
theorem w_t2 : ((words1.drop 24).take 24).all (fun c => isCode c || c.before args0 about1) = true := by decide +kernel
set_option maxRecDepth 65536 in
theorem w_t3 : ((words1.drop 24).drop 24).all (fun c => isCode c || c.before args0 about1) = true := by decide +kernel
theorem w_tables : (allAtoms (Jvm.Cond.code x code maxLocals ret :: tables_1)).before args0 about1 = true := by
  rw [allAtoms_all]
  show words1.all (fun c => c.before args0 about1) = true
  refine all_split ?_ w_codes
  rw [← List.take_append_drop 24 words1, List.all_append, w_t1, ← List.take_append_drop 24 (words1.drop 24), List.all_append, w_t2, w_t3]
  rfl
set_option maxRecDepth 65536 in
theorem w_case : (Jvm.Cond.and given_1 narrow_1).before args0 about1 = true := by decide +kernel
theorem w_applies : (headSpec (Jvm.Cond.code x code maxLocals ret :: tables_1) room_1).applies x e0.platform about1 = true :=
  (Spec.applies_iff w_frames).mpr ⟨w_running, w_runnable, w_alone, w_named, w_hears, w_ripe, w_room, w_tables⟩
theorem atStart : AtStart classFile x code maxLocals ret World_1 tables_1 room_1 Calls_1 rest_1 Pre_1 launch0 p0 e0 about1 theMethod args0 below0 :=
  ⟨lists_1, trivial, launch0.admits_env _ _ _, launch0.least_env, fairChoices_fair.cas, fairChoices_fair.clock, w_frames, w_args, w_heap, w_applies, trivial, trivial, w_case⟩
end start1
theorem witness_1 : WitnessClaimed_1 := ⟨start1.p0, start1.e0, start1.about1, start1.theMethod, start1.args0, start1.below0, start1.atStart⟩
end Jvm.Pilot.@@N@@
