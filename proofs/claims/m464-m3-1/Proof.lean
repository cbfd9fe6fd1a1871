import JvmDerived
import JvmDerived.Pilot.@@N@@Statement
import JvmDerived.Pilot.@@N@@Code
set_option linter.unusedVariables false
set_option linter.unusedSimpArgs false
namespace Jvm.Pilot.@@N@@
open Jvm Jvm.ClassFile Sem Op Lib Jvm.Free Jvm.Stand Jvm.LawKit Jvm.RoadKit Bundle Jvm.Pilot.@@N@@.Jvm.D
/-! 1. what is known of the heap: a list of objects made since the start -/
abbrev oOb : Type := (String × List (String × String × String × Value)) ⊕ (FieldType × List Value)
abbrev oVw : Type := List (Addr × oOb)
def oSat (Z : State) (h : Heap) (a : Addr) : oOb → Prop
  | .inl q => Exa Z h a q.1 ∧ (q.2.map fun f => Jvm.RoadKit.slotOf Z f.1 f.2.1 f.2.2.1).Nodup ∧ ∀ f ∈ q.2, Fld Z h a f.1 f.2.1 f.2.2.1 f.2.2.2
  | .inr q => ∃ c : Cell, Arr Z h a c q.1 ∧ c.slots.toList = q.2 ∧ q.2.length < 2 ^ 31
def oHv (Z : State) (h : Heap) (V : oVw) : Prop := Ext Z.heap h ∧ (V.map Prod.fst).Nodup ∧ ∀ x ∈ V, Z.heap.size ≤ x.1 ∧ oSat Z h x.1 x.2
theorem oSat.ext {Z : State} {h h' : Heap} {a : Addr} {o : oOb} (E : Ext h h') (S : oSat Z h a o) : oSat Z h' a o := by
  cases o with
  | inl q => exact ⟨S.1.ext E, S.2.1, fun f hf => (S.2.2 f hf).ext E⟩
  | inr q => obtain ⟨c, A, r⟩ := S; exact ⟨c, A.ext E, r⟩
theorem oSat.other {Z : State} {h h' : Heap} {a b : Addr} {o : oOb} {sl : Nat} {v : Value} (W : Wr h h' b sl v) (ne : a ≠ b) (S : oSat Z h a o) : oSat Z h' a o := by
  cases o with
  | inl q => exact ⟨S.1.wr W, S.2.1, fun f hf => (S.2.2 f hf).other W (Or.inl ne)⟩
  | inr q => obtain ⟨c, A, r⟩ := S; exact ⟨c, A.other W ne, r⟩
theorem oSat.lt {Z : State} {h : Heap} {a : Addr} {o : oOb} (S : oSat Z h a o) : a < h.size := by
  cases o with
  | inl q => exact S.1.lt
  | inr q => obtain ⟨c, A, r⟩ := S; exact A.lt
theorem oSetSame {α : Type} : ∀ {l : List α} {i : Nat} {x : α}, l[i]? = some x → l.set i x = l
  | [], _, _, h => by simp at h
  | y :: r, 0, x, h => by simp at h; simp [h]
  | y :: r, i + 1, x, h => by simp at h; simp [oSetSame h]
theorem oSetGet {α : Type} {l : List α} {i : Nat} {x y : α} (h : l[i]? = some x) : (l.set i y)[i]? = some y := by
  obtain ⟨hi, -⟩ := List.getElem?_eq_some_iff.mp h
  simp [hi]
theorem oSetNe {α : Type} {l : List α} {i k : Nat} {x y : α} (ne : i ≠ k) (h : l[k]? = some x) : (l.set i y)[k]? = some x := by
  rw [List.getElem?_set_ne ne]; exact h
theorem oAppGet {α : Type} {l r : List α} {i : Nat} {x : α} (h : l[i]? = some x) : (l ++ r)[i]? = some x := by
  obtain ⟨hi, -⟩ := List.getElem?_eq_some_iff.mp h
  rw [List.getElem?_append_left hi]; exact h
theorem oAppLast {α : Type} {l : List α} {x : α} : (l ++ [x])[l.length]? = some x := by simp
theorem oAppSet {α : Type} {l r : List α} {i : Nat} {x y : α} (h : l[i]? = some x) : (l ++ r).set i y = l.set i y ++ r := by
  obtain ⟨hi, -⟩ := List.getElem?_eq_some_iff.mp h
  simp [List.set_append, hi]
theorem oAppSetLast {α : Type} {l : List α} {x y : α} : (l ++ [x]).set l.length y = l ++ [y] := by simp [List.set_append]
theorem oNd {α β : Type} {f : α → β} {l : List α} (nd : (l.map f).Nodup) {i k : Nat} {x y : α} (hi : l[i]? = some x) (hk : l[k]? = some y) (ne : i ≠ k) : f x ≠ f y := by
  intro e
  have h1 : (l.map f)[i]? = some (f x) := by simp [hi]
  have h2 : (l.map f)[k]? = some (f x) := by simp [hk, e]
  obtain ⟨hi', g1⟩ := List.getElem?_eq_some_iff.mp h1
  obtain ⟨hk', g2⟩ := List.getElem?_eq_some_iff.mp h2
  exact ne ((List.getElem_inj nd).mp (g1.trans g2.symm))
theorem oMapSet {α β : Type} {f : α → β} {l : List α} {i : Nat} {x y : α} (hi : l[i]? = some x) (e : f y = f x) : (l.set i y).map f = l.map f := by
  rw [List.map_set]; exact oSetSame (by simp [hi, e])
theorem oMemSet {α : Type} {l : List α} {i : Nat} {y z : α} (h : z ∈ l.set i y) : z = y ∨ ∃ k, k ≠ i ∧ l[k]? = some z := by
  obtain ⟨k, hk⟩ := List.mem_iff_getElem?.mp h
  by_cases e : i = k
  · subst e
    obtain ⟨hi, g⟩ := List.getElem?_eq_some_iff.mp hk
    left; simp at g; exact g.symm
  · right; exact ⟨k, fun q => e q.symm, by rwa [List.getElem?_set_ne e] at hk⟩
theorem oHv.new {Z : State} {h h' : Heap} {V : oVw} {o : oOb} (H : oHv Z h V) (E : Ext h h') (S : oSat Z h' h.size o) : oHv Z h' (V ++ [(h.size, o)]) := by
  obtain ⟨H1, H2, H3⟩ := H
  refine ⟨⟨Nat.le_trans H1.1 E.1, fun a c q => E.2 _ _ (H1.2 _ _ q)⟩, ?_, fun x hx => ?_⟩
  · rw [List.map_append, List.nodup_append]
    refine ⟨H2, by simp, fun a ha b hb => ?_⟩
    simp at hb
    subst hb
    obtain ⟨x, hx, rfl⟩ := List.mem_map.mp ha
    exact Nat.ne_of_lt (H3 x hx).2.lt
  · rcases List.mem_append.mp hx with hx | hx
    · exact ⟨(H3 x hx).1, (H3 x hx).2.ext E⟩
    · simp at hx; subst hx; exact ⟨H1.1, S⟩
theorem oHv.wr {Z : State} {h h' : Heap} {V : oVw} {a : Addr} {o o' : oOb} {i sl : Nat} {v : Value} (H : oHv Z h V) (W : Wr h h' a sl v) (hi : V[i]? = some (a, o)) (S : oSat Z h' a o') : oHv Z h' (V.set i (a, o')) := by
  obtain ⟨H1, H2, H3⟩ := H
  have hm := H3 _ (List.mem_of_getElem? hi)
  refine ⟨(Old.wr (n0 := Z.heap.size) ⟨rfl, H1⟩ W hm.1).2, ?_, fun x hx => ?_⟩
  · rw [oMapSet (y := (a, o')) hi rfl]; exact H2
  · rcases oMemSet hx with rfl | ⟨k, hk, hx⟩
    · exact ⟨hm.1, S⟩
    · have q := H3 _ (List.mem_of_getElem? hx)
      exact ⟨q.1, q.2.other W (oNd H2 hx hi hk)⟩
theorem oSat.wrF {Z : State} {h h' : Heap} {a : Addr} {C O n d : String} {fs : List (String × String × String × Value)} {j : Nat} {v old : Value} (S : oSat Z h a (.inl (C, fs))) (hj : fs[j]? = some (O, n, d, old)) (W : Wr h h' a (Jvm.RoadKit.slotOf Z O n d) v) :
    oSat Z h' a (.inl (C, fs.set j (O, n, d, v))) := by
  obtain ⟨S1, S2, S3⟩ := S
  refine ⟨S1.wr W, ?_, fun f hf => ?_⟩
  · show ((fs.set j (O, n, d, v)).map _).Nodup
    rw [oMapSet (y := (O, n, d, v)) hj rfl]; exact S2
  · rcases oMemSet hf with rfl | ⟨k, hk, hf⟩
    · exact (S3 _ (List.mem_of_getElem? hj)).same W
    · have S2' : (fs.map fun f => Jvm.RoadKit.slotOf Z f.1 f.2.1 f.2.2.1).Nodup := S2
      have q := oNd S2' hf hj hk
      dsimp only at q
      exact (S3 _ (List.mem_of_getElem? hf)).other W (Or.inr q)
theorem oSat.wrA {Z : State} {h h' : Heap} {a : Addr} {ty : FieldType} {vs : List Value} {j : Nat} {v : Value} (S : oSat Z h a (.inr (ty, vs))) (W : Wr h h' a j v) : oSat Z h' a (.inr (ty, vs.set j v)) := by
  obtain ⟨c, A, r1, r2⟩ := S
  refine ⟨_, A.same W, ?_, by rw [List.length_set]; exact r2⟩
  show (c.setSlot j v).slots.toList = _
  simp only [Cell.setSlot, Array.toList_setIfInBounds, r1]
theorem oHv.sat {Z : State} {h : Heap} {V : oVw} {a : Addr} {o : oOb} {i : Nat} (H : oHv Z h V) (hi : V[i]? = some (a, o)) : oSat Z h a o := (H.2.2 _ (List.mem_of_getElem? hi)).2
theorem oHv.ge {Z : State} {h : Heap} {V : oVw} {a : Addr} {o : oOb} {i : Nat} (H : oHv Z h V) (hi : V[i]? = some (a, o)) : Z.heap.size ≤ a := (H.2.2 _ (List.mem_of_getElem? hi)).1
theorem oHv.nil (Z : State) : oHv Z Z.heap [] := ⟨⟨Nat.le_refl _, fun _ _ q => q⟩, List.nodup_nil, fun _ q => nomatch q⟩
/-- the fields of a class, as they are at first -/
def oLay (Z : State) (a0 : Array Value) (C : String) (fs : List (String × String × String × Value)) : Prop := (fs.map fun f => Jvm.RoadKit.slotOf Z f.1 f.2.1 f.2.2.1).Nodup ∧ ∀ f ∈ fs, Laid Z a0 C f.1 f.2.1 f.2.2.1 ∧ ∃ ty, parseFieldDescriptor f.2.2.1 = some ty ∧ f.2.2.2 = defaultValue ty
def oAll {α : Type} (P : α → Prop) : List α → Prop
  | [] => True
  | x :: r => P x ∧ oAll P r
theorem oAll.mem {α : Type} {P : α → Prop} : ∀ {l : List α}, oAll P l → ∀ x ∈ l, P x
  | [], _, _, q => nomatch q
  | y :: r, H, x, q => (List.mem_cons.mp q).elim (fun u => u ▸ H.1) (oAll.mem H.2 x)
theorem oLay.of {Z : State} {a0 : Array Value} {C : String} {fs : List (String × String × String × Value)} (hn : (fs.map fun f => f.2.1).Nodup) (hL : oAll (fun f => Laid Z a0 C f.1 f.2.1 f.2.2.1 ∧ ∃ ty, parseFieldDescriptor f.2.2.1 = some ty ∧ f.2.2.2 = defaultValue ty) fs) : oLay Z a0 C fs := by
  have hL := hL.mem
  refine ⟨?_, hL⟩
  have hn' := List.pairwise_map.mp hn
  refine List.pairwise_map.mpr (List.Pairwise.imp_of_mem (fun {x z} hx hz ne => ?_) hn')
  obtain ⟨L1, t1, p1, -⟩ := hL _ hx
  obtain ⟨L2, t2, p2, -⟩ := hL _ hz
  exact slot_ne L1 L2 ne p1 p2
/-! 2. where the run stands, and where it goes -/
section Walk
variable {p : Program} {l : Launch} {e : Env} {R : Room} {s : State} {m : MethodId} {args : Array Value} {below : List Frame} {meth : Method} {c : Code} {Z : State} {bytes : ByteArray} {own nm : String} {maxL : Nat} {ret : Option FieldType} {T : State} {V V' : oVw} {cells slots c2 s2 : Nat} {Ret : Option Value → oVw → Prop} {a0 : Array Value} {fb fc fk : Bool} {pc q : Nat} {Ls : Array Slot} {st rest : List Value}
def oE (fb : Bool) (p : Program) (l : Launch) (e : Env) (R : Room) (s : State) (m : MethodId) (args : Array Value) (below : List Frame) (meth : Method) (c : Code) (Z : State) (bytes : ByteArray) (own nm : String) (maxL : Nat) (ret : Option FieldType) : Prop :=
  p.tables.exec = Jvm.exec ∧ Z.Warmed39 s.vm ∧ s.vm.findClass own = some m.cls ∧ c.code = bytes ∧ c.maxLocals = maxL ∧ meth.sig.returnType = ret ∧ meth.name = nm ∧ meth.locks = false ∧ (fb = true → s.vm.interned = Z.vm.interned)
def oX (p : Program) (l : Launch) (e : Env) (R : Room) (s : State) (m : MethodId) (args : Array Value) (below : List Frame) (meth : Method) (c : Code) (Z T : State) (V : oVw) (cells slots : Nat) (fk : Bool) : Prop :=
  ∃ locs c' s', c' ≤ cells ∧ s' ≤ slots ∧ (∃ vm0 k0, Stand p l e R (s.setVm vm0) m args below meth c T locs c' s' ∧ s.Since vm0 k0 ∧ k0 ≤ T.heap.size ∧ (fk = true → vm0.interned = s.vm.interned)) ∧ Fr Z.heap.size locs ∧ oHv Z T.heap V
def oG (fb : Bool) (p : Program) (e : Env) (below : List Frame) (s Z : State) (R : Room) (Ret : Option Value → oVw → Prop) (T : State) (g : JFrame) : Prop :=
  ∃ t o, Steps p.tables e below (T.setTop g) t ∧ t.status = .running ∧ Ended t below o ∧ ∃ v L, o = .returned v ∧ (Fr Z.heap.size L ∧ ∃ V', Ret v V' ∧ oHv Z t.heap V') ∧ ReturnedEndW s o t L R.cells R.slots ∧ (fb = false → t.vm.interned = s.vm.interned)
/-- the contract of a method at a view V of the heap -/
def oCon (fb : Bool) (l : Launch) (Z : State) (y : MethodName) (bytes : ByteArray) (maxL : Nat) (ret : Option FieldType) (rm : Room) (as' : Array Value) (V : oVw) (Ret : Option Value → oVw → Prop) : Prop :=
  ∀ (ws : List Jvm.Cond) (h0 : Heap), oHv Z h0 V → MetFree l y (head1 (Jvm.Cond.code y bytes maxL ret :: ws) rm) (fun a U => a = as' ∧ Z.Warmed39 U.vm ∧ U.heap = h0 ∧ (fb = true → U.vm.interned = Z.vm.interned)) (fun _ _ _ _ _ => True) (fun _ U o U' => ∃ v L, o = .returned v ∧ (Fr Z.heap.size L ∧ ∃ V', Ret v V' ∧ oHv Z U'.heap V') ∧ ReturnedEndW U o U' L rm.cells rm.slots ∧ (fb = false → U'.vm.interned = U.vm.interned))
theorem oG.step {T' : State} {g g' : JFrame} (k : ∀ t, Steps p.tables e below (T'.setTop g') t → Steps p.tables e below (T.setTop g) t) (G : oG fb p e below s Z R Ret T' g') : oG fb p e below s Z R Ret T g := by
  obtain ⟨t, o, h1, r⟩ := G; exact ⟨t, o, k t h1, r⟩
theorem oG.steps {T' : State} {g g' : JFrame} (k : Steps p.tables e below (T.setTop g) (T'.setTop g')) (G : oG fb p e below s Z R Ret T' g') : oG fb p e below s Z R Ret T g := by
  obtain ⟨t, o, h1, r⟩ := G; exact ⟨t, o, k.trans h1, r⟩
theorem oX.le (X : oX p l e R s m args below meth c Z T V cells slots fk) (h1 : cells ≤ c2) (h2 : slots ≤ s2) : oX p l e R s m args below meth c Z T V c2 s2 fk := by
  obtain ⟨locs, c', s', q1, q2, r⟩ := X; exact ⟨locs, c', s', Nat.le_trans q1 h1, Nat.le_trans q2 h2, r⟩
theorem oX.hv (X : oX p l e R s m args below meth c Z T V cells slots fk) : oHv Z T.heap V := by
  obtain ⟨_, _, _, _, _, _, _, H⟩ := X; exact H
/-- entering a method -/
theorem oEnter {y : MethodName} {as' : Array Value} {rm : Room} (hpl : plainFor y = true) (hent : ∀ m, entryFrame m as' maxL = mkF m 0 Ls [])
    (body : ∀ p e s m below meth c T, oE fb p l e rm s m as' below meth c Z bytes y.cls y.name maxL ret → oX p l e rm s m as' below meth c Z T V 0 0 true → oG fb p e below s Z rm Ret T (mkF m 0 Ls [])) :
    oCon fb l Z y bytes maxL ret rm as' V Ret := by
  intro ws h0 H
  refine MetFree.of_bodySF hpl hisR ?_
  intro p e s m args below meth c s₁ Bd hml0 hP hK
  obtain ⟨rfl, hZ, hh, hI⟩ := hP
  have e0 : s₁.heap = h0 := by rw [← hh, Bd.state]; rfl
  have G := body p e s m below meth c s₁ ⟨Bd.exec, hZ, findClass_of_methodNamed Bd.named, Bd.bytes, hml0, Bd.returns, (name_of_methodNamed Bd.named Bd.method).1, BodyLoose.notSynchronized Bd, hI⟩ ⟨[], 0, 0, Nat.le_refl _, Nat.le_refl _, ⟨s.vm, 0, (Stand.of_body Bd : Stand p l e rm (s.setVm s.vm) m _ below meth c s₁ [] 0 0), (State.WarmedH.refl s).since 0, Nat.zero_le _, fun _ => rfl⟩, Fr.nil _, e0 ▸ H⟩
  obtain ⟨t, o, h1, r⟩ := G
  exact ⟨t, o, castTop (hent m) h1, r⟩
/-! 3. leaving -/
theorem oWm {vm0 : Vm} {k0 : Nat} (E : oE fb p l e R s m args below meth c Z bytes own nm maxL ret) (hS : s.Since vm0 k0) : Z.Warmed39 (s.setVm vm0).vm := State.Warmed39.trans E.2.1 hS.1
theorem oOw {vm0 : Vm} {k0 : Nat} (E : oE fb p l e R s m args below meth c Z bytes own nm maxL ret) (hS : s.Since vm0 k0) : (s.setVm vm0).vm.findClass own = some m.cls := (hS.1.alike.findClass _ _).trans E.2.2.1
theorem oLeave (E : oE fb p l e R s m args below meth c Z bytes own nm maxL ret) (X : oX p l e R s m args below meth c Z T V cells slots fk) (hc : cells ≤ R.cells) (hs : slots ≤ R.slots) (hF : fb = true ∨ fk = true) {v : Option Value} (hv : meth.sig.returnType = none → v = none) (hR : Ret v V) {g : JFrame}
    (k : ∀ {vm0 locs c' s'}, Stand p l e R (s.setVm vm0) m args below meth c T locs c' s' → ∀ fs, (∀ (f : JFrame) (acts : List Action), f.method = m → f.locked = none → f.entered = [] → (doReturn e (T.setTop f) acts v).1 = T.setFrames fs) → Steps p.tables e below (T.setTop g) (T.setFrames fs)) :
    oG fb p e below s Z R Ret T g := by
  obtain ⟨locs, c', s', q1, q2, ⟨vm0, k0, Y, hS, hk, hJ⟩, N, H⟩ := X
  have hlocks := E.2.2.2.2.2.2.2.1
  obtain ⟨fs, hr, hrun, hended, hW⟩ := Y.leaveW hS hk (v := v) hv hlocks
  exact ⟨_, _, k Y fs hr, hrun, hended, _, _, rfl, ⟨N, _, hR, H⟩, ⟨hW.1, hW.2.1, hW.2.2.1, hW.2.2.2.mono (Nat.le_trans q1 hc) (Nat.le_trans q2 hs)⟩, fun hbf => Y.warmed.interned_eq.trans (hJ (hF.resolve_left fun z => by rw [hbf] at z; cases z))⟩
theorem gRetV (E : oE fb p l e R s m args below meth c Z bytes own nm maxL none) (X : oX p l e R s m args below meth c Z T V cells slots fk) (hd : decode bytes pc = .ok (.return_, 1)) (hc : cells ≤ R.cells) (hs : slots ≤ R.slots) (hF : fb = true ∨ fk = true) (hR : Ret none V) : oG fb p e below s Z R Ret T (mkF m pc Ls []) :=
  oLeave E X hc hs hF (fun _ => rfl) hR fun Y fs hr => Y.returnOut E.1 E.2.2.2.2.2.1 (hb E.2.2.2.1 hd) hr
theorem gRetI (E : oE fb p l e R s m args below meth c Z bytes own nm maxL (some .int)) (X : oX p l e R s m args below meth c Z T V cells slots fk) {z : Int32} (hd : decode bytes pc = .ok (.ireturn, 1)) (hc : cells ≤ R.cells) (hs : slots ≤ R.slots) (hF : fb = true ∨ fk = true) (hR : Ret (some (.int z)) V) : oG fb p e below s Z R Ret T (mkF m pc Ls (.int z :: rest)) :=
  oLeave E X hc hs hF (fun h => by rw [E.2.2.2.2.2.1] at h; cases h) hR fun Y fs hr => retOut Y E.1 E.2.2.2.2.2.1 rfl (Or.inl ⟨rfl, Or.inl rfl, _, rfl⟩) (hb E.2.2.2.1 hd) hr
theorem gRetN {t : FieldType} (E : oE fb p l e R s m args below meth c Z bytes own nm maxL (some t)) (X : oX p l e R s m args below meth c Z T V cells slots fk) (ht : t = .boolean ∨ t = .byte ∨ t = .char ∨ t = .short) {z : Int32} (hd : decode bytes pc = .ok (.ireturn, 1)) (hc : cells ≤ R.cells) (hs : slots ≤ R.slots) (hF : fb = true ∨ fk = true) (hR : Ret (some (.int (nar t z))) V) : oG fb p e below s Z R Ret T (mkF m pc Ls (.int z :: rest)) :=
  oLeave E X hc hs hF (fun h => by rw [E.2.2.2.2.2.1] at h; cases h) hR fun Y fs hr => retN Y E.1 E.2.2.2.2.2.1 ht (hb E.2.2.2.1 hd) hr
theorem gRetJ (E : oE fb p l e R s m args below meth c Z bytes own nm maxL (some .long)) (X : oX p l e R s m args below meth c Z T V cells slots fk) {z : Int64} (hd : decode bytes pc = .ok (.lreturn, 1)) (hc : cells ≤ R.cells) (hs : slots ≤ R.slots) (hF : fb = true ∨ fk = true) (hR : Ret (some (.long z)) V) : oG fb p e below s Z R Ret T (mkF m pc Ls (.long z :: rest)) :=
  oLeave E X hc hs hF (fun h => by rw [E.2.2.2.2.2.1] at h; cases h) hR fun Y fs hr => retOut Y E.1 E.2.2.2.2.2.1 rfl (Or.inr (Or.inl ⟨rfl, rfl, _, rfl⟩)) (hb E.2.2.2.1 hd) hr
theorem gRetA {t : FieldType} (E : oE fb p l e R s m args below meth c Z bytes own nm maxL (some t)) (X : oX p l e R s m args below meth c Z T V cells slots fk) (ht : t.isReference = true) {v : Value} (hd : decode bytes pc = .ok (.areturn, 1)) (hc : cells ≤ R.cells) (hs : slots ≤ R.slots) (hF : fb = true ∨ fk = true) (hv : v.isRef = true) (hn : narrow t v = v) (hR : Ret (some v) V) : oG fb p e below s Z R Ret T (mkF m pc Ls (v :: rest)) :=
  oLeave E X hc hs hF (fun h => by rw [E.2.2.2.2.2.1] at h; cases h) hR fun Y fs hr => retOut Y E.1 E.2.2.2.2.2.1 hn (Or.inr (Or.inr (Or.inr (Or.inr ⟨rfl, ht, hv⟩)))) (hb E.2.2.2.1 hd) hr
/-! 4. single steps -/
theorem gAloadN (E : oE fb p l e R s m args below meth c Z bytes own nm maxL ret) (X : oX p l e R s m args below meth c Z T V cells slots fk) {k : Fin 4} {v : Value} (hd : decode bytes pc = .ok (.aload_n k, 1)) (hl : Ls[k.val]? = some (.val v)) (hv : v.isRef = true) (hp : pc + 1 = q) (G : oG fb p e below s Z R Ret T (mkF m q Ls (v :: st))) : oG fb p e below s Z R Ret T (mkF m pc Ls st) := by
  subst hp ; obtain ⟨_, _, _, _, _, ⟨vm0, k0, Y, hS, hk, hJ⟩, _⟩ := X; exact G.step fun t k => XS.aloadN Y.here E.1 rfl (hb E.2.2.2.1 hd) hl hv k
theorem gAload (E : oE fb p l e R s m args below meth c Z bytes own nm maxL ret) (X : oX p l e R s m args below meth c Z T V cells slots fk) {k : Nat} {v : Value} (hd : decode bytes pc = .ok (.aload k, 2)) (hl : Ls[k]? = some (.val v)) (hv : v.isRef = true) (hp : pc + 2 = q) (G : oG fb p e below s Z R Ret T (mkF m q Ls (v :: st))) : oG fb p e below s Z R Ret T (mkF m pc Ls st) := by
  subst hp ; obtain ⟨_, _, _, _, _, ⟨vm0, k0, Y, hS, hk, hJ⟩, _⟩ := X; exact G.step fun t k => XS.aload Y.here E.1 rfl (hb E.2.2.2.1 hd) hl hv k
theorem gIloadN (E : oE fb p l e R s m args below meth c Z bytes own nm maxL ret) (X : oX p l e R s m args below meth c Z T V cells slots fk) {k : Fin 4} {v : Int32} (hd : decode bytes pc = .ok (.iload_n k, 1)) (hl : Ls[k.val]? = some (.val (.int v))) (hp : pc + 1 = q) (G : oG fb p e below s Z R Ret T (mkF m q Ls (.int v :: st))) : oG fb p e below s Z R Ret T (mkF m pc Ls st) := by
  subst hp ; obtain ⟨_, _, _, _, _, ⟨vm0, k0, Y, hS, hk, hJ⟩, _⟩ := X; exact G.step fun t k => XS.iloadN Y.here E.1 rfl (hb E.2.2.2.1 hd) hl k
theorem gIload (E : oE fb p l e R s m args below meth c Z bytes own nm maxL ret) (X : oX p l e R s m args below meth c Z T V cells slots fk) {k : Nat} {v : Int32} (hd : decode bytes pc = .ok (.iload k, 2)) (hl : Ls[k]? = some (.val (.int v))) (hp : pc + 2 = q) (G : oG fb p e below s Z R Ret T (mkF m q Ls (.int v :: st))) : oG fb p e below s Z R Ret T (mkF m pc Ls st) := by
  subst hp ; obtain ⟨_, _, _, _, _, ⟨vm0, k0, Y, hS, hk, hJ⟩, _⟩ := X; exact G.step fun t k => XS.iload Y.here E.1 rfl (hb E.2.2.2.1 hd) hl k
theorem gLloadN (E : oE fb p l e R s m args below meth c Z bytes own nm maxL ret) (X : oX p l e R s m args below meth c Z T V cells slots fk) {k : Fin 4} {v : Int64} (hd : decode bytes pc = .ok (.lload_n k, 1)) (hl : Ls[k.val]? = some (.val (.long v))) (hp : pc + 1 = q) (G : oG fb p e below s Z R Ret T (mkF m q Ls (.long v :: st))) : oG fb p e below s Z R Ret T (mkF m pc Ls st) := by
  subst hp ; obtain ⟨_, _, _, _, _, ⟨vm0, k0, Y, hS, hk, hJ⟩, _⟩ := X; exact G.step fun t k => XT.lloadN Y.here E.1 rfl (hb E.2.2.2.1 hd) hl k
theorem gLload (E : oE fb p l e R s m args below meth c Z bytes own nm maxL ret) (X : oX p l e R s m args below meth c Z T V cells slots fk) {k : Nat} {v : Int64} (hd : decode bytes pc = .ok (.lload k, 2)) (hl : Ls[k]? = some (.val (.long v))) (hp : pc + 2 = q) (G : oG fb p e below s Z R Ret T (mkF m q Ls (.long v :: st))) : oG fb p e below s Z R Ret T (mkF m pc Ls st) := by
  subst hp ; obtain ⟨_, _, _, _, _, ⟨vm0, k0, Y, hS, hk, hJ⟩, _⟩ := X; exact G.step fun t k => XT.lload Y.here E.1 rfl (hb E.2.2.2.1 hd) hl k
theorem gIconst (E : oE fb p l e R s m args below meth c Z bytes own nm maxL ret) (X : oX p l e R s m args below meth c Z T V cells slots fk) {i : Int} {v : Int32} (hd : decode bytes pc = .ok (.iconst i, 1)) (hv : Int32.ofInt i = v) (hp : pc + 1 = q) (G : oG fb p e below s Z R Ret T (mkF m q Ls (.int v :: st))) : oG fb p e below s Z R Ret T (mkF m pc Ls st) := by
  subst hp ; obtain ⟨_, _, _, _, _, ⟨vm0, k0, Y, hS, hk, hJ⟩, _⟩ := X; exact G.step fun t k => XT.iconstV Y.here E.1 rfl v (hb E.2.2.2.1 hd) hv k
theorem gBipush (E : oE fb p l e R s m args below meth c Z bytes own nm maxL ret) (X : oX p l e R s m args below meth c Z T V cells slots fk) {i : Int} {v : Int32} (hd : decode bytes pc = .ok (.bipush i, 2)) (hv : (Int8.ofInt i).toInt32 = v) (hp : pc + 2 = q) (G : oG fb p e below s Z R Ret T (mkF m q Ls (.int v :: st))) : oG fb p e below s Z R Ret T (mkF m pc Ls st) := by
  subst hp ; obtain ⟨_, _, _, _, _, ⟨vm0, k0, Y, hS, hk, hJ⟩, _⟩ := X; exact G.step fun t k => XT.bipushV Y.here E.1 rfl v (hb E.2.2.2.1 hd) hv k
theorem gSipush (E : oE fb p l e R s m args below meth c Z bytes own nm maxL ret) (X : oX p l e R s m args below meth c Z T V cells slots fk) {i : Int} {v : Int32} (hd : decode bytes pc = .ok (.sipush i, 3)) (hv : (Int16.ofInt i).toInt32 = v) (hp : pc + 3 = q) (G : oG fb p e below s Z R Ret T (mkF m q Ls (.int v :: st))) : oG fb p e below s Z R Ret T (mkF m pc Ls st) := by
  subst hp ; obtain ⟨_, _, _, _, _, ⟨vm0, k0, Y, hS, hk, hJ⟩, _⟩ := X; exact G.step fun t k => XT.sipushV Y.here E.1 rfl v (hb E.2.2.2.1 hd) hv k
theorem gLconst (E : oE fb p l e R s m args below meth c Z bytes own nm maxL ret) (X : oX p l e R s m args below meth c Z T V cells slots fk) {i : Fin 2} {v : Int64} (hd : decode bytes pc = .ok (.lconst i, 1)) (hv : Int64.ofNat i = v) (hp : pc + 1 = q) (G : oG fb p e below s Z R Ret T (mkF m q Ls (.long v :: st))) : oG fb p e below s Z R Ret T (mkF m pc Ls st) := by
  subst hp ; obtain ⟨_, _, _, _, _, ⟨vm0, k0, Y, hS, hk, hJ⟩, _⟩ := X; exact G.step fun t k => XT.lconstV Y.here E.1 rfl v (hb E.2.2.2.1 hd) hv k
theorem gNull (E : oE fb p l e R s m args below meth c Z bytes own nm maxL ret) (X : oX p l e R s m args below meth c Z T V cells slots fk)  (hd : decode bytes pc = .ok (.aconst_null, 1))  (hp : pc + 1 = q) (G : oG fb p e below s Z R Ret T (mkF m q Ls (.null :: st))) : oG fb p e below s Z R Ret T (mkF m pc Ls st) := by
  subst hp ; obtain ⟨_, _, _, _, _, ⟨vm0, k0, Y, hS, hk, hJ⟩, _⟩ := X; exact G.step fun t k => XS.aconstNull Y.here E.1 rfl (hb E.2.2.2.1 hd) k
theorem gIadd (E : oE fb p l e R s m args below meth c Z bytes own nm maxL ret) (X : oX p l e R s m args below meth c Z T V cells slots fk) {x y z : Int32} (hd : decode bytes pc = .ok (.iadd, 1)) (hz : (x + y) = z) (hp : pc + 1 = q) (G : oG fb p e below s Z R Ret T (mkF m q Ls (.int z :: st))) : oG fb p e below s Z R Ret T (mkF m pc Ls (.int y :: .int x :: st)) := by
  subst hp hz; obtain ⟨_, _, _, _, _, ⟨vm0, k0, Y, hS, hk, hJ⟩, _⟩ := X; exact G.step fun t k => XS.iadd Y.here E.1 rfl (hb E.2.2.2.1 hd) rfl k
theorem gIsub (E : oE fb p l e R s m args below meth c Z bytes own nm maxL ret) (X : oX p l e R s m args below meth c Z T V cells slots fk) {x y z : Int32} (hd : decode bytes pc = .ok (.isub, 1)) (hz : (x - y) = z) (hp : pc + 1 = q) (G : oG fb p e below s Z R Ret T (mkF m q Ls (.int z :: st))) : oG fb p e below s Z R Ret T (mkF m pc Ls (.int y :: .int x :: st)) := by
  subst hp hz; obtain ⟨_, _, _, _, _, ⟨vm0, k0, Y, hS, hk, hJ⟩, _⟩ := X; exact G.step fun t k => XS.isub Y.here E.1 rfl (hb E.2.2.2.1 hd) rfl k
theorem gIand (E : oE fb p l e R s m args below meth c Z bytes own nm maxL ret) (X : oX p l e R s m args below meth c Z T V cells slots fk) {x y z : Int32} (hd : decode bytes pc = .ok (.iand, 1)) (hz : (x &&& y) = z) (hp : pc + 1 = q) (G : oG fb p e below s Z R Ret T (mkF m q Ls (.int z :: st))) : oG fb p e below s Z R Ret T (mkF m pc Ls (.int y :: .int x :: st)) := by
  subst hp hz; obtain ⟨_, _, _, _, _, ⟨vm0, k0, Y, hS, hk, hJ⟩, _⟩ := X; exact G.step fun t k => XS.iand Y.here E.1 rfl (hb E.2.2.2.1 hd) rfl k
theorem gImul (E : oE fb p l e R s m args below meth c Z bytes own nm maxL ret) (X : oX p l e R s m args below meth c Z T V cells slots fk) {x y z : Int32} (hd : decode bytes pc = .ok (.imul, 1)) (hz : (x * y) = z) (hp : pc + 1 = q) (G : oG fb p e below s Z R Ret T (mkF m q Ls (.int z :: st))) : oG fb p e below s Z R Ret T (mkF m pc Ls (.int y :: .int x :: st)) := by
  subst hp hz; obtain ⟨_, _, _, _, _, ⟨vm0, k0, Y, hS, hk, hJ⟩, _⟩ := X; exact G.step fun t k => XS.imul Y.here E.1 rfl (hb E.2.2.2.1 hd) rfl k
theorem gIxor (E : oE fb p l e R s m args below meth c Z bytes own nm maxL ret) (X : oX p l e R s m args below meth c Z T V cells slots fk) {x y z : Int32} (hd : decode bytes pc = .ok (.ixor, 1)) (hz : (x ^^^ y) = z) (hp : pc + 1 = q) (G : oG fb p e below s Z R Ret T (mkF m q Ls (.int z :: st))) : oG fb p e below s Z R Ret T (mkF m pc Ls (.int y :: .int x :: st)) := by
  subst hp hz; obtain ⟨_, _, _, _, _, ⟨vm0, k0, Y, hS, hk, hJ⟩, _⟩ := X; exact G.step fun t k => XT.ixor Y.here E.1 rfl (hb E.2.2.2.1 hd) rfl k
theorem gIor (E : oE fb p l e R s m args below meth c Z bytes own nm maxL ret) (X : oX p l e R s m args below meth c Z T V cells slots fk) {x y z : Int32} (hd : decode bytes pc = .ok (.ior, 1)) (hz : (x ||| y) = z) (hp : pc + 1 = q) (G : oG fb p e below s Z R Ret T (mkF m q Ls (.int z :: st))) : oG fb p e below s Z R Ret T (mkF m pc Ls (.int y :: .int x :: st)) := by
  subst hp hz; obtain ⟨_, _, _, _, _, ⟨vm0, k0, Y, hS, hk, hJ⟩, _⟩ := X; exact G.step fun t k => XT.ior Y.here E.1 rfl (hb E.2.2.2.1 hd) rfl k
theorem gIshl (E : oE fb p l e R s m args below meth c Z bytes own nm maxL ret) (X : oX p l e R s m args below meth c Z T V cells slots fk) {x y z : Int32} (hd : decode bytes pc = .ok (.ishl, 1)) (hz : (x <<< (y &&& 31)) = z) (hp : pc + 1 = q) (G : oG fb p e below s Z R Ret T (mkF m q Ls (.int z :: st))) : oG fb p e below s Z R Ret T (mkF m pc Ls (.int y :: .int x :: st)) := by
  subst hp hz; obtain ⟨_, _, _, _, _, ⟨vm0, k0, Y, hS, hk, hJ⟩, _⟩ := X; exact G.step fun t k => XT.ishl Y.here E.1 rfl (hb E.2.2.2.1 hd) rfl k
theorem gIshr (E : oE fb p l e R s m args below meth c Z bytes own nm maxL ret) (X : oX p l e R s m args below meth c Z T V cells slots fk) {x y z : Int32} (hd : decode bytes pc = .ok (.ishr, 1)) (hz : (x >>> (y &&& 31)) = z) (hp : pc + 1 = q) (G : oG fb p e below s Z R Ret T (mkF m q Ls (.int z :: st))) : oG fb p e below s Z R Ret T (mkF m pc Ls (.int y :: .int x :: st)) := by
  subst hp hz; obtain ⟨_, _, _, _, _, ⟨vm0, k0, Y, hS, hk, hJ⟩, _⟩ := X; exact G.step fun t k => XT.ishr Y.here E.1 rfl (hb E.2.2.2.1 hd) rfl k
theorem gIushr (E : oE fb p l e R s m args below meth c Z bytes own nm maxL ret) (X : oX p l e R s m args below meth c Z T V cells slots fk) {x y z : Int32} (hd : decode bytes pc = .ok (.iushr, 1)) (hz : (XT.ushr x y) = z) (hp : pc + 1 = q) (G : oG fb p e below s Z R Ret T (mkF m q Ls (.int z :: st))) : oG fb p e below s Z R Ret T (mkF m pc Ls (.int y :: .int x :: st)) := by
  subst hp hz; obtain ⟨_, _, _, _, _, ⟨vm0, k0, Y, hS, hk, hJ⟩, _⟩ := X; exact G.step fun t k => XT.iushr Y.here E.1 rfl (hb E.2.2.2.1 hd) rfl k
theorem gIdiv (E : oE fb p l e R s m args below meth c Z bytes own nm maxL ret) (X : oX p l e R s m args below meth c Z T V cells slots fk) {x y z : Int32} (hd : decode bytes pc = .ok (.idiv, 1)) (hy : y ≠ 0) (hz : (x / y) = z) (hp : pc + 1 = q) (G : oG fb p e below s Z R Ret T (mkF m q Ls (.int z :: st))) : oG fb p e below s Z R Ret T (mkF m pc Ls (.int y :: .int x :: st)) := by
  subst hp hz; obtain ⟨_, _, _, _, _, ⟨vm0, k0, Y, hS, hk, hJ⟩, _⟩ := X; exact G.step fun t k => XS.idiv Y.here E.1 rfl (hb E.2.2.2.1 hd) rfl hy k
theorem gIrem (E : oE fb p l e R s m args below meth c Z bytes own nm maxL ret) (X : oX p l e R s m args below meth c Z T V cells slots fk) {x y z : Int32} (hd : decode bytes pc = .ok (.irem, 1)) (hy : y ≠ 0) (hz : (x - x / y * y) = z) (hp : pc + 1 = q) (G : oG fb p e below s Z R Ret T (mkF m q Ls (.int z :: st))) : oG fb p e below s Z R Ret T (mkF m pc Ls (.int y :: .int x :: st)) := by
  subst hp hz; obtain ⟨_, _, _, _, _, ⟨vm0, k0, Y, hS, hk, hJ⟩, _⟩ := X; exact G.step fun t k => XS.irem Y.here E.1 rfl (hb E.2.2.2.1 hd) rfl hy k
theorem gIneg (E : oE fb p l e R s m args below meth c Z bytes own nm maxL ret) (X : oX p l e R s m args below meth c Z T V cells slots fk) {x z : Int32} (hd : decode bytes pc = .ok (.ineg, 1)) (hz : (-x) = z) (hp : pc + 1 = q) (G : oG fb p e below s Z R Ret T (mkF m q Ls (.int z :: st))) : oG fb p e below s Z R Ret T (mkF m pc Ls (.int x :: st)) := by
  subst hp hz; obtain ⟨_, _, _, _, _, ⟨vm0, k0, Y, hS, hk, hJ⟩, _⟩ := X; exact G.step fun t k => XS.ineg Y.here E.1 rfl (hb E.2.2.2.1 hd) rfl k
theorem gLadd (E : oE fb p l e R s m args below meth c Z bytes own nm maxL ret) (X : oX p l e R s m args below meth c Z T V cells slots fk) {x y z : Int64} (hd : decode bytes pc = .ok (.ladd, 1)) (hz : (x + y) = z) (hp : pc + 1 = q) (G : oG fb p e below s Z R Ret T (mkF m q Ls (.long z :: st))) : oG fb p e below s Z R Ret T (mkF m pc Ls (.long y :: .long x :: st)) := by
  subst hp hz; obtain ⟨_, _, _, _, _, ⟨vm0, k0, Y, hS, hk, hJ⟩, _⟩ := X; exact G.step fun t k => XT.ladd Y.here E.1 rfl (hb E.2.2.2.1 hd) rfl k
theorem gLsub (E : oE fb p l e R s m args below meth c Z bytes own nm maxL ret) (X : oX p l e R s m args below meth c Z T V cells slots fk) {x y z : Int64} (hd : decode bytes pc = .ok (.lsub, 1)) (hz : (x - y) = z) (hp : pc + 1 = q) (G : oG fb p e below s Z R Ret T (mkF m q Ls (.long z :: st))) : oG fb p e below s Z R Ret T (mkF m pc Ls (.long y :: .long x :: st)) := by
  subst hp hz; obtain ⟨_, _, _, _, _, ⟨vm0, k0, Y, hS, hk, hJ⟩, _⟩ := X; exact G.step fun t k => XT.lsub Y.here E.1 rfl (hb E.2.2.2.1 hd) rfl k
theorem gLmul (E : oE fb p l e R s m args below meth c Z bytes own nm maxL ret) (X : oX p l e R s m args below meth c Z T V cells slots fk) {x y z : Int64} (hd : decode bytes pc = .ok (.lmul, 1)) (hz : (x * y) = z) (hp : pc + 1 = q) (G : oG fb p e below s Z R Ret T (mkF m q Ls (.long z :: st))) : oG fb p e below s Z R Ret T (mkF m pc Ls (.long y :: .long x :: st)) := by
  subst hp hz; obtain ⟨_, _, _, _, _, ⟨vm0, k0, Y, hS, hk, hJ⟩, _⟩ := X; exact G.step fun t k => XT.lmul Y.here E.1 rfl (hb E.2.2.2.1 hd) rfl k
theorem gLand (E : oE fb p l e R s m args below meth c Z bytes own nm maxL ret) (X : oX p l e R s m args below meth c Z T V cells slots fk) {x y z : Int64} (hd : decode bytes pc = .ok (.land, 1)) (hz : (x &&& y) = z) (hp : pc + 1 = q) (G : oG fb p e below s Z R Ret T (mkF m q Ls (.long z :: st))) : oG fb p e below s Z R Ret T (mkF m pc Ls (.long y :: .long x :: st)) := by
  subst hp hz; obtain ⟨_, _, _, _, _, ⟨vm0, k0, Y, hS, hk, hJ⟩, _⟩ := X; exact G.step fun t k => XT.land Y.here E.1 rfl (hb E.2.2.2.1 hd) rfl k
theorem gLor (E : oE fb p l e R s m args below meth c Z bytes own nm maxL ret) (X : oX p l e R s m args below meth c Z T V cells slots fk) {x y z : Int64} (hd : decode bytes pc = .ok (.lor, 1)) (hz : (x ||| y) = z) (hp : pc + 1 = q) (G : oG fb p e below s Z R Ret T (mkF m q Ls (.long z :: st))) : oG fb p e below s Z R Ret T (mkF m pc Ls (.long y :: .long x :: st)) := by
  subst hp hz; obtain ⟨_, _, _, _, _, ⟨vm0, k0, Y, hS, hk, hJ⟩, _⟩ := X; exact G.step fun t k => XT.lor Y.here E.1 rfl (hb E.2.2.2.1 hd) rfl k
theorem gLxor (E : oE fb p l e R s m args below meth c Z bytes own nm maxL ret) (X : oX p l e R s m args below meth c Z T V cells slots fk) {x y z : Int64} (hd : decode bytes pc = .ok (.lxor, 1)) (hz : (x ^^^ y) = z) (hp : pc + 1 = q) (G : oG fb p e below s Z R Ret T (mkF m q Ls (.long z :: st))) : oG fb p e below s Z R Ret T (mkF m pc Ls (.long y :: .long x :: st)) := by
  subst hp hz; obtain ⟨_, _, _, _, _, ⟨vm0, k0, Y, hS, hk, hJ⟩, _⟩ := X; exact G.step fun t k => XT.lxor Y.here E.1 rfl (hb E.2.2.2.1 hd) rfl k
theorem gLdiv (E : oE fb p l e R s m args below meth c Z bytes own nm maxL ret) (X : oX p l e R s m args below meth c Z T V cells slots fk) {x y z : Int64} (hd : decode bytes pc = .ok (.ldiv, 1)) (hy : y ≠ 0) (hz : (x / y) = z) (hp : pc + 1 = q) (G : oG fb p e below s Z R Ret T (mkF m q Ls (.long z :: st))) : oG fb p e below s Z R Ret T (mkF m pc Ls (.long y :: .long x :: st)) := by
  subst hp hz; obtain ⟨_, _, _, _, _, ⟨vm0, k0, Y, hS, hk, hJ⟩, _⟩ := X; exact G.step fun t k => XT.ldiv Y.here E.1 rfl (hb E.2.2.2.1 hd) rfl hy k
theorem gLrem (E : oE fb p l e R s m args below meth c Z bytes own nm maxL ret) (X : oX p l e R s m args below meth c Z T V cells slots fk) {x y z : Int64} (hd : decode bytes pc = .ok (.lrem, 1)) (hy : y ≠ 0) (hz : (x - x / y * y) = z) (hp : pc + 1 = q) (G : oG fb p e below s Z R Ret T (mkF m q Ls (.long z :: st))) : oG fb p e below s Z R Ret T (mkF m pc Ls (.long y :: .long x :: st)) := by
  subst hp hz; obtain ⟨_, _, _, _, _, ⟨vm0, k0, Y, hS, hk, hJ⟩, _⟩ := X; exact G.step fun t k => XT.lrem Y.here E.1 rfl (hb E.2.2.2.1 hd) rfl hy k
theorem gLneg (E : oE fb p l e R s m args below meth c Z bytes own nm maxL ret) (X : oX p l e R s m args below meth c Z T V cells slots fk) {x z : Int64} (hd : decode bytes pc = .ok (.lneg, 1)) (hz : (-x) = z) (hp : pc + 1 = q) (G : oG fb p e below s Z R Ret T (mkF m q Ls (.long z :: st))) : oG fb p e below s Z R Ret T (mkF m pc Ls (.long x :: st)) := by
  subst hp hz; obtain ⟨_, _, _, _, _, ⟨vm0, k0, Y, hS, hk, hJ⟩, _⟩ := X; exact G.step fun t k => XT.lneg Y.here E.1 rfl (hb E.2.2.2.1 hd) rfl k
theorem gLshl (E : oE fb p l e R s m args below meth c Z bytes own nm maxL ret) (X : oX p l e R s m args below meth c Z T V cells slots fk) {x z : Int64} {y : Int32} (hd : decode bytes pc = .ok (.lshl, 1)) (hz : (x <<< (y.toInt64 &&& 63)) = z) (hp : pc + 1 = q) (G : oG fb p e below s Z R Ret T (mkF m q Ls (.long z :: st))) : oG fb p e below s Z R Ret T (mkF m pc Ls (.int y :: .long x :: st)) := by
  subst hp hz; obtain ⟨_, _, _, _, _, ⟨vm0, k0, Y, hS, hk, hJ⟩, _⟩ := X; exact G.step fun t k => XT.lshl Y.here E.1 rfl (hb E.2.2.2.1 hd) rfl k
theorem gLshr (E : oE fb p l e R s m args below meth c Z bytes own nm maxL ret) (X : oX p l e R s m args below meth c Z T V cells slots fk) {x z : Int64} {y : Int32} (hd : decode bytes pc = .ok (.lshr, 1)) (hz : (x >>> (y.toInt64 &&& 63)) = z) (hp : pc + 1 = q) (G : oG fb p e below s Z R Ret T (mkF m q Ls (.long z :: st))) : oG fb p e below s Z R Ret T (mkF m pc Ls (.int y :: .long x :: st)) := by
  subst hp hz; obtain ⟨_, _, _, _, _, ⟨vm0, k0, Y, hS, hk, hJ⟩, _⟩ := X; exact G.step fun t k => XT.lshr Y.here E.1 rfl (hb E.2.2.2.1 hd) rfl k
theorem gLushr (E : oE fb p l e R s m args below meth c Z bytes own nm maxL ret) (X : oX p l e R s m args below meth c Z T V cells slots fk) {x z : Int64} {y : Int32} (hd : decode bytes pc = .ok (.lushr, 1)) (hz : (XT.ushrL x y) = z) (hp : pc + 1 = q) (G : oG fb p e below s Z R Ret T (mkF m q Ls (.long z :: st))) : oG fb p e below s Z R Ret T (mkF m pc Ls (.int y :: .long x :: st)) := by
  subst hp hz; obtain ⟨_, _, _, _, _, ⟨vm0, k0, Y, hS, hk, hJ⟩, _⟩ := X; exact G.step fun t k => XT.lushr Y.here E.1 rfl (hb E.2.2.2.1 hd) rfl k
theorem gLcmp (E : oE fb p l e R s m args below meth c Z bytes own nm maxL ret) (X : oX p l e R s m args below meth c Z T V cells slots fk) {x y : Int64} (hd : decode bytes pc = .ok (.lcmp, 1))  (hp : pc + 1 = q) (G : oG fb p e below s Z R Ret T (mkF m q Ls (.int (XT.cmpL x y) :: st))) : oG fb p e below s Z R Ret T (mkF m pc Ls (.long y :: .long x :: st)) := by
  subst hp ; obtain ⟨_, _, _, _, _, ⟨vm0, k0, Y, hS, hk, hJ⟩, _⟩ := X; exact G.step fun t k => XT.lcmp Y.here E.1 rfl (hb E.2.2.2.1 hd) rfl k
theorem gI2l (E : oE fb p l e R s m args below meth c Z bytes own nm maxL ret) (X : oX p l e R s m args below meth c Z T V cells slots fk) {x : Int32} {z : Int64} (hd : decode bytes pc = .ok (.i2l, 1)) (hz : x.toInt64 = z) (hp : pc + 1 = q) (G : oG fb p e below s Z R Ret T (mkF m q Ls (.long z :: st))) : oG fb p e below s Z R Ret T (mkF m pc Ls (.int x :: st)) := by
  subst hp hz; obtain ⟨_, _, _, _, _, ⟨vm0, k0, Y, hS, hk, hJ⟩, _⟩ := X; exact G.step fun t k => XT.i2l Y.here E.1 rfl (hb E.2.2.2.1 hd) rfl k
theorem gL2i (E : oE fb p l e R s m args below meth c Z bytes own nm maxL ret) (X : oX p l e R s m args below meth c Z T V cells slots fk) {x : Int64} {z : Int32} (hd : decode bytes pc = .ok (.l2i, 1)) (hz : x.toInt32 = z) (hp : pc + 1 = q) (G : oG fb p e below s Z R Ret T (mkF m q Ls (.int z :: st))) : oG fb p e below s Z R Ret T (mkF m pc Ls (.long x :: st)) := by
  subst hp hz; obtain ⟨_, _, _, _, _, ⟨vm0, k0, Y, hS, hk, hJ⟩, _⟩ := X; exact G.step fun t k => XT.l2i Y.here E.1 rfl (hb E.2.2.2.1 hd) rfl k
theorem gI2b (E : oE fb p l e R s m args below meth c Z bytes own nm maxL ret) (X : oX p l e R s m args below meth c Z T V cells slots fk) {x z : Int32} (hd : decode bytes pc = .ok (.i2b, 1)) (hz : x.toInt8.toInt32 = z) (hp : pc + 1 = q) (G : oG fb p e below s Z R Ret T (mkF m q Ls (.int z :: st))) : oG fb p e below s Z R Ret T (mkF m pc Ls (.int x :: st)) := by
  subst hp hz; obtain ⟨_, _, _, _, _, ⟨vm0, k0, Y, hS, hk, hJ⟩, _⟩ := X; exact G.step fun t k => XT.i2b Y.here E.1 rfl (hb E.2.2.2.1 hd) rfl k
theorem gI2c (E : oE fb p l e R s m args below meth c Z bytes own nm maxL ret) (X : oX p l e R s m args below meth c Z T V cells slots fk) {x z : Int32} (hd : decode bytes pc = .ok (.i2c, 1)) (hz : x.toUInt32.toUInt16.toUInt32.toInt32 = z) (hp : pc + 1 = q) (G : oG fb p e below s Z R Ret T (mkF m q Ls (.int z :: st))) : oG fb p e below s Z R Ret T (mkF m pc Ls (.int x :: st)) := by
  subst hp hz; obtain ⟨_, _, _, _, _, ⟨vm0, k0, Y, hS, hk, hJ⟩, _⟩ := X; exact G.step fun t k => XT.i2c Y.here E.1 rfl (hb E.2.2.2.1 hd) rfl k
theorem gI2s (E : oE fb p l e R s m args below meth c Z bytes own nm maxL ret) (X : oX p l e R s m args below meth c Z T V cells slots fk) {x z : Int32} (hd : decode bytes pc = .ok (.i2s, 1)) (hz : x.toInt16.toInt32 = z) (hp : pc + 1 = q) (G : oG fb p e below s Z R Ret T (mkF m q Ls (.int z :: st))) : oG fb p e below s Z R Ret T (mkF m pc Ls (.int x :: st)) := by
  subst hp hz; obtain ⟨_, _, _, _, _, ⟨vm0, k0, Y, hS, hk, hJ⟩, _⟩ := X; exact G.step fun t k => XT.i2s Y.here E.1 rfl (hb E.2.2.2.1 hd) rfl k
theorem gDup (E : oE fb p l e R s m args below meth c Z bytes own nm maxL ret) (X : oX p l e R s m args below meth c Z T V cells slots fk) {v : Value} (hd : decode bytes pc = .ok (.dup, 1)) (hc : v.category = 1) (hp : pc + 1 = q) (G : oG fb p e below s Z R Ret T (mkF m q Ls (v :: v :: st))) : oG fb p e below s Z R Ret T (mkF m pc Ls (v :: st)) := by
  subst hp ; obtain ⟨_, _, _, _, _, ⟨vm0, k0, Y, hS, hk, hJ⟩, _⟩ := X; exact G.step fun t k => XS.dup Y.here E.1 rfl (hb E.2.2.2.1 hd) rfl hc k
theorem gPop (E : oE fb p l e R s m args below meth c Z bytes own nm maxL ret) (X : oX p l e R s m args below meth c Z T V cells slots fk) {v : Value} (hd : decode bytes pc = .ok (.pop, 1)) (hc : v.category = 1) (hp : pc + 1 = q) (G : oG fb p e below s Z R Ret T (mkF m q Ls st)) : oG fb p e below s Z R Ret T (mkF m pc Ls (v :: st)) := by
  subst hp ; obtain ⟨_, _, _, _, _, ⟨vm0, k0, Y, hS, hk, hJ⟩, _⟩ := X; exact G.step fun t k => XT.pop Y.here E.1 rfl (hb E.2.2.2.1 hd) rfl hc k
theorem gDupX1 (E : oE fb p l e R s m args below meth c Z bytes own nm maxL ret) (X : oX p l e R s m args below meth c Z T V cells slots fk) {v w : Value} (hd : decode bytes pc = .ok (.dup_x1, 1)) (hc : v.category = 1) (hc' : w.category = 1) (hp : pc + 1 = q) (G : oG fb p e below s Z R Ret T (mkF m q Ls (v :: w :: v :: st))) : oG fb p e below s Z R Ret T (mkF m pc Ls (v :: w :: st)) := by
  subst hp ; obtain ⟨_, _, _, _, _, ⟨vm0, k0, Y, hS, hk, hJ⟩, _⟩ := X; exact G.step fun t k => XT.dupX1 Y.here E.1 rfl (hb E.2.2.2.1 hd) rfl hc hc' k
theorem gDup2 (E : oE fb p l e R s m args below meth c Z bytes own nm maxL ret) (X : oX p l e R s m args below meth c Z T V cells slots fk) {v w : Value} (hd : decode bytes pc = .ok (.dup2, 1)) (hc : v.category = 1) (hc' : w.category = 1) (hp : pc + 1 = q) (G : oG fb p e below s Z R Ret T (mkF m q Ls (v :: w :: v :: w :: st))) : oG fb p e below s Z R Ret T (mkF m pc Ls (v :: w :: st)) := by
  subst hp ; obtain ⟨_, _, _, _, _, ⟨vm0, k0, Y, hS, hk, hJ⟩, _⟩ := X; exact G.step fun t k => XT.dup2 Y.here E.1 rfl (hb E.2.2.2.1 hd) rfl hc hc' k
theorem gDup2L (E : oE fb p l e R s m args below meth c Z bytes own nm maxL ret) (X : oX p l e R s m args below meth c Z T V cells slots fk) {x : Int64} (hd : decode bytes pc = .ok (.dup2, 1))  (hp : pc + 1 = q) (G : oG fb p e below s Z R Ret T (mkF m q Ls (.long x :: .long x :: st))) : oG fb p e below s Z R Ret T (mkF m pc Ls (.long x :: st)) := by
  subst hp ; obtain ⟨_, _, _, _, _, ⟨vm0, k0, Y, hS, hk, hJ⟩, _⟩ := X; exact G.step fun t k => XT.dup2L Y.here E.1 rfl (hb E.2.2.2.1 hd) rfl k
theorem gIstoreN (E : oE fb p l e R s m args below meth c Z bytes own nm maxL ret) (X : oX p l e R s m args below meth c Z T V cells slots fk) {k : Fin 4} {x : Int32} {l' : Array Slot} (hd : decode bytes pc = .ok (.istore_n k, 1)) (hl : storeLocals Ls k.val (.int x) = some l') (hp : pc + 1 = q) (G : oG fb p e below s Z R Ret T (mkF m q l' st)) : oG fb p e below s Z R Ret T (mkF m pc Ls (.int x :: st)) := by
  subst hp ; obtain ⟨_, _, _, _, _, ⟨vm0, k0, Y, hS, hk, hJ⟩, _⟩ := X; exact G.step fun t k => XS.istoreN Y.here E.1 rfl (hb E.2.2.2.1 hd) rfl hl k
theorem gIstore (E : oE fb p l e R s m args below meth c Z bytes own nm maxL ret) (X : oX p l e R s m args below meth c Z T V cells slots fk) {k : Nat} {x : Int32} {l' : Array Slot} (hd : decode bytes pc = .ok (.istore k, 2)) (hl : storeLocals Ls k (.int x) = some l') (hp : pc + 2 = q) (G : oG fb p e below s Z R Ret T (mkF m q l' st)) : oG fb p e below s Z R Ret T (mkF m pc Ls (.int x :: st)) := by
  subst hp ; obtain ⟨_, _, _, _, _, ⟨vm0, k0, Y, hS, hk, hJ⟩, _⟩ := X; exact G.step fun t k => XS.istore Y.here E.1 rfl (hb E.2.2.2.1 hd) rfl hl k
theorem gLstoreN (E : oE fb p l e R s m args below meth c Z bytes own nm maxL ret) (X : oX p l e R s m args below meth c Z T V cells slots fk) {k : Fin 4} {x : Int64} {l' : Array Slot} (hd : decode bytes pc = .ok (.lstore_n k, 1)) (hl : storeLocals Ls k.val (.long x) = some l') (hp : pc + 1 = q) (G : oG fb p e below s Z R Ret T (mkF m q l' st)) : oG fb p e below s Z R Ret T (mkF m pc Ls (.long x :: st)) := by
  subst hp ; obtain ⟨_, _, _, _, _, ⟨vm0, k0, Y, hS, hk, hJ⟩, _⟩ := X; exact G.step fun t k => XT.lstoreN Y.here E.1 rfl (hb E.2.2.2.1 hd) rfl hl k
theorem gLstore (E : oE fb p l e R s m args below meth c Z bytes own nm maxL ret) (X : oX p l e R s m args below meth c Z T V cells slots fk) {k : Nat} {x : Int64} {l' : Array Slot} (hd : decode bytes pc = .ok (.lstore k, 2)) (hl : storeLocals Ls k (.long x) = some l') (hp : pc + 2 = q) (G : oG fb p e below s Z R Ret T (mkF m q l' st)) : oG fb p e below s Z R Ret T (mkF m pc Ls (.long x :: st)) := by
  subst hp ; obtain ⟨_, _, _, _, _, ⟨vm0, k0, Y, hS, hk, hJ⟩, _⟩ := X; exact G.step fun t k => XT.lstore Y.here E.1 rfl (hb E.2.2.2.1 hd) rfl hl k
theorem gAstoreN (E : oE fb p l e R s m args below meth c Z bytes own nm maxL ret) (X : oX p l e R s m args below meth c Z T V cells slots fk) {k : Fin 4} {v : Value} {l' : Array Slot} (hd : decode bytes pc = .ok (.astore_n k, 1)) (hv : v.isRef = true) (hl : storeLocals Ls k.val v = some l') (hp : pc + 1 = q) (G : oG fb p e below s Z R Ret T (mkF m q l' st)) : oG fb p e below s Z R Ret T (mkF m pc Ls (v :: st)) := by
  subst hp ; obtain ⟨_, _, _, _, _, ⟨vm0, k0, Y, hS, hk, hJ⟩, _⟩ := X; exact G.step fun t k => XS.astoreN Y.here E.1 rfl (hb E.2.2.2.1 hd) rfl hv hl k
theorem gAstore (E : oE fb p l e R s m args below meth c Z bytes own nm maxL ret) (X : oX p l e R s m args below meth c Z T V cells slots fk) {k : Nat} {v : Value} {l' : Array Slot} (hd : decode bytes pc = .ok (.astore k, 2)) (hv : v.isRef = true) (hl : storeLocals Ls k v = some l') (hp : pc + 2 = q) (G : oG fb p e below s Z R Ret T (mkF m q l' st)) : oG fb p e below s Z R Ret T (mkF m pc Ls (v :: st)) := by
  subst hp ; obtain ⟨_, _, _, _, _, ⟨vm0, k0, Y, hS, hk, hJ⟩, _⟩ := X; exact G.step fun t k => XS.astore Y.here E.1 rfl (hb E.2.2.2.1 hd) rfl hv hl k
theorem gIinc (E : oE fb p l e R s m args below meth c Z bytes own nm maxL ret) (X : oX p l e R s m args below meth c Z T V cells slots fk) {k : Nat} {cst : Int} {x : Int32} {l' : Array Slot} (v : Int32) (hd : decode bytes pc = .ok (.iinc k cst, 3)) (hv : Int32.ofInt cst = v) (hl : Ls[k]? = some (.val (.int x))) (hl' : storeLocals Ls k (.int (x + v)) = some l') (hp : pc + 3 = q) (G : oG fb p e below s Z R Ret T (mkF m q l' st)) : oG fb p e below s Z R Ret T (mkF m pc Ls st) := by
  subst hp ; obtain ⟨_, _, _, _, _, ⟨vm0, k0, Y, hS, hk, hJ⟩, _⟩ := X; exact G.step fun t k => XT.iincV Y.here E.1 rfl v (hb E.2.2.2.1 hd) hv hl hl' k
theorem gIincV (E : oE fb p l e R s m args below meth c Z bytes own nm maxL ret) (X : oX p l e R s m args below meth c Z T V cells slots fk) {k : Nat} {cst : Int} {x : Int32} {l' : Array Slot} (v z : Int32) (hd : decode bytes pc = .ok (.iinc k cst, 3)) (hv : Int32.ofInt cst = v) (hl : Ls[k]? = some (.val (.int x))) (hz : x + v = z) (hl' : storeLocals Ls k (.int z) = some l') (hp : pc + 3 = q) (G : oG fb p e below s Z R Ret T (mkF m q l' st)) : oG fb p e below s Z R Ret T (mkF m pc Ls st) := by
  subst hp hz; obtain ⟨_, _, _, _, _, ⟨vm0, k0, Y, hS, hk, hJ⟩, _⟩ := X; exact G.step fun t k => XT.iincV Y.here E.1 rfl v (hb E.2.2.2.1 hd) hv hl hl' k
theorem gGoto (E : oE fb p l e R s m args below meth c Z bytes own nm maxL ret) (X : oX p l e R s m args below meth c Z T V cells slots fk) {o : Int} (hd : decode bytes pc = .ok (.goto o, 3)) (ho : 0 ≤ (pc : Int) + o) (hp : ((pc : Int) + o).toNat = q) (G : oG fb p e below s Z R Ret T (mkF m q Ls st)) : oG fb p e below s Z R Ret T (mkF m pc Ls st) := by
  obtain ⟨_, _, _, _, _, ⟨vm0, k0, Y, hS, hk, hJ⟩, _⟩ := X; exact G.step fun t k => XS.goto Y.here E.1 rfl (pc0 := pc) rfl (hb E.2.2.2.1 hd) ho hp k
theorem gIc_eq (E : oE fb p l e R s m args below meth c Z bytes own nm maxL ret) (X : oX p l e R s m args below meth c Z T V cells slots fk) {x y : Int32} {o : Int} {q' : Nat} (hd : decode bytes pc = .ok (.if_icmp .eq o, 3)) (ho : 0 ≤ (pc : Int) + o) (hp : ((pc : Int) + o).toNat = q) (hp' : pc + 3 = q') (G1 : x = y → oG fb p e below s Z R Ret T (mkF m q Ls st)) (G0 : ¬ (x = y) → oG fb p e below s Z R Ret T (mkF m q' Ls st)) : oG fb p e below s Z R Ret T (mkF m pc Ls (.int y :: .int x :: st)) := by
  obtain ⟨_, _, _, _, _, ⟨vm0, k0, Y, hS, hk, hJ⟩, _⟩ := X
  by_cases hq : x = y
  · exact (G1 hq).step fun t k => XS.icmpYes Y.here E.1 rfl (pc0 := pc) rfl (hb E.2.2.2.1 hd) rfl (XT.ii_eq_t hq) ho hp k
  · subst hp'; exact (G0 hq).step fun t k => XS.icmpNo Y.here E.1 rfl (hb E.2.2.2.1 hd) rfl (XT.ii_eq_f hq) k
theorem gIf_eq (E : oE fb p l e R s m args below meth c Z bytes own nm maxL ret) (X : oX p l e R s m args below meth c Z T V cells slots fk) {x : Int32} {o : Int} {q' : Nat} (hd : decode bytes pc = .ok (.ifCond .eq o, 3)) (ho : 0 ≤ (pc : Int) + o) (hp : ((pc : Int) + o).toNat = q) (hp' : pc + 3 = q') (G1 : x = 0 → oG fb p e below s Z R Ret T (mkF m q Ls st)) (G0 : ¬ (x = 0) → oG fb p e below s Z R Ret T (mkF m q' Ls st)) : oG fb p e below s Z R Ret T (mkF m pc Ls (.int x :: st)) := by
  obtain ⟨_, _, _, _, _, ⟨vm0, k0, Y, hS, hk, hJ⟩, _⟩ := X
  by_cases hq : x = 0
  · exact (G1 hq).step fun t k => XS.ifYes Y.here E.1 rfl (pc0 := pc) rfl (hb E.2.2.2.1 hd) rfl (XT.i0_eq_t hq) ho hp k
  · subst hp'; exact (G0 hq).step fun t k => XS.ifNo Y.here E.1 rfl (hb E.2.2.2.1 hd) rfl (XT.i0_eq_f hq) k
theorem gLc_eq (E : oE fb p l e R s m args below meth c Z bytes own nm maxL ret) (X : oX p l e R s m args below meth c Z T V cells slots fk) {x y : Int64} {o : Int} {q' : Nat} (hd : decode bytes pc = .ok (.ifCond .eq o, 3)) (ho : 0 ≤ (pc : Int) + o) (hp : ((pc : Int) + o).toNat = q) (hp' : pc + 3 = q') (G1 : x = y → oG fb p e below s Z R Ret T (mkF m q Ls st)) (G0 : ¬ (x = y) → oG fb p e below s Z R Ret T (mkF m q' Ls st)) : oG fb p e below s Z R Ret T (mkF m pc Ls (.int (XT.cmpL x y) :: st)) := by
  obtain ⟨_, _, _, _, _, ⟨vm0, k0, Y, hS, hk, hJ⟩, _⟩ := X
  by_cases hq : x = y
  · exact (G1 hq).step fun t k => XS.ifYes Y.here E.1 rfl (pc0 := pc) rfl (hb E.2.2.2.1 hd) rfl (XT.ll_eq_t hq) ho hp k
  · subst hp'; exact (G0 hq).step fun t k => XS.ifNo Y.here E.1 rfl (hb E.2.2.2.1 hd) rfl (XT.ll_eq_f hq) k
theorem gIc_ne (E : oE fb p l e R s m args below meth c Z bytes own nm maxL ret) (X : oX p l e R s m args below meth c Z T V cells slots fk) {x y : Int32} {o : Int} {q' : Nat} (hd : decode bytes pc = .ok (.if_icmp .ne o, 3)) (ho : 0 ≤ (pc : Int) + o) (hp : ((pc : Int) + o).toNat = q) (hp' : pc + 3 = q') (G1 : ¬ (x = y) → oG fb p e below s Z R Ret T (mkF m q Ls st)) (G0 : x = y → oG fb p e below s Z R Ret T (mkF m q' Ls st)) : oG fb p e below s Z R Ret T (mkF m pc Ls (.int y :: .int x :: st)) := by
  obtain ⟨_, _, _, _, _, ⟨vm0, k0, Y, hS, hk, hJ⟩, _⟩ := X
  by_cases hq : x = y
  · subst hp'; exact (G0 hq).step fun t k => XS.icmpNo Y.here E.1 rfl (hb E.2.2.2.1 hd) rfl (XT.ii_ne_f hq) k
  · exact (G1 hq).step fun t k => XS.icmpYes Y.here E.1 rfl (pc0 := pc) rfl (hb E.2.2.2.1 hd) rfl (XT.ii_ne_t hq) ho hp k
theorem gIf_ne (E : oE fb p l e R s m args below meth c Z bytes own nm maxL ret) (X : oX p l e R s m args below meth c Z T V cells slots fk) {x : Int32} {o : Int} {q' : Nat} (hd : decode bytes pc = .ok (.ifCond .ne o, 3)) (ho : 0 ≤ (pc : Int) + o) (hp : ((pc : Int) + o).toNat = q) (hp' : pc + 3 = q') (G1 : ¬ (x = 0) → oG fb p e below s Z R Ret T (mkF m q Ls st)) (G0 : x = 0 → oG fb p e below s Z R Ret T (mkF m q' Ls st)) : oG fb p e below s Z R Ret T (mkF m pc Ls (.int x :: st)) := by
  obtain ⟨_, _, _, _, _, ⟨vm0, k0, Y, hS, hk, hJ⟩, _⟩ := X
  by_cases hq : x = 0
  · subst hp'; exact (G0 hq).step fun t k => XS.ifNo Y.here E.1 rfl (hb E.2.2.2.1 hd) rfl (XT.i0_ne_f hq) k
  · exact (G1 hq).step fun t k => XS.ifYes Y.here E.1 rfl (pc0 := pc) rfl (hb E.2.2.2.1 hd) rfl (XT.i0_ne_t hq) ho hp k
theorem gLc_ne (E : oE fb p l e R s m args below meth c Z bytes own nm maxL ret) (X : oX p l e R s m args below meth c Z T V cells slots fk) {x y : Int64} {o : Int} {q' : Nat} (hd : decode bytes pc = .ok (.ifCond .ne o, 3)) (ho : 0 ≤ (pc : Int) + o) (hp : ((pc : Int) + o).toNat = q) (hp' : pc + 3 = q') (G1 : ¬ (x = y) → oG fb p e below s Z R Ret T (mkF m q Ls st)) (G0 : x = y → oG fb p e below s Z R Ret T (mkF m q' Ls st)) : oG fb p e below s Z R Ret T (mkF m pc Ls (.int (XT.cmpL x y) :: st)) := by
  obtain ⟨_, _, _, _, _, ⟨vm0, k0, Y, hS, hk, hJ⟩, _⟩ := X
  by_cases hq : x = y
  · subst hp'; exact (G0 hq).step fun t k => XS.ifNo Y.here E.1 rfl (hb E.2.2.2.1 hd) rfl (XT.ll_ne_f hq) k
  · exact (G1 hq).step fun t k => XS.ifYes Y.here E.1 rfl (pc0 := pc) rfl (hb E.2.2.2.1 hd) rfl (XT.ll_ne_t hq) ho hp k
theorem gIc_lt (E : oE fb p l e R s m args below meth c Z bytes own nm maxL ret) (X : oX p l e R s m args below meth c Z T V cells slots fk) {x y : Int32} {o : Int} {q' : Nat} (hd : decode bytes pc = .ok (.if_icmp .lt o, 3)) (ho : 0 ≤ (pc : Int) + o) (hp : ((pc : Int) + o).toNat = q) (hp' : pc + 3 = q') (G1 : x < y → oG fb p e below s Z R Ret T (mkF m q Ls st)) (G0 : ¬ (x < y) → oG fb p e below s Z R Ret T (mkF m q' Ls st)) : oG fb p e below s Z R Ret T (mkF m pc Ls (.int y :: .int x :: st)) := by
  obtain ⟨_, _, _, _, _, ⟨vm0, k0, Y, hS, hk, hJ⟩, _⟩ := X
  by_cases hq : x < y
  · exact (G1 hq).step fun t k => XS.icmpYes Y.here E.1 rfl (pc0 := pc) rfl (hb E.2.2.2.1 hd) rfl (XT.ii_lt_t hq) ho hp k
  · subst hp'; exact (G0 hq).step fun t k => XS.icmpNo Y.here E.1 rfl (hb E.2.2.2.1 hd) rfl (XT.ii_lt_f hq) k
theorem gIf_lt (E : oE fb p l e R s m args below meth c Z bytes own nm maxL ret) (X : oX p l e R s m args below meth c Z T V cells slots fk) {x : Int32} {o : Int} {q' : Nat} (hd : decode bytes pc = .ok (.ifCond .lt o, 3)) (ho : 0 ≤ (pc : Int) + o) (hp : ((pc : Int) + o).toNat = q) (hp' : pc + 3 = q') (G1 : x < 0 → oG fb p e below s Z R Ret T (mkF m q Ls st)) (G0 : ¬ (x < 0) → oG fb p e below s Z R Ret T (mkF m q' Ls st)) : oG fb p e below s Z R Ret T (mkF m pc Ls (.int x :: st)) := by
  obtain ⟨_, _, _, _, _, ⟨vm0, k0, Y, hS, hk, hJ⟩, _⟩ := X
  by_cases hq : x < 0
  · exact (G1 hq).step fun t k => XS.ifYes Y.here E.1 rfl (pc0 := pc) rfl (hb E.2.2.2.1 hd) rfl (XT.i0_lt_t hq) ho hp k
  · subst hp'; exact (G0 hq).step fun t k => XS.ifNo Y.here E.1 rfl (hb E.2.2.2.1 hd) rfl (XT.i0_lt_f hq) k
theorem gLc_lt (E : oE fb p l e R s m args below meth c Z bytes own nm maxL ret) (X : oX p l e R s m args below meth c Z T V cells slots fk) {x y : Int64} {o : Int} {q' : Nat} (hd : decode bytes pc = .ok (.ifCond .lt o, 3)) (ho : 0 ≤ (pc : Int) + o) (hp : ((pc : Int) + o).toNat = q) (hp' : pc + 3 = q') (G1 : x < y → oG fb p e below s Z R Ret T (mkF m q Ls st)) (G0 : ¬ (x < y) → oG fb p e below s Z R Ret T (mkF m q' Ls st)) : oG fb p e below s Z R Ret T (mkF m pc Ls (.int (XT.cmpL x y) :: st)) := by
  obtain ⟨_, _, _, _, _, ⟨vm0, k0, Y, hS, hk, hJ⟩, _⟩ := X
  by_cases hq : x < y
  · exact (G1 hq).step fun t k => XS.ifYes Y.here E.1 rfl (pc0 := pc) rfl (hb E.2.2.2.1 hd) rfl (XT.ll_lt_t hq) ho hp k
  · subst hp'; exact (G0 hq).step fun t k => XS.ifNo Y.here E.1 rfl (hb E.2.2.2.1 hd) rfl (XT.ll_lt_f hq) k
theorem gIc_ge (E : oE fb p l e R s m args below meth c Z bytes own nm maxL ret) (X : oX p l e R s m args below meth c Z T V cells slots fk) {x y : Int32} {o : Int} {q' : Nat} (hd : decode bytes pc = .ok (.if_icmp .ge o, 3)) (ho : 0 ≤ (pc : Int) + o) (hp : ((pc : Int) + o).toNat = q) (hp' : pc + 3 = q') (G1 : ¬ (x < y) → oG fb p e below s Z R Ret T (mkF m q Ls st)) (G0 : x < y → oG fb p e below s Z R Ret T (mkF m q' Ls st)) : oG fb p e below s Z R Ret T (mkF m pc Ls (.int y :: .int x :: st)) := by
  obtain ⟨_, _, _, _, _, ⟨vm0, k0, Y, hS, hk, hJ⟩, _⟩ := X
  by_cases hq : x < y
  · subst hp'; exact (G0 hq).step fun t k => XS.icmpNo Y.here E.1 rfl (hb E.2.2.2.1 hd) rfl (XT.ii_ge_f hq) k
  · exact (G1 hq).step fun t k => XS.icmpYes Y.here E.1 rfl (pc0 := pc) rfl (hb E.2.2.2.1 hd) rfl (XT.ii_ge_t hq) ho hp k
theorem gIf_ge (E : oE fb p l e R s m args below meth c Z bytes own nm maxL ret) (X : oX p l e R s m args below meth c Z T V cells slots fk) {x : Int32} {o : Int} {q' : Nat} (hd : decode bytes pc = .ok (.ifCond .ge o, 3)) (ho : 0 ≤ (pc : Int) + o) (hp : ((pc : Int) + o).toNat = q) (hp' : pc + 3 = q') (G1 : ¬ (x < 0) → oG fb p e below s Z R Ret T (mkF m q Ls st)) (G0 : x < 0 → oG fb p e below s Z R Ret T (mkF m q' Ls st)) : oG fb p e below s Z R Ret T (mkF m pc Ls (.int x :: st)) := by
  obtain ⟨_, _, _, _, _, ⟨vm0, k0, Y, hS, hk, hJ⟩, _⟩ := X
  by_cases hq : x < 0
  · subst hp'; exact (G0 hq).step fun t k => XS.ifNo Y.here E.1 rfl (hb E.2.2.2.1 hd) rfl (XT.i0_ge_f hq) k
  · exact (G1 hq).step fun t k => XS.ifYes Y.here E.1 rfl (pc0 := pc) rfl (hb E.2.2.2.1 hd) rfl (XT.i0_ge_t hq) ho hp k
theorem gLc_ge (E : oE fb p l e R s m args below meth c Z bytes own nm maxL ret) (X : oX p l e R s m args below meth c Z T V cells slots fk) {x y : Int64} {o : Int} {q' : Nat} (hd : decode bytes pc = .ok (.ifCond .ge o, 3)) (ho : 0 ≤ (pc : Int) + o) (hp : ((pc : Int) + o).toNat = q) (hp' : pc + 3 = q') (G1 : ¬ (x < y) → oG fb p e below s Z R Ret T (mkF m q Ls st)) (G0 : x < y → oG fb p e below s Z R Ret T (mkF m q' Ls st)) : oG fb p e below s Z R Ret T (mkF m pc Ls (.int (XT.cmpL x y) :: st)) := by
  obtain ⟨_, _, _, _, _, ⟨vm0, k0, Y, hS, hk, hJ⟩, _⟩ := X
  by_cases hq : x < y
  · subst hp'; exact (G0 hq).step fun t k => XS.ifNo Y.here E.1 rfl (hb E.2.2.2.1 hd) rfl (XT.ll_ge_f hq) k
  · exact (G1 hq).step fun t k => XS.ifYes Y.here E.1 rfl (pc0 := pc) rfl (hb E.2.2.2.1 hd) rfl (XT.ll_ge_t hq) ho hp k
theorem gIc_gt (E : oE fb p l e R s m args below meth c Z bytes own nm maxL ret) (X : oX p l e R s m args below meth c Z T V cells slots fk) {x y : Int32} {o : Int} {q' : Nat} (hd : decode bytes pc = .ok (.if_icmp .gt o, 3)) (ho : 0 ≤ (pc : Int) + o) (hp : ((pc : Int) + o).toNat = q) (hp' : pc + 3 = q') (G1 : y < x → oG fb p e below s Z R Ret T (mkF m q Ls st)) (G0 : ¬ (y < x) → oG fb p e below s Z R Ret T (mkF m q' Ls st)) : oG fb p e below s Z R Ret T (mkF m pc Ls (.int y :: .int x :: st)) := by
  obtain ⟨_, _, _, _, _, ⟨vm0, k0, Y, hS, hk, hJ⟩, _⟩ := X
  by_cases hq : y < x
  · exact (G1 hq).step fun t k => XS.icmpYes Y.here E.1 rfl (pc0 := pc) rfl (hb E.2.2.2.1 hd) rfl (XT.ii_gt_t hq) ho hp k
  · subst hp'; exact (G0 hq).step fun t k => XS.icmpNo Y.here E.1 rfl (hb E.2.2.2.1 hd) rfl (XT.ii_gt_f hq) k
theorem gIf_gt (E : oE fb p l e R s m args below meth c Z bytes own nm maxL ret) (X : oX p l e R s m args below meth c Z T V cells slots fk) {x : Int32} {o : Int} {q' : Nat} (hd : decode bytes pc = .ok (.ifCond .gt o, 3)) (ho : 0 ≤ (pc : Int) + o) (hp : ((pc : Int) + o).toNat = q) (hp' : pc + 3 = q') (G1 : 0 < x → oG fb p e below s Z R Ret T (mkF m q Ls st)) (G0 : ¬ (0 < x) → oG fb p e below s Z R Ret T (mkF m q' Ls st)) : oG fb p e below s Z R Ret T (mkF m pc Ls (.int x :: st)) := by
  obtain ⟨_, _, _, _, _, ⟨vm0, k0, Y, hS, hk, hJ⟩, _⟩ := X
  by_cases hq : 0 < x
  · exact (G1 hq).step fun t k => XS.ifYes Y.here E.1 rfl (pc0 := pc) rfl (hb E.2.2.2.1 hd) rfl (XT.i0_gt_t hq) ho hp k
  · subst hp'; exact (G0 hq).step fun t k => XS.ifNo Y.here E.1 rfl (hb E.2.2.2.1 hd) rfl (XT.i0_gt_f hq) k
theorem gLc_gt (E : oE fb p l e R s m args below meth c Z bytes own nm maxL ret) (X : oX p l e R s m args below meth c Z T V cells slots fk) {x y : Int64} {o : Int} {q' : Nat} (hd : decode bytes pc = .ok (.ifCond .gt o, 3)) (ho : 0 ≤ (pc : Int) + o) (hp : ((pc : Int) + o).toNat = q) (hp' : pc + 3 = q') (G1 : y < x → oG fb p e below s Z R Ret T (mkF m q Ls st)) (G0 : ¬ (y < x) → oG fb p e below s Z R Ret T (mkF m q' Ls st)) : oG fb p e below s Z R Ret T (mkF m pc Ls (.int (XT.cmpL x y) :: st)) := by
  obtain ⟨_, _, _, _, _, ⟨vm0, k0, Y, hS, hk, hJ⟩, _⟩ := X
  by_cases hq : y < x
  · exact (G1 hq).step fun t k => XS.ifYes Y.here E.1 rfl (pc0 := pc) rfl (hb E.2.2.2.1 hd) rfl (XT.ll_gt_t hq) ho hp k
  · subst hp'; exact (G0 hq).step fun t k => XS.ifNo Y.here E.1 rfl (hb E.2.2.2.1 hd) rfl (XT.ll_gt_f hq) k
theorem gIc_le (E : oE fb p l e R s m args below meth c Z bytes own nm maxL ret) (X : oX p l e R s m args below meth c Z T V cells slots fk) {x y : Int32} {o : Int} {q' : Nat} (hd : decode bytes pc = .ok (.if_icmp .le o, 3)) (ho : 0 ≤ (pc : Int) + o) (hp : ((pc : Int) + o).toNat = q) (hp' : pc + 3 = q') (G1 : ¬ (y < x) → oG fb p e below s Z R Ret T (mkF m q Ls st)) (G0 : y < x → oG fb p e below s Z R Ret T (mkF m q' Ls st)) : oG fb p e below s Z R Ret T (mkF m pc Ls (.int y :: .int x :: st)) := by
  obtain ⟨_, _, _, _, _, ⟨vm0, k0, Y, hS, hk, hJ⟩, _⟩ := X
  by_cases hq : y < x
  · subst hp'; exact (G0 hq).step fun t k => XS.icmpNo Y.here E.1 rfl (hb E.2.2.2.1 hd) rfl (XT.ii_le_f hq) k
  · exact (G1 hq).step fun t k => XS.icmpYes Y.here E.1 rfl (pc0 := pc) rfl (hb E.2.2.2.1 hd) rfl (XT.ii_le_t hq) ho hp k
theorem gIf_le (E : oE fb p l e R s m args below meth c Z bytes own nm maxL ret) (X : oX p l e R s m args below meth c Z T V cells slots fk) {x : Int32} {o : Int} {q' : Nat} (hd : decode bytes pc = .ok (.ifCond .le o, 3)) (ho : 0 ≤ (pc : Int) + o) (hp : ((pc : Int) + o).toNat = q) (hp' : pc + 3 = q') (G1 : ¬ (0 < x) → oG fb p e below s Z R Ret T (mkF m q Ls st)) (G0 : 0 < x → oG fb p e below s Z R Ret T (mkF m q' Ls st)) : oG fb p e below s Z R Ret T (mkF m pc Ls (.int x :: st)) := by
  obtain ⟨_, _, _, _, _, ⟨vm0, k0, Y, hS, hk, hJ⟩, _⟩ := X
  by_cases hq : 0 < x
  · subst hp'; exact (G0 hq).step fun t k => XS.ifNo Y.here E.1 rfl (hb E.2.2.2.1 hd) rfl (XT.i0_le_f hq) k
  · exact (G1 hq).step fun t k => XS.ifYes Y.here E.1 rfl (pc0 := pc) rfl (hb E.2.2.2.1 hd) rfl (XT.i0_le_t hq) ho hp k
theorem gLc_le (E : oE fb p l e R s m args below meth c Z bytes own nm maxL ret) (X : oX p l e R s m args below meth c Z T V cells slots fk) {x y : Int64} {o : Int} {q' : Nat} (hd : decode bytes pc = .ok (.ifCond .le o, 3)) (ho : 0 ≤ (pc : Int) + o) (hp : ((pc : Int) + o).toNat = q) (hp' : pc + 3 = q') (G1 : ¬ (y < x) → oG fb p e below s Z R Ret T (mkF m q Ls st)) (G0 : y < x → oG fb p e below s Z R Ret T (mkF m q' Ls st)) : oG fb p e below s Z R Ret T (mkF m pc Ls (.int (XT.cmpL x y) :: st)) := by
  obtain ⟨_, _, _, _, _, ⟨vm0, k0, Y, hS, hk, hJ⟩, _⟩ := X
  by_cases hq : y < x
  · subst hp'; exact (G0 hq).step fun t k => XS.ifNo Y.here E.1 rfl (hb E.2.2.2.1 hd) rfl (XT.ll_le_f hq) k
  · exact (G1 hq).step fun t k => XS.ifYes Y.here E.1 rfl (pc0 := pc) rfl (hb E.2.2.2.1 hd) rfl (XT.ll_le_t hq) ho hp k
theorem gAc_eq (E : oE fb p l e R s m args below meth c Z bytes own nm maxL ret) (X : oX p l e R s m args below meth c Z T V cells slots fk) {v w : Value} (hv : v.isRef = true) (hw' : w.isRef = true) {o : Int} {q' : Nat} (hd : decode bytes pc = .ok (.if_acmp .eq o, 3)) (ho : 0 ≤ (pc : Int) + o) (hp : ((pc : Int) + o).toNat = q) (hp' : pc + 3 = q') (G1 : v = w → oG fb p e below s Z R Ret T (mkF m q Ls st)) (G0 : ¬ (v = w) → oG fb p e below s Z R Ret T (mkF m q' Ls st)) : oG fb p e below s Z R Ret T (mkF m pc Ls (w :: v :: st)) := by
  obtain ⟨_, _, _, _, _, ⟨vm0, k0, Y, hS, hk, hJ⟩, _⟩ := X
  by_cases hq : v = w
  · exact (G1 hq).step fun t k => XT.acmpYes Y.here E.1 rfl (pc0 := pc) rfl (hb E.2.2.2.1 hd) rfl hv hw' (XT.aa_eq_t hq) ho hp k
  · subst hp'; exact (G0 hq).step fun t k => XT.acmpNo Y.here E.1 rfl (hb E.2.2.2.1 hd) rfl hv hw' (XT.aa_eq_f hq) k
theorem gAc_ne (E : oE fb p l e R s m args below meth c Z bytes own nm maxL ret) (X : oX p l e R s m args below meth c Z T V cells slots fk) {v w : Value} (hv : v.isRef = true) (hw' : w.isRef = true) {o : Int} {q' : Nat} (hd : decode bytes pc = .ok (.if_acmp .ne o, 3)) (ho : 0 ≤ (pc : Int) + o) (hp : ((pc : Int) + o).toNat = q) (hp' : pc + 3 = q') (G1 : ¬ (v = w) → oG fb p e below s Z R Ret T (mkF m q Ls st)) (G0 : v = w → oG fb p e below s Z R Ret T (mkF m q' Ls st)) : oG fb p e below s Z R Ret T (mkF m pc Ls (w :: v :: st)) := by
  obtain ⟨_, _, _, _, _, ⟨vm0, k0, Y, hS, hk, hJ⟩, _⟩ := X
  by_cases hq : v = w
  · subst hp'; exact (G0 hq).step fun t k => XT.acmpNo Y.here E.1 rfl (hb E.2.2.2.1 hd) rfl hv hw' (XT.aa_ne_f hq) k
  · exact (G1 hq).step fun t k => XT.acmpYes Y.here E.1 rfl (pc0 := pc) rfl (hb E.2.2.2.1 hd) rfl hv hw' (XT.aa_ne_t hq) ho hp k
theorem gNull_y (E : oE fb p l e R s m args below meth c Z bytes own nm maxL ret) (X : oX p l e R s m args below meth c Z T V cells slots fk) {v : Value} (hv : v.isRef = true) {o : Int} {q' : Nat} (hd : decode bytes pc = .ok (.ifnull o, 3)) (ho : 0 ≤ (pc : Int) + o) (hp : ((pc : Int) + o).toNat = q) (hp' : pc + 3 = q') (G1 : v = .null → oG fb p e below s Z R Ret T (mkF m q Ls st)) (G0 : ¬ (v = .null) → oG fb p e below s Z R Ret T (mkF m q' Ls st)) : oG fb p e below s Z R Ret T (mkF m pc Ls (v :: st)) := by
  obtain ⟨_, _, _, _, _, ⟨vm0, k0, Y, hS, hk, hJ⟩, _⟩ := X
  by_cases hq : v = .null
  · exact (G1 hq).step fun t k => XT.nullYes Y.here E.1 rfl (pc0 := pc) rfl (hb E.2.2.2.1 hd) rfl hq ho hp k
  · subst hp'; exact (G0 hq).step fun t k => XT.nullNo Y.here E.1 rfl (hb E.2.2.2.1 hd) rfl hv hq k
theorem gNull_n (E : oE fb p l e R s m args below meth c Z bytes own nm maxL ret) (X : oX p l e R s m args below meth c Z T V cells slots fk) {v : Value} (hv : v.isRef = true) {o : Int} {q' : Nat} (hd : decode bytes pc = .ok (.ifnonnull o, 3)) (ho : 0 ≤ (pc : Int) + o) (hp : ((pc : Int) + o).toNat = q) (hp' : pc + 3 = q') (G1 : ¬ (v = .null) → oG fb p e below s Z R Ret T (mkF m q Ls st)) (G0 : v = .null → oG fb p e below s Z R Ret T (mkF m q' Ls st)) : oG fb p e below s Z R Ret T (mkF m pc Ls (v :: st)) := by
  obtain ⟨_, _, _, _, _, ⟨vm0, k0, Y, hS, hk, hJ⟩, _⟩ := X
  by_cases hq : v = .null
  · subst hp'; exact (G0 hq).step fun t k => XT.nonnullNo Y.here E.1 rfl (hb E.2.2.2.1 hd) rfl hq k
  · exact (G1 hq).step fun t k => XT.nonnullYes Y.here E.1 rfl (pc0 := pc) rfl (hb E.2.2.2.1 hd) rfl hv hq ho hp k
theorem gLdcI (E : oE fb p l e R s m args below meth c Z bytes own nm maxL ret) (X : oX p l e R s m args below meth c Z T V cells slots fk) {i : Nat} {v : Int32} (hd : decode bytes pc = .ok (.ldc i, 2)) (w : (Jvm.Cond.constant own i v).before a0 Z = true) (hp : pc + 2 = q) (G : oG fb p e below s Z R Ret T (mkF m q Ls (.int v :: st))) : oG fb p e below s Z R Ret T (mkF m pc Ls st) := by
  subst hp; obtain ⟨_, _, _, _, _, ⟨vm0, k0, Y, hS, hk, hJ⟩, _⟩ := X; exact G.step fun t k => Y.ldcI E.1 (oOw E hS) (mvT (oWm E hS) w) rfl (hb E.2.2.2.1 hd) k
theorem gLdcWI (E : oE fb p l e R s m args below meth c Z bytes own nm maxL ret) (X : oX p l e R s m args below meth c Z T V cells slots fk) {i : Nat} {v : Int32} (hd : decode bytes pc = .ok (.ldc_w i, 3)) (w : (Jvm.Cond.constant own i v).before a0 Z = true) (hp : pc + 3 = q) (G : oG fb p e below s Z R Ret T (mkF m q Ls (.int v :: st))) : oG fb p e below s Z R Ret T (mkF m pc Ls st) := by
  subst hp; obtain ⟨_, _, _, _, _, ⟨vm0, k0, Y, hS, hk, hJ⟩, _⟩ := X; exact G.step fun t k => Y.ldcWI E.1 (oOw E hS) (mvT (oWm E hS) w) rfl (hb E.2.2.2.1 hd) k
theorem gLdc2J (E : oE fb p l e R s m args below meth c Z bytes own nm maxL ret) (X : oX p l e R s m args below meth c Z T V cells slots fk) {i : Nat} {v : Int64} (hd : decode bytes pc = .ok (.ldc2_w i, 3)) (w : (Jvm.Cond.constantLong own i v).before a0 Z = true) (hp : pc + 3 = q) (G : oG fb p e below s Z R Ret T (mkF m q Ls (.long v :: st))) : oG fb p e below s Z R Ret T (mkF m pc Ls st) := by
  subst hp; obtain ⟨_, _, _, _, _, ⟨vm0, k0, Y, hS, hk, hJ⟩, _⟩ := X; exact G.step fun t k => Y.ldc2J E.1 (oOw E hS) (mvT (oWm E hS) w) rfl (hb E.2.2.2.1 hd) k
/-! 5. objects -/
theorem gGetF (E : oE fb p l e R s m args below meth c Z bytes own nm maxL ret) (X : oX p l e R s m args below meth c Z T V cells slots fk) {R0 O n d C : String} {index i j : Nat} {a : Addr} {fs : List (String × String × String × Value)} {v : Value} (hd : decode bytes pc = .ok (.getfield index, 3))
    (w : (Jvm.Cond.fieldLink own index R0 n d).before a0 Z = true) (via : Via Z R0 O n d) (hi : V[i]? = some (a, .inl (C, fs))) (hj : fs[j]? = some (O, n, d, v)) (hp : pc + 3 = q)
    (G : ∀ T', oX p l e R s m args below meth c Z T' V cells slots fk → oG fb p e below s Z R Ret T' (mkF m q Ls (v :: st))) : oG fb p e below s Z R Ret T (mkF m pc Ls (.ref a :: st)) := by
  subst hp; obtain ⟨locs, c', s', q1, q2, ⟨vm0, k0, Y, hS, hk, hJ⟩, N, H⟩ := X
  obtain ⟨T', Y', e', k⟩ := getF Y E.1 (oWm E hS) (oOw E hS) (host := "") (Or.inl w) via rfl ((H.sat hi).2.2 _ (List.mem_of_getElem? hj)) (g := mkF m pc Ls (.ref a :: st)) rfl rfl (hb E.2.2.2.1 hd)
  exact (G T' ⟨locs, c', s', q1, q2, ⟨vm0, k0, Y', hS, by rw [e']; exact hk, hJ⟩, N, e' ▸ H⟩).step k
theorem gGetFN (E : oE fb p l e R s m args below meth c Z bytes own nm maxL ret) (X : oX p l e R s m args below meth c Z T V cells slots fk) {R0 O n d C host : String} {index i j : Nat} {a : Addr} {fs : List (String × String × String × Value)} {v : Value} (hd : decode bytes pc = .ok (.getfield index, 3))
    (w : (Jvm.Cond.fieldLinkNest own index R0 n d host).before a0 Z = true) (via : Via Z R0 O n d) (hi : V[i]? = some (a, .inl (C, fs))) (hj : fs[j]? = some (O, n, d, v)) (hp : pc + 3 = q)
    (G : ∀ T', oX p l e R s m args below meth c Z T' V cells slots fk → oG fb p e below s Z R Ret T' (mkF m q Ls (v :: st))) : oG fb p e below s Z R Ret T (mkF m pc Ls (.ref a :: st)) := by
  subst hp; obtain ⟨locs, c', s', q1, q2, ⟨vm0, k0, Y, hS, hk, hJ⟩, N, H⟩ := X
  obtain ⟨T', Y', e', k⟩ := getF Y E.1 (oWm E hS) (oOw E hS) (host := host) (Or.inr w) via rfl ((H.sat hi).2.2 _ (List.mem_of_getElem? hj)) (g := mkF m pc Ls (.ref a :: st)) rfl rfl (hb E.2.2.2.1 hd)
  exact (G T' ⟨locs, c', s', q1, q2, ⟨vm0, k0, Y', hS, by rw [e']; exact hk, hJ⟩, N, e' ▸ H⟩).step k
/-- a field of an object that stood at the start -/
theorem gGetF0 (E : oE fb p l e R s m args below meth c Z bytes own nm maxL ret) (X : oX p l e R s m args below meth c Z T V cells slots fk) {R0 O n d : String} {index : Nat} {a : Addr} {v : Value} (hd : decode bytes pc = .ok (.getfield index, 3))
    (w : (Jvm.Cond.fieldLink own index R0 n d).before a0 Z = true) (via : Via Z R0 O n d) (F : Fld Z Z.heap a O n d v) (hp : pc + 3 = q)
    (G : ∀ T', oX p l e R s m args below meth c Z T' V cells slots fk → oG fb p e below s Z R Ret T' (mkF m q Ls (v :: st))) : oG fb p e below s Z R Ret T (mkF m pc Ls (.ref a :: st)) := by
  subst hp; obtain ⟨locs, c', s', q1, q2, ⟨vm0, k0, Y, hS, hk, hJ⟩, N, H⟩ := X
  obtain ⟨T', Y', e', k⟩ := getF Y E.1 (oWm E hS) (oOw E hS) (host := "") (Or.inl w) via rfl (F.ext H.1) (g := mkF m pc Ls (.ref a :: st)) rfl rfl (hb E.2.2.2.1 hd)
  exact (G T' ⟨locs, c', s', q1, q2, ⟨vm0, k0, Y', hS, by rw [e']; exact hk, hJ⟩, N, e' ▸ H⟩).step k
theorem gGetS (E : oE fb p l e R s m args below meth c Z bytes own nm maxL ret) (X : oX p l e R s m args below meth c Z T V cells slots fk) {R0 O n d : String} {index : Nat} {v : Value} (hd : decode bytes pc = .ok (.getstatic index, 3))
    (w : (Jvm.Cond.fieldLink own index R0 n d).before a0 Z = true) (via : Via Z R0 O n d) (F : Sta Z Z.heap O n d v) (hp : pc + 3 = q)
    (G : ∀ T', oX p l e R s m args below meth c Z T' V cells slots fk → oG fb p e below s Z R Ret T' (mkF m q Ls (v :: st))) : oG fb p e below s Z R Ret T (mkF m pc Ls st) := by
  subst hp; obtain ⟨locs, c', s', q1, q2, ⟨vm0, k0, Y, hS, hk, hJ⟩, N, H⟩ := X
  obtain ⟨T', Y', e', k⟩ := getS Y E.1 (oWm E hS) (oOw E hS) (host := "") w via rfl (F.ext H.1) (g := mkF m pc Ls st) rfl (hb E.2.2.2.1 hd)
  exact (G T' ⟨locs, c', s', q1, q2, ⟨vm0, k0, Y', hS, by rw [e']; exact hk, hJ⟩, N, e' ▸ H⟩).step k
theorem gPutF (E : oE fb p l e R s m args below meth c Z bytes own nm maxL ret) (X : oX p l e R s m args below meth c Z T V cells slots fk) {R0 O n d C : String} {index i j kk : Nat} {a : Addr} {fs : List (String × String × String × Value)} {v old : Value} {ty : FieldType} (hd : decode bytes pc = .ok (.putfield index, 3))
    (w : (Jvm.Cond.fieldLink own index R0 n d).before a0 Z = true) (via : Via Z R0 O n d) (hi : V[i]? = some (a, .inl (C, fs))) (hj : fs[j]? = some (O, n, d, old)) (L : (Jvm.Cond.lays C O n d).before a0 Z = true ∨ ((Jvm.Cond.laysFinal C O n d).before a0 Z = true ∧ own = O ∧ nm = "<init>")) (wi : (Jvm.Cond.instantiable C kk).before a0 Z = true)
    (hty : parseFieldDescriptor d = some ty) (hn : narrow ty v = v) (hf : fits ty v = true) (hV : V.set i (a, .inl (C, fs.set j (O, n, d, v))) = V') (hp : pc + 3 = q)
    (G : ∀ T', oX p l e R s m args below meth c Z T' V' cells slots fk → oG fb p e below s Z R Ret T' (mkF m q Ls st)) : oG fb p e below s Z R Ret T (mkF m pc Ls (v :: .ref a :: st)) := by
  subst hp hV; obtain ⟨locs, c', s', q1, q2, ⟨vm0, k0, Y, hS, hk, hJ⟩, N, H⟩ := X
  have S := H.sat hi
  obtain ⟨T', h', Y', e', W, k⟩ := putF Y E.1 (oWm E hS) (oOw E hS) (host := "") (Or.inl w) via rfl (S.2.2 _ (List.mem_of_getElem? hj)) S.1 (L.imp id fun z => ⟨z.1, z.2.1, E.2.2.2.2.2.2.1.trans z.2.2⟩) wi hty hn hf (g := mkF m pc Ls (v :: .ref a :: st)) rfl rfl (hb E.2.2.2.1 hd)
  subst e'
  exact (G T' ⟨_, c', s', q1, q2, ⟨vm0, k0, Y', hS, by rw [W.size]; exact hk, hJ⟩, Fr.snoc Y' N (H.ge hi), H.wr W hi (S.wrF hj W)⟩).step k
theorem gPutFN (E : oE fb p l e R s m args below meth c Z bytes own nm maxL ret) (X : oX p l e R s m args below meth c Z T V cells slots fk) {R0 O n d C host : String} {index i j kk : Nat} {a : Addr} {fs : List (String × String × String × Value)} {v old : Value} {ty : FieldType} (hd : decode bytes pc = .ok (.putfield index, 3))
    (w : (Jvm.Cond.fieldLinkNest own index R0 n d host).before a0 Z = true) (via : Via Z R0 O n d) (hi : V[i]? = some (a, .inl (C, fs))) (hj : fs[j]? = some (O, n, d, old)) (L : (Jvm.Cond.lays C O n d).before a0 Z = true ∨ ((Jvm.Cond.laysFinal C O n d).before a0 Z = true ∧ own = O ∧ nm = "<init>")) (wi : (Jvm.Cond.instantiable C kk).before a0 Z = true)
    (hty : parseFieldDescriptor d = some ty) (hn : narrow ty v = v) (hf : fits ty v = true) (hV : V.set i (a, .inl (C, fs.set j (O, n, d, v))) = V') (hp : pc + 3 = q)
    (G : ∀ T', oX p l e R s m args below meth c Z T' V' cells slots fk → oG fb p e below s Z R Ret T' (mkF m q Ls st)) : oG fb p e below s Z R Ret T (mkF m pc Ls (v :: .ref a :: st)) := by
  subst hp hV; obtain ⟨locs, c', s', q1, q2, ⟨vm0, k0, Y, hS, hk, hJ⟩, N, H⟩ := X
  have S := H.sat hi
  obtain ⟨T', h', Y', e', W, k⟩ := putF Y E.1 (oWm E hS) (oOw E hS) (host := host) (Or.inr w) via rfl (S.2.2 _ (List.mem_of_getElem? hj)) S.1 (L.imp id fun z => ⟨z.1, z.2.1, E.2.2.2.2.2.2.1.trans z.2.2⟩) wi hty hn hf (g := mkF m pc Ls (v :: .ref a :: st)) rfl rfl (hb E.2.2.2.1 hd)
  subst e'
  exact (G T' ⟨_, c', s', q1, q2, ⟨vm0, k0, Y', hS, by rw [W.size]; exact hk, hJ⟩, Fr.snoc Y' N (H.ge hi), H.wr W hi (S.wrF hj W)⟩).step k
theorem gNew (E : oE fb p l e R s m args below meth c Z bytes own nm maxL ret) (X : oX p l e R s m args below meth c Z T V cells slots fk) {C : String} {index n : Nat} {fs : List (String × String × String × Value)} (hd : decode bytes pc = .ok (.new index, 3))
    (w : (Jvm.Cond.classLink own index C).before a0 Z = true) (wi : (Jvm.Cond.instantiable C n).before a0 Z = true) (wz : (Jvm.Cond.initialized C).before a0 Z = true) (hL : oLay Z a0 C fs) (hc : cells + 1 ≤ c2) (hs : slots + n ≤ s2) (hc2 : c2 ≤ R.cells) (hs2 : s2 ≤ R.slots) (hp : pc + 3 = q)
    (G : ∀ T' a, oX p l e R s m args below meth c Z T' (V ++ [(a, .inl (C, fs))]) c2 s2 fk → oG fb p e below s Z R Ret T' (mkF m q Ls (.ref a :: st))) : oG fb p e below s Z R Ret T (mkF m pc Ls st) := by
  subst hp; obtain ⟨locs, c', s', q1, q2, ⟨vm0, k0, Y, hS, hk, hJ⟩, N, H⟩ := X
  obtain ⟨T', h', Y', e', Ex, A, D, -, k⟩ := newO Y E.1 (oWm E hS) (oOw E hS) w wi wz rfl (g := mkF m pc Ls st) rfl (hb E.2.2.2.1 hd) (by omega) (by omega)
  subst e'
  refine (G T' T.heap.size ⟨_, _, _, by omega, by omega, ⟨vm0, k0, Y', hS, Nat.le_trans hk Ex.1, hJ⟩, N, H.new Ex ⟨A, hL.1, fun f hf => ?_⟩⟩).step k
  obtain ⟨L1, ty, t1, t2⟩ := hL.2 f hf
  rw [t2]; exact D L1 t1
theorem gInitO (E : oE fb p l e R s m args below meth c Z bytes own nm maxL ret) (X : oX p l e R s m args below meth c Z T V cells slots fk) {index : Nat} {a : Addr} {W : Nat} (hd : decode bytes pc = .ok (.invokespecial index, 3))
    (w1 : (Jvm.Cond.methodLink own index Lib.objectInit).before a0 Z = true) (w2 : (Jvm.Cond.instanceMethod Lib.objectInit).before a0 Z = true) (w3 : (Jvm.Cond.code Lib.objectInit ⟨#[0xb1]⟩ 1 none).before a0 Z = true) (hsz : Ls.size = maxL) (hf : 1 ≤ R.frames) (hW : (st.map fun v => v.category).sum ≤ W) (hl : W + 12 ≤ R.locals) (hp : pc + 3 = q)
    (G : ∀ T', oX p l e R s m args below meth c Z T' V cells slots fk → oG fb p e below s Z R Ret T' (mkF m q Ls st)) : oG fb p e below s Z R Ret T (mkF m pc Ls (.ref a :: st)) := by
  subst hp; obtain ⟨locs, c', s', q1, q2, ⟨vm0, k0, Y, hS, hk, hJ⟩, N, H⟩ := X
  obtain ⟨T', Y', e', k⟩ := initO Y E.1 (oWm E hS) (oOw E hS) w1 w2 w3 rfl (g := mkF m pc Ls (.ref a :: st)) rfl (by rw [E.2.2.2.2.1]; exact hsz) rfl (hb E.2.2.2.1 hd) hf (W := W) (by show 2 * 0 + _ ≤ _; omega) hl
  exact (G T' ⟨locs, c', s', q1, q2, ⟨vm0, k0, Y', hS, by rw [e']; exact hk, hJ⟩, N, e' ▸ H⟩).step k
theorem gInstY (E : oE fb p l e R s m args below meth c Z bytes own nm maxL ret) (X : oX p l e R s m args below meth c Z T V cells slots fk) {K C : String} {index i : Nat} {a : Addr} {fs : List (String × String × String × Value)} (hd : decode bytes pc = .ok (.instanceof index, 3))
    (w : (Jvm.Cond.classLink own index K).before a0 Z = true) (hi : V[i]? = some (a, .inl (C, fs))) (wc : (Jvm.Cond.castable C K).before a0 Z = true) (hp : pc + 3 = q)
    (G : ∀ T', oX p l e R s m args below meth c Z T' V cells slots fk → oG fb p e below s Z R Ret T' (mkF m q Ls (.int 1 :: st))) : oG fb p e below s Z R Ret T (mkF m pc Ls (.ref a :: st)) := by
  subst hp; obtain ⟨locs, c', s', q1, q2, ⟨vm0, k0, Y, hS, hk, hJ⟩, N, H⟩ := X
  obtain ⟨T', Y', e', k⟩ := instY Y E.1 (oWm E hS) (oOw E hS) w rfl (Ins.of_exa (H.sat hi).1 wc) (g := mkF m pc Ls (.ref a :: st)) rfl rfl (hb E.2.2.2.1 hd)
  exact (G T' ⟨locs, c', s', q1, q2, ⟨vm0, k0, Y', hS, by rw [e']; exact hk, hJ⟩, N, e' ▸ H⟩).step k
theorem gInstNo (E : oE fb p l e R s m args below meth c Z bytes own nm maxL ret) (X : oX p l e R s m args below meth c Z T V cells slots fk) {K C : String} {index : Nat} {a : Addr} (hd : decode bytes pc = .ok (.instanceof index, 3))
    (w : (Jvm.Cond.classLink own index K).before a0 Z = true) (hE : ∀ h, oHv Z h V → Exa Z h a C) (F : ∃ c t, Z.vm.findClass C = some c ∧ Z.vm.findClass K = some t ∧ Z.vm.assignable c t = false) (hp : pc + 3 = q)
    (G : ∀ T', oX p l e R s m args below meth c Z T' V cells slots fk → oG fb p e below s Z R Ret T' (mkF m q Ls (.int 0 :: st))) : oG fb p e below s Z R Ret T (mkF m pc Ls (.ref a :: st)) := by
  subst hp; obtain ⟨locs, c', s', q1, q2, ⟨vm0, k0, Y, hS, hk, hJ⟩, N, H⟩ := X
  obtain ⟨T', Y', e', k⟩ := instNo Y E.1 (oWm E hS) (oOw E hS) w rfl (hE _ H) F (g := mkF m pc Ls (.ref a :: st)) rfl rfl (hb E.2.2.2.1 hd)
  exact (G T' ⟨locs, c', s', q1, q2, ⟨vm0, k0, Y', hS, by rw [e']; exact hk, hJ⟩, N, e' ▸ H⟩).step k
theorem gInstNull (E : oE fb p l e R s m args below meth c Z bytes own nm maxL ret) (X : oX p l e R s m args below meth c Z T V cells slots fk) {index : Nat} (hd : decode bytes pc = .ok (.instanceof index, 3)) (hp : pc + 3 = q) (G : oG fb p e below s Z R Ret T (mkF m q Ls (.int 0 :: st))) : oG fb p e below s Z R Ret T (mkF m pc Ls (.null :: st)) := by
  subst hp; obtain ⟨_, _, _, _, _, ⟨vm0, k0, Y, hS, hk, hJ⟩, _⟩ := X; exact G.step fun t k => Y.instanceofNull E.1 (g := mkF m pc Ls (.null :: st)) rfl rfl (hb E.2.2.2.1 hd) t k
theorem gCastY (E : oE fb p l e R s m args below meth c Z bytes own nm maxL ret) (X : oX p l e R s m args below meth c Z T V cells slots fk) {K C : String} {index i : Nat} {a : Addr} {fs : List (String × String × String × Value)} (hd : decode bytes pc = .ok (.checkcast index, 3))
    (w : (Jvm.Cond.classLink own index K).before a0 Z = true) (hi : V[i]? = some (a, .inl (C, fs))) (wc : (Jvm.Cond.castable C K).before a0 Z = true) (hp : pc + 3 = q)
    (G : ∀ T', oX p l e R s m args below meth c Z T' V cells slots fk → oG fb p e below s Z R Ret T' (mkF m q Ls (.ref a :: st))) : oG fb p e below s Z R Ret T (mkF m pc Ls (.ref a :: st)) := by
  subst hp; obtain ⟨locs, c', s', q1, q2, ⟨vm0, k0, Y, hS, hk, hJ⟩, N, H⟩ := X
  obtain ⟨T', Y', e', k⟩ := castY Y E.1 (oWm E hS) (oOw E hS) w rfl (Ins.of_exa (H.sat hi).1 wc) (g := mkF m pc Ls (.ref a :: st)) rfl rfl (hb E.2.2.2.1 hd)
  exact (G T' ⟨locs, c', s', q1, q2, ⟨vm0, k0, Y', hS, by rw [e']; exact hk, hJ⟩, N, e' ▸ H⟩).step k
/-! 6. arrays -/
theorem oNat {j : Int32} (hj : ¬ j < 0) {n : Nat} (hn : n < 2 ^ 31) (h : n.toInt32 = j) : j.toNatClampNeg = n := by
  subst h; simp only [Int32.toNatClampNeg, len_toInt hn]; omega
theorem oIn {c : Cell} {vs : List Value} {j : Int32} {v : Value} (h : c.slots.toList = vs) (hj : ¬ j < 0) (hv : vs[j.toNatClampNeg]? = some v) : ¬ (j < 0 ∨ c.slots.size ≤ j.toNatClampNeg) ∧ c.slots[j.toNatClampNeg]? = some v := by
  subst h
  rw [Array.getElem?_toList] at hv
  exact ⟨fun z => z.elim hj fun y => (by rw [Array.getElem?_eq_none y] at hv; cases hv), hv⟩
theorem gNewA (E : oE fb p l e R s m args below meth c Z bytes own nm maxL ret) (X : oX p l e R s m args below meth c Z T V cells slots fk) {aty : ArrayType} {n : Int32} {cap : Nat} {vs : List Value} {ty : FieldType} (hty : newarray.typeOf aty = ty) (hd : decode bytes pc = .ok (.newarray aty, 2))
    (w : (Jvm.Cond.arrayClass (newarray.typeOf aty)).before a0 Z = true) (hn : ¬ n < 0) (hcap : n.toNatClampNeg ≤ cap) (hb8 : cap * 8 ≤ 536870912) (hvs : List.replicate n.toNatClampNeg (defaultValue ty) = vs) (hc : cells + 1 ≤ c2) (hs : slots + cap ≤ s2) (hc2 : c2 ≤ R.cells) (hs2 : s2 ≤ R.slots) (hp : pc + 2 = q)
    (G : ∀ T' a, oX p l e R s m args below meth c Z T' (V ++ [(a, .inr (ty, vs))]) c2 s2 fk → oG fb p e below s Z R Ret T' (mkF m q Ls (.ref a :: st))) : oG fb p e below s Z R Ret T (mkF m pc Ls (.int n :: st)) := by
  subst hp hvs hty; obtain ⟨locs, c', s', q1, q2, ⟨vm0, k0, Y, hS, hk, hJ⟩, N, H⟩ := X
  obtain ⟨T', h', cA, Y', e', Ex, A, k⟩ := newP Y E.1 (oWm E hS) w rfl (g := mkF m pc Ls (.int n :: st)) rfl (hb E.2.2.2.1 hd) rfl hn hcap hb8 (by omega) (by omega)
  subst e'
  refine (G T' T.heap.size ⟨_, _, _, by omega, by omega, ⟨vm0, k0, Y', hS, Nat.le_trans hk Ex.1, hJ⟩, N, H.new Ex ⟨_, A, by simp [newA], ?_⟩⟩).step k
  rw [List.length_replicate]; exact (back32 hn).2
theorem gLen (E : oE fb p l e R s m args below meth c Z bytes own nm maxL ret) (X : oX p l e R s m args below meth c Z T V cells slots fk) {i : Nat} {a : Addr} {ty : FieldType} {vs : List Value} {z : Int32} (hd : decode bytes pc = .ok (.arraylength, 1))
    (hi : V[i]? = some (a, .inr (ty, vs))) (hz : vs.length.toInt32 = z) (hp : pc + 1 = q) (G : oG fb p e below s Z R Ret T (mkF m q Ls (.int z :: st))) : oG fb p e below s Z R Ret T (mkF m pc Ls (.ref a :: st)) := by
  subst hp hz; obtain ⟨locs, c', s', q1, q2, ⟨vm0, k0, Y, hS, hk, hJ⟩, N, H⟩ := X
  obtain ⟨cl, A, r1, r2⟩ := H.sat hi
  simp only at r1
  subst r1
  exact G.step fun t k => Y.arraylength E.1 A.1 (State.isArrayOf_alike (oWm E hS).alike A.2.1) (g := mkF m pc Ls (.ref a :: st)) rfl rfl (hb E.2.2.2.1 hd) t (by rw [Array.length_toList] at k; exact k)
/-- v's length, whether she stood at the start or was made since -/
def oLn (Z : State) (V : oVw) (a : Addr) (z : Int32) : Prop := (∃ cl ty, Arr Z Z.heap a cl ty ∧ cl.slots.size.toInt32 = z) ∨ ∃ (k : Nat) (ty : FieldType) (vs : List Value), V[k]? = some (a, .inr (ty, vs)) ∧ vs.length.toInt32 = z
theorem oLn.app {a : Addr} {z : Int32} {L : oVw} (h : oLn Z V a z) : oLn Z (V ++ L) a z := h.imp id fun ⟨k, ty, vs, h1, h2⟩ => ⟨k, ty, vs, oAppGet h1, h2⟩
theorem oLn.set {a b : Addr} {z : Int32} {i : Nat} {q q' : String × List (String × String × String × Value)} (h : oLn Z V a z) (hi : V[i]? = some (b, .inl q)) : oLn Z (V.set i (b, .inl q')) a z := h.imp id fun ⟨k, ty, vs, h1, h2⟩ => ⟨k, ty, vs, oSetNe (fun e => by subst e; rw [hi] at h1; cases h1) h1, h2⟩
theorem gLenG (E : oE fb p l e R s m args below meth c Z bytes own nm maxL ret) (X : oX p l e R s m args below meth c Z T V cells slots fk) {a : Addr} {z : Int32} (hd : decode bytes pc = .ok (.arraylength, 1))
    (hL : oLn Z V a z) (hp : pc + 1 = q) (G : oG fb p e below s Z R Ret T (mkF m q Ls (.int z :: st))) : oG fb p e below s Z R Ret T (mkF m pc Ls (.ref a :: st)) := by
  rcases hL with ⟨cl, ty, A, hz⟩ | ⟨k, ty, vs, h1, h2⟩
  · subst hp hz; obtain ⟨locs, c', s', q1, q2, ⟨vm0, k0, Y, hS, hk, hJ⟩, N, H⟩ := X
    exact G.step fun t k => Y.arraylength E.1 (A.ext H.1).1 (State.isArrayOf_alike (oWm E hS).alike A.2.1) (g := mkF m pc Ls (.ref a :: st)) rfl rfl (hb E.2.2.2.1 hd) t k
  · exact gLen E X hd h1 h2 hp G
theorem oRepLen {n : Int32} {d : Value} (hn : ¬ n < 0) : (List.replicate n.toNatClampNeg d).length.toInt32 = n := by rw [List.length_replicate]; exact (back32 hn).1
theorem gLen0 (E : oE fb p l e R s m args below meth c Z bytes own nm maxL ret) (X : oX p l e R s m args below meth c Z T V cells slots fk) {a : Addr} {ty : FieldType} {cl : Cell} {z : Int32} (hd : decode bytes pc = .ok (.arraylength, 1))
    (A : Arr Z Z.heap a cl ty) (hz : cl.slots.size.toInt32 = z) (hp : pc + 1 = q) (G : oG fb p e below s Z R Ret T (mkF m q Ls (.int z :: st))) : oG fb p e below s Z R Ret T (mkF m pc Ls (.ref a :: st)) := by
  subst hp hz; obtain ⟨locs, c', s', q1, q2, ⟨vm0, k0, Y, hS, hk, hJ⟩, N, H⟩ := X
  exact G.step fun t k => Y.arraylength E.1 (A.ext H.1).1 (State.isArrayOf_alike (oWm E hS).alike A.2.1) (g := mkF m pc Ls (.ref a :: st)) rfl rfl (hb E.2.2.2.1 hd) t k
theorem gBaload (E : oE fb p l e R s m args below meth c Z bytes own nm maxL ret) (X : oX p l e R s m args below meth c Z T V cells slots fk) {i : Nat} {a : Addr} {vs : List Value} {j : Int32} {v : Value} (hd : decode bytes pc = .ok (.baload, 1))
    (hi : V[i]? = some (a, .inr (.byte, vs))) (hj : ¬ j < 0) (hv : vs[j.toNatClampNeg]? = some v) (hp : pc + 1 = q) (G : oG fb p e below s Z R Ret T (mkF m q Ls (v :: st))) : oG fb p e below s Z R Ret T (mkF m pc Ls (.int j :: .ref a :: st)) := by
  subst hp; obtain ⟨locs, c', s', q1, q2, ⟨vm0, k0, Y, hS, hk, hJ⟩, N, H⟩ := X
  obtain ⟨cl, A, r1, r2⟩ := H.sat hi
  obtain ⟨z1, z2⟩ := oIn r1 hj hv
  exact G.step fun t k => Y.baloadBytes E.1 A.1 (State.isArrayOf_alike (oWm E hS).alike A.2.1) A.2.2 z1 z2 (g := mkF m pc Ls (.int j :: .ref a :: st)) rfl rfl (hb E.2.2.2.1 hd) t k
theorem gBaload0 (E : oE fb p l e R s m args below meth c Z bytes own nm maxL ret) (X : oX p l e R s m args below meth c Z T V cells slots fk) {a : Addr} {cl : Cell} {j : Int32} {v : Value} (hd : decode bytes pc = .ok (.baload, 1))
    (A : Arr Z Z.heap a cl .byte) (hj : ¬ (j < 0 ∨ cl.slots.size ≤ j.toNatClampNeg)) (hv : cl.slots[j.toNatClampNeg]? = some v) (hp : pc + 1 = q) (G : oG fb p e below s Z R Ret T (mkF m q Ls (v :: st))) : oG fb p e below s Z R Ret T (mkF m pc Ls (.int j :: .ref a :: st)) := by
  subst hp; obtain ⟨locs, c', s', q1, q2, ⟨vm0, k0, Y, hS, hk, hJ⟩, N, H⟩ := X
  exact G.step fun t k => Y.baloadBytes E.1 (A.ext H.1).1 (State.isArrayOf_alike (oWm E hS).alike A.2.1) A.2.2 hj hv (g := mkF m pc Ls (.int j :: .ref a :: st)) rfl rfl (hb E.2.2.2.1 hd) t k
theorem gIaload (E : oE fb p l e R s m args below meth c Z bytes own nm maxL ret) (X : oX p l e R s m args below meth c Z T V cells slots fk) {i : Nat} {a : Addr} {vs : List Value} {j : Int32} {v : Value} (hd : decode bytes pc = .ok (.iaload, 1))
    (hi : V[i]? = some (a, .inr (.int, vs))) (hj : ¬ j < 0) (hv : vs[j.toNatClampNeg]? = some v) (hp : pc + 1 = q) (G : oG fb p e below s Z R Ret T (mkF m q Ls (v :: st))) : oG fb p e below s Z R Ret T (mkF m pc Ls (.int j :: .ref a :: st)) := by
  subst hp; obtain ⟨locs, c', s', q1, q2, ⟨vm0, k0, Y, hS, hk, hJ⟩, N, H⟩ := X
  obtain ⟨cl, A, r1, r2⟩ := H.sat hi
  obtain ⟨z1, z2⟩ := oIn r1 hj hv
  exact G.step fun t k => Y.iaload E.1 A.1 (State.isArrayOf_alike (oWm E hS).alike A.2.1) A.2.2 z1 z2 (g := mkF m pc Ls (.int j :: .ref a :: st)) rfl rfl (hb E.2.2.2.1 hd) t k
theorem gIaload0 (E : oE fb p l e R s m args below meth c Z bytes own nm maxL ret) (X : oX p l e R s m args below meth c Z T V cells slots fk) {a : Addr} {cl : Cell} {j : Int32} {v : Value} (hd : decode bytes pc = .ok (.iaload, 1))
    (A : Arr Z Z.heap a cl .int) (hj : ¬ (j < 0 ∨ cl.slots.size ≤ j.toNatClampNeg)) (hv : cl.slots[j.toNatClampNeg]? = some v) (hp : pc + 1 = q) (G : oG fb p e below s Z R Ret T (mkF m q Ls (v :: st))) : oG fb p e below s Z R Ret T (mkF m pc Ls (.int j :: .ref a :: st)) := by
  subst hp; obtain ⟨locs, c', s', q1, q2, ⟨vm0, k0, Y, hS, hk, hJ⟩, N, H⟩ := X
  exact G.step fun t k => Y.iaload E.1 (A.ext H.1).1 (State.isArrayOf_alike (oWm E hS).alike A.2.1) A.2.2 hj hv (g := mkF m pc Ls (.int j :: .ref a :: st)) rfl rfl (hb E.2.2.2.1 hd) t k
theorem gLaload (E : oE fb p l e R s m args below meth c Z bytes own nm maxL ret) (X : oX p l e R s m args below meth c Z T V cells slots fk) {i : Nat} {a : Addr} {vs : List Value} {j : Int32} {v : Value} (hd : decode bytes pc = .ok (.laload, 1))
    (hi : V[i]? = some (a, .inr (.long, vs))) (hj : ¬ j < 0) (hv : vs[j.toNatClampNeg]? = some v) (hp : pc + 1 = q) (G : oG fb p e below s Z R Ret T (mkF m q Ls (v :: st))) : oG fb p e below s Z R Ret T (mkF m pc Ls (.int j :: .ref a :: st)) := by
  subst hp; obtain ⟨locs, c', s', q1, q2, ⟨vm0, k0, Y, hS, hk, hJ⟩, N, H⟩ := X
  obtain ⟨cl, A, r1, r2⟩ := H.sat hi
  obtain ⟨z1, z2⟩ := oIn r1 hj hv
  exact G.step fun t k => Y.laload E.1 A.1 (State.isArrayOf_alike (oWm E hS).alike A.2.1) A.2.2 z1 z2 (g := mkF m pc Ls (.int j :: .ref a :: st)) rfl rfl (hb E.2.2.2.1 hd) t k
theorem gLaload0 (E : oE fb p l e R s m args below meth c Z bytes own nm maxL ret) (X : oX p l e R s m args below meth c Z T V cells slots fk) {a : Addr} {cl : Cell} {j : Int32} {v : Value} (hd : decode bytes pc = .ok (.laload, 1))
    (A : Arr Z Z.heap a cl .long) (hj : ¬ (j < 0 ∨ cl.slots.size ≤ j.toNatClampNeg)) (hv : cl.slots[j.toNatClampNeg]? = some v) (hp : pc + 1 = q) (G : oG fb p e below s Z R Ret T (mkF m q Ls (v :: st))) : oG fb p e below s Z R Ret T (mkF m pc Ls (.int j :: .ref a :: st)) := by
  subst hp; obtain ⟨locs, c', s', q1, q2, ⟨vm0, k0, Y, hS, hk, hJ⟩, N, H⟩ := X
  exact G.step fun t k => Y.laload E.1 (A.ext H.1).1 (State.isArrayOf_alike (oWm E hS).alike A.2.1) A.2.2 hj hv (g := mkF m pc Ls (.int j :: .ref a :: st)) rfl rfl (hb E.2.2.2.1 hd) t k
theorem gCaload (E : oE fb p l e R s m args below meth c Z bytes own nm maxL ret) (X : oX p l e R s m args below meth c Z T V cells slots fk) {i : Nat} {a : Addr} {vs : List Value} {j : Int32} {v : Value} (hd : decode bytes pc = .ok (.caload, 1))
    (hi : V[i]? = some (a, .inr (.char, vs))) (hj : ¬ j < 0) (hv : vs[j.toNatClampNeg]? = some v) (hp : pc + 1 = q) (G : oG fb p e below s Z R Ret T (mkF m q Ls (v :: st))) : oG fb p e below s Z R Ret T (mkF m pc Ls (.int j :: .ref a :: st)) := by
  subst hp; obtain ⟨locs, c', s', q1, q2, ⟨vm0, k0, Y, hS, hk, hJ⟩, N, H⟩ := X
  obtain ⟨cl, A, r1, r2⟩ := H.sat hi
  obtain ⟨z1, z2⟩ := oIn r1 hj hv
  exact G.step fun t k => Y.caload E.1 A.1 (State.isArrayOf_alike (oWm E hS).alike A.2.1) A.2.2 z1 z2 (g := mkF m pc Ls (.int j :: .ref a :: st)) rfl rfl (hb E.2.2.2.1 hd) t k
theorem gCaload0 (E : oE fb p l e R s m args below meth c Z bytes own nm maxL ret) (X : oX p l e R s m args below meth c Z T V cells slots fk) {a : Addr} {cl : Cell} {j : Int32} {v : Value} (hd : decode bytes pc = .ok (.caload, 1))
    (A : Arr Z Z.heap a cl .char) (hj : ¬ (j < 0 ∨ cl.slots.size ≤ j.toNatClampNeg)) (hv : cl.slots[j.toNatClampNeg]? = some v) (hp : pc + 1 = q) (G : oG fb p e below s Z R Ret T (mkF m q Ls (v :: st))) : oG fb p e below s Z R Ret T (mkF m pc Ls (.int j :: .ref a :: st)) := by
  subst hp; obtain ⟨locs, c', s', q1, q2, ⟨vm0, k0, Y, hS, hk, hJ⟩, N, H⟩ := X
  exact G.step fun t k => Y.caload E.1 (A.ext H.1).1 (State.isArrayOf_alike (oWm E hS).alike A.2.1) A.2.2 hj hv (g := mkF m pc Ls (.int j :: .ref a :: st)) rfl rfl (hb E.2.2.2.1 hd) t k
theorem gAaload (E : oE fb p l e R s m args below meth c Z bytes own nm maxL ret) (X : oX p l e R s m args below meth c Z T V cells slots fk) {i : Nat} {a : Addr} {ty : FieldType} {vs : List Value} {j : Int32} {v : Value} (hd : decode bytes pc = .ok (.aaload, 1))
    (hi : V[i]? = some (a, .inr (ty, vs))) (ht : ty.isReference = true) (hj : ¬ j < 0) (hv : vs[j.toNatClampNeg]? = some v) (hp : pc + 1 = q) (G : oG fb p e below s Z R Ret T (mkF m q Ls (v :: st))) : oG fb p e below s Z R Ret T (mkF m pc Ls (.int j :: .ref a :: st)) := by
  subst hp; obtain ⟨locs, c', s', q1, q2, ⟨vm0, k0, Y, hS, hk, hJ⟩, N, H⟩ := X
  obtain ⟨cl, A, r1, r2⟩ := H.sat hi
  obtain ⟨z1, z2⟩ := oIn r1 hj hv
  exact G.step fun t k => Y.aaload E.1 A.1 (State.isArrayOf_alike (oWm E hS).alike A.2.1) ht A.2.2 z1 z2 (g := mkF m pc Ls (.int j :: .ref a :: st)) rfl rfl (hb E.2.2.2.1 hd) t k
theorem gAaload0 (E : oE fb p l e R s m args below meth c Z bytes own nm maxL ret) (X : oX p l e R s m args below meth c Z T V cells slots fk) {a : Addr} {ty : FieldType} {cl : Cell} {j : Int32} {v : Value} (hd : decode bytes pc = .ok (.aaload, 1))
    (A : Arr Z Z.heap a cl ty) (ht : ty.isReference = true) (hj : ¬ (j < 0 ∨ cl.slots.size ≤ j.toNatClampNeg)) (hv : cl.slots[j.toNatClampNeg]? = some v) (hp : pc + 1 = q) (G : oG fb p e below s Z R Ret T (mkF m q Ls (v :: st))) : oG fb p e below s Z R Ret T (mkF m pc Ls (.int j :: .ref a :: st)) := by
  subst hp; obtain ⟨locs, c', s', q1, q2, ⟨vm0, k0, Y, hS, hk, hJ⟩, N, H⟩ := X
  exact G.step fun t k => Y.aaload E.1 (A.ext H.1).1 (State.isArrayOf_alike (oWm E hS).alike A.2.1) ht A.2.2 hj hv (g := mkF m pc Ls (.int j :: .ref a :: st)) rfl rfl (hb E.2.2.2.1 hd) t k
theorem gBastore (E : oE fb p l e R s m args below meth c Z bytes own nm maxL ret) (X : oX p l e R s m args below meth c Z T V cells slots fk) {i jn : Nat} {a : Addr} {vs : List Value} {j : Int32} {x x' : Int32} (hd : decode bytes pc = .ok (.bastore, 1))
    (hi : V[i]? = some (a, .inr (.byte, vs))) (hj : ¬ j < 0) (hjn : j.toNatClampNeg = jn) (hlt : jn < vs.length) (hx' : nar .byte x = x') (hV : V.set i (a, .inr (.byte, vs.set jn (.int x'))) = V') (hp : pc + 1 = q)
    (G : ∀ T', oX p l e R s m args below meth c Z T' V' cells slots fk → oG fb p e below s Z R Ret T' (mkF m q Ls st)) : oG fb p e below s Z R Ret T (mkF m pc Ls (.int x :: .int j :: .ref a :: st)) := by
  subst hp hV hjn hx'; obtain ⟨locs, c', s', q1, q2, ⟨vm0, k0, Y, hS, hk, hJ⟩, N, H⟩ := X
  have S := H.sat hi
  obtain ⟨cl, A, r1, r2⟩ := id S
  have hin : ¬ (j < 0 ∨ cl.slots.size ≤ j.toNatClampNeg) := fun z => z.elim hj fun y => by
    have r1' : cl.slots.toList = vs := r1
    rw [← r1', Array.length_toList] at hlt; omega
  obtain ⟨T', h', Y', e', W, k⟩ := stB Y E.1 (oWm E hS) rfl A hin (g := mkF m pc Ls (.int x :: .int j :: .ref a :: st)) rfl rfl (hb E.2.2.2.1 hd)
  subst e'
  exact (G T' ⟨_, c', s', q1, q2, ⟨vm0, k0, Y', hS, by rw [W.size]; exact hk, hJ⟩, Fr.snoc Y' N (H.ge hi), H.wr W hi (S.wrA W)⟩).step k
theorem gIastore (E : oE fb p l e R s m args below meth c Z bytes own nm maxL ret) (X : oX p l e R s m args below meth c Z T V cells slots fk) {i jn : Nat} {a : Addr} {vs : List Value} {j : Int32} {x x' : Int32} (hd : decode bytes pc = .ok (.iastore, 1))
    (hi : V[i]? = some (a, .inr (.int, vs))) (hj : ¬ j < 0) (hjn : j.toNatClampNeg = jn) (hlt : jn < vs.length) (hx' : x = x') (hV : V.set i (a, .inr (.int, vs.set jn (.int x'))) = V') (hp : pc + 1 = q)
    (G : ∀ T', oX p l e R s m args below meth c Z T' V' cells slots fk → oG fb p e below s Z R Ret T' (mkF m q Ls st)) : oG fb p e below s Z R Ret T (mkF m pc Ls (.int x :: .int j :: .ref a :: st)) := by
  subst hp hV hjn hx'; obtain ⟨locs, c', s', q1, q2, ⟨vm0, k0, Y, hS, hk, hJ⟩, N, H⟩ := X
  have S := H.sat hi
  obtain ⟨cl, A, r1, r2⟩ := id S
  have hin : ¬ (j < 0 ∨ cl.slots.size ≤ j.toNatClampNeg) := fun z => z.elim hj fun y => by
    have r1' : cl.slots.toList = vs := r1
    rw [← r1', Array.length_toList] at hlt; omega
  obtain ⟨T', h', Y', e', W, k⟩ := stI Y E.1 (oWm E hS) rfl A hin (g := mkF m pc Ls (.int x :: .int j :: .ref a :: st)) rfl rfl (hb E.2.2.2.1 hd)
  subst e'
  exact (G T' ⟨_, c', s', q1, q2, ⟨vm0, k0, Y', hS, by rw [W.size]; exact hk, hJ⟩, Fr.snoc Y' N (H.ge hi), H.wr W hi (S.wrA W)⟩).step k
theorem gLastore (E : oE fb p l e R s m args below meth c Z bytes own nm maxL ret) (X : oX p l e R s m args below meth c Z T V cells slots fk) {i jn : Nat} {a : Addr} {vs : List Value} {j : Int32} {x x' : Int64} (hd : decode bytes pc = .ok (.lastore, 1))
    (hi : V[i]? = some (a, .inr (.long, vs))) (hj : ¬ j < 0) (hjn : j.toNatClampNeg = jn) (hlt : jn < vs.length) (hx' : x = x') (hV : V.set i (a, .inr (.long, vs.set jn (.long x'))) = V') (hp : pc + 1 = q)
    (G : ∀ T', oX p l e R s m args below meth c Z T' V' cells slots fk → oG fb p e below s Z R Ret T' (mkF m q Ls st)) : oG fb p e below s Z R Ret T (mkF m pc Ls (.long x :: .int j :: .ref a :: st)) := by
  subst hp hV hjn hx'; obtain ⟨locs, c', s', q1, q2, ⟨vm0, k0, Y, hS, hk, hJ⟩, N, H⟩ := X
  have S := H.sat hi
  obtain ⟨cl, A, r1, r2⟩ := id S
  have hin : ¬ (j < 0 ∨ cl.slots.size ≤ j.toNatClampNeg) := fun z => z.elim hj fun y => by
    have r1' : cl.slots.toList = vs := r1
    rw [← r1', Array.length_toList] at hlt; omega
  obtain ⟨T', h', Y', e', W, k⟩ := stJ Y E.1 (oWm E hS) rfl A hin (g := mkF m pc Ls (.long x :: .int j :: .ref a :: st)) rfl rfl (hb E.2.2.2.1 hd)
  subst e'
  exact (G T' ⟨_, c', s', q1, q2, ⟨vm0, k0, Y', hS, by rw [W.size]; exact hk, hJ⟩, Fr.snoc Y' N (H.ge hi), H.wr W hi (S.wrA W)⟩).step k
theorem gCastore (E : oE fb p l e R s m args below meth c Z bytes own nm maxL ret) (X : oX p l e R s m args below meth c Z T V cells slots fk) {i jn : Nat} {a : Addr} {vs : List Value} {j : Int32} {x x' : Int32} (hd : decode bytes pc = .ok (.castore, 1))
    (hi : V[i]? = some (a, .inr (.char, vs))) (hj : ¬ j < 0) (hjn : j.toNatClampNeg = jn) (hlt : jn < vs.length) (hx' : nar .char x = x') (hV : V.set i (a, .inr (.char, vs.set jn (.int x'))) = V') (hp : pc + 1 = q)
    (G : ∀ T', oX p l e R s m args below meth c Z T' V' cells slots fk → oG fb p e below s Z R Ret T' (mkF m q Ls st)) : oG fb p e below s Z R Ret T (mkF m pc Ls (.int x :: .int j :: .ref a :: st)) := by
  subst hp hV hjn hx'; obtain ⟨locs, c', s', q1, q2, ⟨vm0, k0, Y, hS, hk, hJ⟩, N, H⟩ := X
  have S := H.sat hi
  obtain ⟨cl, A, r1, r2⟩ := id S
  have hin : ¬ (j < 0 ∨ cl.slots.size ≤ j.toNatClampNeg) := fun z => z.elim hj fun y => by
    have r1' : cl.slots.toList = vs := r1
    rw [← r1', Array.length_toList] at hlt; omega
  obtain ⟨T', h', Y', e', W, k⟩ := stC Y E.1 (oWm E hS) rfl A hin (g := mkF m pc Ls (.int x :: .int j :: .ref a :: st)) rfl rfl (hb E.2.2.2.1 hd)
  subst e'
  exact (G T' ⟨_, c', s', q1, q2, ⟨vm0, k0, Y', hS, by rw [W.size]; exact hk, hJ⟩, Fr.snoc Y' N (H.ge hi), H.wr W hi (S.wrA W)⟩).step k
/-! 7. calls -/
theorem oBack {y : MethodName} {bs : ByteArray} {mx : Nat} {rt : Option FieldType} {rm : Room} {as' : Array Value} {Ret' : Option Value → oVw → Prop} {W len k0 : Nat} {vm0 : Vm} (E : oE fb p l e R s m args below meth c Z bytes own nm maxL ret) (K : oCon fc l Z y bs mx rt rm as' V Ret') {h : Heap} (H : oHv Z h V) (hS : s.Since vm0 k0)
    (wc : (Jvm.Cond.code y bs mx rt).before a0 Z = true) (wz : (Jvm.Cond.initialized y.cls).before a0 Z = true) (hf : rm.frames + 1 ≤ R.frames) (hl : W + (mx + 11) + rm.locals ≤ R.locals) :
    BackS l R p e below (s.setVm vm0) args y len W (fun A a => a = as' ∧ A.U.heap = h ∧ A.cells + rm.cells ≤ R.cells ∧ A.slots + rm.slots ≤ R.slots ∧ (fc = true → A.U.vm.interned = Z.vm.interned)) (fun A _ v B => ∃ L, (Fr Z.heap.size L ∧ ∃ V', Ret' v V' ∧ oHv Z B.U.heap V') ∧ B.locs = A.locs ++ L ∧ B.cells = A.cells + rm.cells ∧ B.slots = A.slots + rm.slots ∧ (fc = false → B.U.vm.interned = A.U.vm.interned)) :=
  BackS.of_freeW (bytes := bs) (maxL := mx) (ret := rt) (E := fun _ first o t L k n => k = rm.cells ∧ n = rm.slots ∧ (∃ v, o = .returned v ∧ (Fr Z.heap.size L ∧ ∃ V', Ret' v V' ∧ oHv Z t.heap V')) ∧ (fc = false → t.vm.interned = first.vm.interned)) (K [] h H) hf hl
    (fun m meth c A a Y hp => have hU : Z.Warmed39 A.U.vm := wtrans (s := s.setVm vm0) (oWm E hS) Y.warmed
      ⟨by show (Jvm.Cond.and _ .tt).before a A.U = true; rw [Cond.before_and, mv hU wc]; rfl, mv hU wc, mv hU wz, hp.2.2.1, hp.2.2.2.1⟩)
    (fun m meth c A a g mk Y hp => ⟨hp.1, wtrans (s := s.setVm vm0) (oWm E hS) Y.warmed, hp.2.1, hp.2.2.2.2⟩) (fun _ _ _ _ _ _ _ _ _ => trivial)
    (fun _ _ _ _ ⟨v, L, h1, h2, h3, h4⟩ => ⟨L, _, _, h3, rfl, rfl, ⟨v, h1, h2⟩, h4⟩)
    (fun m meth c A a g mk v t L k n Y hp _ _ ⟨e1, e2, ⟨v', e3, e4⟩, e5⟩ => by cases e3; subst e1 e2; exact ⟨L, e4, rfl, rfl, rfl, e5⟩)
theorem gCallS (E : oE fb p l e R s m args below meth c Z bytes own nm maxL ret) (X : oX p l e R s m args below meth c Z T V cells slots fk) {y : MethodName} {index : Nat} {bs : ByteArray} {mx : Nat} {rt : Option FieldType} {rm : Room} {Ret' : Option Value → oVw → Prop} {W : Nat} {ps : List FieldType} {r : Option FieldType} (argsL rest : List Value) (hd : decode bytes pc = .ok (.invokestatic index, 3))
    (w1 : (Jvm.Cond.methodLink own index y).before a0 Z = true) (w2 : (Jvm.Cond.static y).before a0 Z = true) (w3 : (Jvm.Cond.initialized y.cls).before a0 Z = true) (w4 : (Jvm.Cond.code y bs mx rt).before a0 Z = true) (hy : y.cls ≠ "java/lang/invoke/MethodHandle" ∧ y.cls ≠ "java/lang/invoke/VarHandle")
    (K : oCon fc l Z y bs mx rt rm argsL.toArray V Ret') (hds : parseMethodDescriptor y.desc = some ⟨ps, r⟩) (hlen : argsL.length = ps.length) (hst : st = argsL.reverse ++ rest) (hsz : Ls.size = maxL) (hf : rm.frames + 1 ≤ R.frames) (hW : (rest.map fun v => v.category).sum ≤ W) (hl : W + (mx + 11) + rm.locals ≤ R.locals)
    (hc : cells + rm.cells ≤ c2) (hs : slots + rm.slots ≤ s2) (hc2 : c2 ≤ R.cells) (hs2 : s2 ≤ R.slots) (hB : fc = true → fk = true ∧ fb = true) (hp : pc + 3 = q)
    (G : ∀ T' v V', Ret' v V' → oX p l e R s m args below meth c Z T' V' c2 s2 (fk && !fc) → oG fb p e below s Z R Ret T' (mkF m q Ls (v.toList ++ rest))) : oG fb p e below s Z R Ret T (mkF m pc Ls st) := by
  subst hp; obtain ⟨locs, c', s', q1, q2, ⟨vm0, k0, Y, hS, hk, hJ⟩, N, H⟩ := X
  obtain ⟨v, vm₁, ⟨T', L', k', n'⟩, hw1, Y', hS2, hg2, ⟨Lc, ⟨hN, V', hR, hV⟩, l', y', z', hJ2⟩, k⟩ := Jvm.RoadKit.callSS Y E.1 (y := y) (oOw E hS) (mvT (oWm E hS) w1) (mvT (oWm E hS) w2) (mvT (oWm E hS) w3) (mvT (oWm E hS) w4) hy (oBack (W := W) E K H hS w4 w3 hf hl) (g := mkF m pc Ls st) rfl (by rw [E.2.2.2.2.1]; exact hsz) (argsL := argsL) (rest := rest) (lenOf hds hlen) hst (by show 2 * 0 + _ ≤ _; omega) (hb E.2.2.2.1 hd) (fun vmq hwq => ⟨rfl, rfl, by dsimp only [Pt.cells]; omega, by dsimp only [Pt.slots]; omega, fun hq => hwq.interned_eq.trans ((hJ (hB hq).1).trans (E.2.2.2.2.2.2.2.2 (hB hq).2))⟩)
  dsimp only [Pt.U, Pt.locs, Pt.cells, Pt.slots] at Y' hS2 hg2 l' y' z' k hV hJ2
  subst l' y' z'
  exact (G T' v V' hR ⟨_, _, _, by omega, by omega, ⟨_, _, Y', hS.trans hS2 (Nat.le_trans hk hg2), Nat.le_refl _, fun hq => (hJ2 (by revert hq; cases fk <;> cases fc <;> simp)).trans (hw1.interned_eq.trans (hJ (by revert hq; cases fk <;> cases fc <;> simp)))⟩, Fr.app N hN, hV⟩).steps k
theorem gCallI (E : oE fb p l e R s m args below meth c Z bytes own nm maxL ret) (X : oX p l e R s m args below meth c Z T V cells slots fk) {y : MethodName} {index : Nat} {bs : ByteArray} {mx : Nat} {rm : Room} {Ret' : Option Value → oVw → Prop} {W : Nat} {ps : List FieldType} {r : Option FieldType} {a : Addr} (argsL rest : List Value) (hd : decode bytes pc = .ok (.invokespecial index, 3)) (hy1 : y.name = "<init>")
    (w1 : (Jvm.Cond.methodLink own index y).before a0 Z = true) (w2 : (Jvm.Cond.instanceMethod y).before a0 Z = true) (w3 : (Jvm.Cond.initialized y.cls).before a0 Z = true) (w4 : (Jvm.Cond.code y bs mx none).before a0 Z = true) (hy : y.cls ≠ "java/lang/invoke/MethodHandle" ∧ y.cls ≠ "java/lang/invoke/VarHandle")
    (K : oCon fc l Z y bs mx none rm (.ref a :: argsL).toArray V Ret') (hds : parseMethodDescriptor y.desc = some ⟨ps, r⟩) (hlen : argsL.length = ps.length) (hst : st = argsL.reverse ++ .ref a :: rest) (hsz : Ls.size = maxL) (hf : rm.frames + 1 ≤ R.frames) (hW : (rest.map fun v => v.category).sum ≤ W) (hl : W + (mx + 11) + rm.locals ≤ R.locals)
    (hc : cells + rm.cells ≤ c2) (hs : slots + rm.slots ≤ s2) (hc2 : c2 ≤ R.cells) (hs2 : s2 ≤ R.slots) (hB : fc = true → fk = true ∧ fb = true) (hp : pc + 3 = q)
    (G : ∀ T' v V', Ret' v V' → oX p l e R s m args below meth c Z T' V' c2 s2 (fk && !fc) → oG fb p e below s Z R Ret T' (mkF m q Ls (v.toList ++ rest))) : oG fb p e below s Z R Ret T (mkF m pc Ls st) := by
  subst hp; obtain ⟨locs, c', s', q1, q2, ⟨vm0, k0, Y, hS, hk, hJ⟩, N, H⟩ := X
  obtain ⟨v, vm₁, ⟨T', L', k', n'⟩, hw1, Y', hS2, hg2, ⟨Lc, ⟨hN, V', hR, hV⟩, l', y', z', hJ2⟩, k⟩ := Y.specialBackS E.1 (y := y) hy1 (oOw E hS) (mvT (oWm E hS) w1) (mvT (oWm E hS) w2) (mvT (oWm E hS) w4) hy (oBack (W := W) E K H hS w4 w3 hf hl) (g := mkF m pc Ls st) rfl (by rw [E.2.2.2.2.1]; exact hsz) (Steps.refl _) (a := a) (argsL := argsL) (rest := rest) (lenOf hds hlen) hst (by show 2 * 0 + _ ≤ _; omega) (hb E.2.2.2.1 hd) (fun vmq hwq => ⟨rfl, rfl, by dsimp only [Pt.cells]; omega, by dsimp only [Pt.slots]; omega, fun hq => hwq.interned_eq.trans ((hJ (hB hq).1).trans (E.2.2.2.2.2.2.2.2 (hB hq).2))⟩)
  dsimp only [Pt.U, Pt.locs, Pt.cells, Pt.slots] at Y' hS2 hg2 l' y' z' k hV hJ2
  subst l' y' z'
  exact (G T' v V' hR ⟨_, _, _, by omega, by omega, ⟨_, _, Y', hS.trans hS2 (Nat.le_trans hk hg2), Nat.le_refl _, fun hq => (hJ2 (by revert hq; cases fk <;> cases fc <;> simp)).trans (hw1.interned_eq.trans (hJ (by revert hq; cases fk <;> cases fc <;> simp)))⟩, Fr.app N hN, hV⟩).steps k
theorem gCallV (E : oE fb p l e R s m args below meth c Z bytes own nm maxL ret) (X : oX p l e R s m args below meth c Z T V cells slots fk) {y z : MethodName} {C : String} {index i : Nat} {bs : ByteArray} {mx : Nat} {rt : Option FieldType} {rm : Room} {Ret' : Option Value → oVw → Prop} {W : Nat} {ps : List FieldType} {r : Option FieldType} {a : Addr} {fs : List (String × String × String × Value)} (argsL rest : List Value) (hd : decode bytes pc = .ok (.invokevirtual index, 3)) (hi : V[i]? = some (a, .inl (C, fs)))
    (w1 : (Jvm.Cond.methodLink own index y).before a0 Z = true) (w2 : (Jvm.Cond.declares y).before a0 Z = true) (w5 : (Jvm.Cond.selects C y z).before a0 Z = true) (w6 : (Jvm.Cond.selects y.cls y y).before a0 Z = true) (w7 : (Jvm.Cond.instanceMethod z).before a0 Z = true) (w3 : (Jvm.Cond.initialized z.cls).before a0 Z = true) (w4 : (Jvm.Cond.code z bs mx rt).before a0 Z = true) (hy : y.cls ≠ "java/lang/invoke/MethodHandle" ∧ y.cls ≠ "java/lang/invoke/VarHandle")
    (K : oCon fc l Z z bs mx rt rm (.ref a :: argsL).toArray V Ret') (hds : parseMethodDescriptor y.desc = some ⟨ps, r⟩) (hlen : argsL.length = ps.length) (hst : st = argsL.reverse ++ .ref a :: rest) (hsz : Ls.size = maxL) (hf : rm.frames + 1 ≤ R.frames) (hW : (rest.map fun v => v.category).sum ≤ W) (hl : W + (mx + 11) + rm.locals ≤ R.locals)
    (hc : cells + rm.cells ≤ c2) (hs : slots + rm.slots ≤ s2) (hc2 : c2 ≤ R.cells) (hs2 : s2 ≤ R.slots) (hB : fc = true → fk = true ∧ fb = true) (hp : pc + 3 = q)
    (G : ∀ T' v V', Ret' v V' → oX p l e R s m args below meth c Z T' V' c2 s2 (fk && !fc) → oG fb p e below s Z R Ret T' (mkF m q Ls (v.toList ++ rest))) : oG fb p e below s Z R Ret T (mkF m pc Ls st) := by
  subst hp; obtain ⟨locs, c', s', q1, q2, ⟨vm0, k0, Y, hS, hk, hJ⟩, N, H⟩ := X
  obtain ⟨cq, kq, qa, qb, qc⟩ := isOf (oWm E hS) (T := T) rfl (H.sat hi).1
  obtain ⟨v, vm₁, ⟨T', L', k', n'⟩, hw1, Y', hS2, hg2, ⟨Lc, ⟨hN, V', hR, hV⟩, l', y', z', hJ2⟩, k⟩ := Y.virtualBackS E.1 (y := y) (z := z) (oOw E hS) (mvT (oWm E hS) w1) (mvT (oWm E hS) w2) (notFace_of_selects (args := #[]) (mvT (oWm E hS) w6)) (mvT (oWm E hS) w5) (mvT (oWm E hS) w7) hy (oBack (W := W) E K H hS w4 w3 hf hl) qa qc (g := mkF m pc Ls st) rfl (by rw [E.2.2.2.2.1]; exact hsz) (Steps.refl _) (argsL := argsL) (rest := rest) (lenOf hds hlen) hst (by show 2 * 0 + _ ≤ _; omega) (hb E.2.2.2.1 hd) (fun vmq hwq => ⟨rfl, rfl, by dsimp only [Pt.cells]; omega, by dsimp only [Pt.slots]; omega, fun hq => hwq.interned_eq.trans ((hJ (hB hq).1).trans (E.2.2.2.2.2.2.2.2 (hB hq).2))⟩)
  dsimp only [Pt.U, Pt.locs, Pt.cells, Pt.slots] at Y' hS2 hg2 l' y' z' k hV hJ2
  subst l' y' z'
  exact (G T' v V' hR ⟨_, _, _, by omega, by omega, ⟨_, _, Y', hS.trans hS2 (Nat.le_trans hk hg2), Nat.le_refl _, fun hq => (hJ2 (by revert hq; cases fk <;> cases fc <;> simp)).trans (hw1.interned_eq.trans (hJ (by revert hq; cases fk <;> cases fc <;> simp)))⟩, Fr.app N hN, hV⟩).steps k
theorem gCallF (E : oE fb p l e R s m args below meth c Z bytes own nm maxL ret) (X : oX p l e R s m args below meth c Z T V cells slots fk) {y z : MethodName} {C : String} {index i cnt : Nat} {bs : ByteArray} {mx : Nat} {rt : Option FieldType} {rm : Room} {Ret' : Option Value → oVw → Prop} {W : Nat} {ps : List FieldType} {r : Option FieldType} {a : Addr} {fs : List (String × String × String × Value)} (argsL rest : List Value) (hd : decode bytes pc = .ok (.invokeinterface index cnt, 5)) (hi : V[i]? = some (a, .inl (C, fs)))
    (w1 : (Jvm.Cond.methodLink own index y).before a0 Z = true) (w2 : (Jvm.Cond.declares y).before a0 Z = true) (w5 : (Jvm.Cond.selects C y z).before a0 Z = true) (w6 : (Jvm.Cond.interfaceMethod y.cls y.cls y.name y.desc).before a0 Z = true) (w8 : (Jvm.Cond.publicMethod z).before a0 Z = true) (w9 : (Jvm.Cond.unhidden C y.name y.desc).before a0 Z = true) (w10 : (Jvm.Cond.castable C y.cls).before a0 Z = true) (w7 : (Jvm.Cond.instanceMethod z).before a0 Z = true) (w3 : (Jvm.Cond.initialized z.cls).before a0 Z = true) (w4 : (Jvm.Cond.code z bs mx rt).before a0 Z = true) (hy : y.cls ≠ "java/lang/invoke/MethodHandle" ∧ y.cls ≠ "java/lang/invoke/VarHandle")
    (K : oCon fc l Z z bs mx rt rm (.ref a :: argsL).toArray V Ret') (hds : parseMethodDescriptor y.desc = some ⟨ps, r⟩) (hlen : argsL.length = ps.length) (hst : st = argsL.reverse ++ .ref a :: rest) (hsz : Ls.size = maxL) (hf : rm.frames + 1 ≤ R.frames) (hW : (rest.map fun v => v.category).sum ≤ W) (hl : W + (mx + 11) + rm.locals ≤ R.locals)
    (hc : cells + rm.cells ≤ c2) (hs : slots + rm.slots ≤ s2) (hc2 : c2 ≤ R.cells) (hs2 : s2 ≤ R.slots) (hB : fc = true → fk = true ∧ fb = true) (hp : pc + 5 = q)
    (G : ∀ T' v V', Ret' v V' → oX p l e R s m args below meth c Z T' V' c2 s2 (fk && !fc) → oG fb p e below s Z R Ret T' (mkF m q Ls (v.toList ++ rest))) : oG fb p e below s Z R Ret T (mkF m pc Ls st) := by
  subst hp; obtain ⟨locs, c', s', q1, q2, ⟨vm0, k0, Y, hS, hk, hJ⟩, N, H⟩ := X
  obtain ⟨cq, kq, qa, qb, qc⟩ := isOf (oWm E hS) (T := T) rfl (H.sat hi).1
  obtain ⟨v, vm₁, ⟨T', L', k', n'⟩, hw1, Y', hS2, hg2, ⟨Lc, ⟨hN, V', hR, hV⟩, l', y', z', hJ2⟩, k⟩ := Y.interfaceBackS E.1 (xi := y) (y := z) (oOw E hS) (mvT (oWm E hS) w1) (mvT (oWm E hS) w2) (mvT (oWm E hS) w6 (by simp [Cond.onTables, Cond.keepsFace, Cond.keeps, Cond.steady, Cond.faceAtom, hy.1, hy.2])) (mvT (oWm E hS) w5) (mvT (oWm E hS) w7) (mvT (oWm E hS) w8) (mvT (oWm E hS) w9) (mvT (oWm E hS) w10) hy (oBack (W := W) E K H hS w4 w3 hf hl) qa qb qc (g := mkF m pc Ls st) rfl (by rw [E.2.2.2.2.1]; exact hsz) (Steps.refl _) (argsL := argsL) (rest := rest) (lenOf hds hlen) hst (by show 2 * 0 + _ ≤ _; omega) (hb E.2.2.2.1 hd) (fun vmq hwq => ⟨rfl, rfl, by dsimp only [Pt.cells]; omega, by dsimp only [Pt.slots]; omega, fun hq => hwq.interned_eq.trans ((hJ (hB hq).1).trans (E.2.2.2.2.2.2.2.2 (hB hq).2))⟩)
  dsimp only [Pt.U, Pt.locs, Pt.cells, Pt.slots] at Y' hS2 hg2 l' y' z' k hV hJ2
  subst l' y' z'
  exact (G T' v V' hR ⟨_, _, _, by omega, by omega, ⟨_, _, Y', hS.trans hS2 (Nat.le_trans hk hg2), Nat.le_refl _, fun hq => (hJ2 (by revert hq; cases fk <;> cases fc <;> simp)).trans (hw1.interned_eq.trans (hJ (by revert hq; cases fk <;> cases fc <;> simp)))⟩, Fr.app N hN, hV⟩).steps k
theorem gCallV0 (E : oE fb p l e R s m args below meth c Z bytes own nm maxL ret) (X : oX p l e R s m args below meth c Z T V cells slots fk) {y z : MethodName} {C : String} {index : Nat} {bs : ByteArray} {mx : Nat} {rt : Option FieldType} {rm : Room} {Ret' : Option Value → oVw → Prop} {W : Nat} {ps : List FieldType} {r : Option FieldType} {a : Addr} (argsL rest : List Value) (hd : decode bytes pc = .ok (.invokevirtual index, 3)) (hE : Exa Z Z.heap a C)
    (w1 : (Jvm.Cond.methodLink own index y).before a0 Z = true) (w2 : (Jvm.Cond.declares y).before a0 Z = true) (w5 : (Jvm.Cond.selects C y z).before a0 Z = true) (w6 : (Jvm.Cond.selects y.cls y y).before a0 Z = true) (w7 : (Jvm.Cond.instanceMethod z).before a0 Z = true) (w3 : (Jvm.Cond.initialized z.cls).before a0 Z = true) (w4 : (Jvm.Cond.code z bs mx rt).before a0 Z = true) (hy : y.cls ≠ "java/lang/invoke/MethodHandle" ∧ y.cls ≠ "java/lang/invoke/VarHandle")
    (K : oCon fc l Z z bs mx rt rm (.ref a :: argsL).toArray V Ret') (hds : parseMethodDescriptor y.desc = some ⟨ps, r⟩) (hlen : argsL.length = ps.length) (hst : st = argsL.reverse ++ .ref a :: rest) (hsz : Ls.size = maxL) (hf : rm.frames + 1 ≤ R.frames) (hW : (rest.map fun v => v.category).sum ≤ W) (hl : W + (mx + 11) + rm.locals ≤ R.locals)
    (hc : cells + rm.cells ≤ c2) (hs : slots + rm.slots ≤ s2) (hc2 : c2 ≤ R.cells) (hs2 : s2 ≤ R.slots) (hB : fc = true → fk = true ∧ fb = true) (hp : pc + 3 = q)
    (G : ∀ T' v V', Ret' v V' → oX p l e R s m args below meth c Z T' V' c2 s2 (fk && !fc) → oG fb p e below s Z R Ret T' (mkF m q Ls (v.toList ++ rest))) : oG fb p e below s Z R Ret T (mkF m pc Ls st) := by
  subst hp; obtain ⟨locs, c', s', q1, q2, ⟨vm0, k0, Y, hS, hk, hJ⟩, N, H⟩ := X
  obtain ⟨cq, kq, qa, qb, qc⟩ := isOf (oWm E hS) (T := T) rfl (hE.ext H.1)
  obtain ⟨v, vm₁, ⟨T', L', k', n'⟩, hw1, Y', hS2, hg2, ⟨Lc, ⟨hN, V', hR, hV⟩, l', y', z', hJ2⟩, k⟩ := Y.virtualBackS E.1 (y := y) (z := z) (oOw E hS) (mvT (oWm E hS) w1) (mvT (oWm E hS) w2) (notFace_of_selects (args := #[]) (mvT (oWm E hS) w6)) (mvT (oWm E hS) w5) (mvT (oWm E hS) w7) hy (oBack (W := W) E K H hS w4 w3 hf hl) qa qc (g := mkF m pc Ls st) rfl (by rw [E.2.2.2.2.1]; exact hsz) (Steps.refl _) (argsL := argsL) (rest := rest) (lenOf hds hlen) hst (by show 2 * 0 + _ ≤ _; omega) (hb E.2.2.2.1 hd) (fun vmq hwq => ⟨rfl, rfl, by dsimp only [Pt.cells]; omega, by dsimp only [Pt.slots]; omega, fun hq => hwq.interned_eq.trans ((hJ (hB hq).1).trans (E.2.2.2.2.2.2.2.2 (hB hq).2))⟩)
  dsimp only [Pt.U, Pt.locs, Pt.cells, Pt.slots] at Y' hS2 hg2 l' y' z' k hV hJ2
  subst l' y' z'
  exact (G T' v V' hR ⟨_, _, _, by omega, by omega, ⟨_, _, Y', hS.trans hS2 (Nat.le_trans hk hg2), Nat.le_refl _, fun hq => (hJ2 (by revert hq; cases fk <;> cases fc <;> simp)).trans (hw1.interned_eq.trans (hJ (by revert hq; cases fk <;> cases fc <;> simp)))⟩, Fr.app N hN, hV⟩).steps k
theorem oHv.ext {Z : State} {h h' : Heap} {V : oVw} (H : oHv Z h V) (E : Ext h h') : oHv Z h' V := ⟨⟨Nat.le_trans H.1.1 E.1, fun a c q => E.2 _ _ (H.1.2 _ _ q)⟩, H.2.1, fun x hx => ⟨(H.2.2 x hx).1, (H.2.2 x hx).2.ext E⟩⟩
/-- the first load of "", its field value read, and written into the object at i -/
theorem gEmpty1 (E : oE true p l e R s m args below meth c Z bytes own nm maxL ret) (X : oX p l e R s m args below meth c Z T V cells slots true) {index ix2 i j kz : Nat} {a : Addr} {fs : List (String × String × String × Value)} {C : String} (hd : decode bytes pc = .ok (.ldc index, 2)) (hd2 : decode bytes (pc + 2) = .ok (.getfield ix2, 3)) (hd3 : decode bytes (pc + 2 + 3) = .ok (.putfield ix2, 3))
    (w : (Jvm.Cond.stringLink own index "").before a0 Z = true) (wS : ∀ a ∈ Bundle.stringAtoms, a.before a0 Z = true) (hh : Jvm.Lit.constHeld Z own index) (hcw : Jvm.Lit.compactW.before a0 Z = true)
    (w2 : (Jvm.Cond.fieldLink own ix2 "java/lang/String" "value" "[B").before a0 Z = true) (hi : V[i]? = some (a, .inl (C, fs))) (hj : fs[j]? = some ("java/lang/String", "value", "[B", .null)) (L : (Jvm.Cond.lays C "java/lang/String" "value" "[B").before a0 Z = true ∨ ((Jvm.Cond.laysFinal C "java/lang/String" "value" "[B").before a0 Z = true ∧ own = "java/lang/String" ∧ nm = "<init>")) (wi : (Jvm.Cond.instantiable C kz).before a0 Z = true) (hO : T.heap = s.heap)
    (hc : cells + 2 ≤ c2) (hs : slots + 4 ≤ s2) (hc2 : c2 ≤ R.cells) (hs2 : s2 ≤ R.slots) (hp : pc + 8 = q)
    (G : ∀ T' sa b, oX p l e R s m args below meth c Z T' (V.set i (a, .inl (C, fs.set j ("java/lang/String", "value", "[B", .ref b)))) c2 s2 false → Fld Z T'.heap sa "java/lang/String" "coder" "B" (.int 0) → Lit (s.setVm T'.vm) own index sa → oG true p e below s Z R Ret T' (mkF m q Ls st)) : oG true p e below s Z R Ret T (mkF m pc Ls (.ref a :: st)) := by
  subst hp; obtain ⟨locs, c', s', q1, q2, ⟨vm0, k0, Y, hS, hk, hJ⟩, N, H⟩ := X
  have Y0 : Stand p l e R (s.setVm vm0) m args below meth c T [] c' s' := { Y with same := ⟨Y.same.1, Y.same.2.1, Y.same.2.2.1, Y.same.2.2.2.1, Y.same.2.2.2.2.1, fun a cl q => ⟨cl, by show T.heap[a]? = some cl; rw [hO]; exact q, rfl, rfl, fun _ _ => rfl⟩⟩ }
  have I : IB Z vm0 [] := ⟨#[], by rw [hJ rfl, E.2.2.2.2.2.2.2.2 rfl]; simp, fun q hq => by simp at hq⟩
  obtain ⟨sa, T1, h1, k1, b, kb, Y1, e1, Ex, hS1, hk1, -, -, hE1, F1, F2, -, -, -, -, Lt, st1⟩ := ldcSVL Y0 E.1 (oWm E hS) (oOw E hS) w wS rfl hS hk (Fr.nil _) (fun b cl q => hO ▸ H.1.2 b cl q) I (by simp) hh hcw (vs := []) (z := 0) ⟨by simp, rfl⟩ (by decide) rfl (g := mkF m pc Ls (.ref a :: st)) rfl (hb E.2.2.2.1 hd) (n := 0) (by decide) (by decide) (by omega) (by omega)
  subst e1
  have H1 := H.ext Ex
  have S := H1.sat hi
  have Fa := S.2.2 _ (List.mem_of_getElem? hj)
  have ne : sa ≠ a := Fld.ne F2 Fa (by simp)
  have hZ1 : Z.Warmed39 (s.setVm T1.vm).vm := oWm E hS1
  have ho1 : (s.setVm T1.vm).vm.findClass own = some m.cls := oOw E hS1
  obtain ⟨T2, Y2, e2, st2⟩ := getF Y1 E.1 hZ1 ho1 (host := "") (Or.inl w2) Via.refl rfl F2 (g := mkF m (pc + 2) Ls (.ref sa :: .ref a :: st)) rfl rfl (hb E.2.2.2.1 hd2)
  obtain ⟨T3, h3, Y3, e3, W, st3⟩ := putF Y2 E.1 hZ1 ho1 (host := "") (Or.inl w2) Via.refl rfl (e2 ▸ Fa) (e2 ▸ S.1) (L.imp id fun z => ⟨z.1, z.2.1, E.2.2.2.2.2.2.1.trans z.2.2⟩) wi (ty := .array .byte) (v := .ref b) (by decide) rfl rfl (g := mkF m (pc + 2 + 3) Ls (.ref b :: .ref a :: st)) rfl rfl (hb E.2.2.2.1 hd3)
  subst e3
  have W' : Wr T1.heap T3.heap a (Jvm.RoadKit.slotOf Z "java/lang/String" "value" "[B") (.ref b) := e2 ▸ W
  refine ((((G T3 sa b ⟨_, _, _, by omega, by omega, ⟨_, _, Y3, hS1, by rw [W'.size]; exact hk1, fun z => by cases z⟩, Fr.snoc Y3 (Fr.nil _) (H.ge hi), H1.wr W' hi (S.wrF hj W')⟩ (F1.other W' (Or.inl ne)) (Lit.stays Lt Y3.warmed.wide)).step st3).step st2).step st1)
theorem gInitOH (E : oE fb p l e R s m args below meth c Z bytes own nm maxL ret) (X : oX p l e R s m args below meth c Z T V cells slots fk) {index : Nat} {a : Addr} {W : Nat} (hd : decode bytes pc = .ok (.invokespecial index, 3))
    (w1 : (Jvm.Cond.methodLink own index Lib.objectInit).before a0 Z = true) (w2 : (Jvm.Cond.instanceMethod Lib.objectInit).before a0 Z = true) (w3 : (Jvm.Cond.code Lib.objectInit ⟨#[0xb1]⟩ 1 none).before a0 Z = true) (hsz : Ls.size = maxL) (hf : 1 ≤ R.frames) (hW : (st.map fun v => v.category).sum ≤ W) (hl : W + 12 ≤ R.locals) (hp : pc + 3 = q)
    (G : ∀ T', oX p l e R s m args below meth c Z T' V cells slots fk → T'.heap = T.heap → oG fb p e below s Z R Ret T' (mkF m q Ls st)) : oG fb p e below s Z R Ret T (mkF m pc Ls (.ref a :: st)) := by
  subst hp; obtain ⟨locs, c', s', q1, q2, ⟨vm0, k0, Y, hS, hk, hJ⟩, N, H⟩ := X
  obtain ⟨T', Y', e', k⟩ := initO Y E.1 (oWm E hS) (oOw E hS) w1 w2 w3 rfl (g := mkF m pc Ls (.ref a :: st)) rfl (by rw [E.2.2.2.2.1]; exact hsz) rfl (hb E.2.2.2.1 hd) hf (W := W) (by show 2 * 0 + _ ≤ _; omega) hl
  exact (G T' ⟨locs, c', s', q1, q2, ⟨vm0, k0, Y', hS, by rw [e']; exact hk, hJ⟩, N, e' ▸ H⟩ e').step k
theorem gGetSN (E : oE fb p l e R s m args below meth c Z bytes own nm maxL ret) (X : oX p l e R s m args below meth c Z T V cells slots fk) {R0 O n d host : String} {index : Nat} {v : Value} (hd : decode bytes pc = .ok (.getstatic index, 3))
    (w : (Jvm.Cond.fieldLinkNest own index R0 n d host).before a0 Z = true) (via : Via Z R0 O n d) (F : Sta Z Z.heap O n d v) (hp : pc + 3 = q)
    (G : ∀ T', oX p l e R s m args below meth c Z T' V cells slots fk → oG fb p e below s Z R Ret T' (mkF m q Ls (v :: st))) : oG fb p e below s Z R Ret T (mkF m pc Ls st) := by
  subst hp; obtain ⟨locs, c', s', q1, q2, ⟨vm0, k0, Y, hS, hk, hJ⟩, N, H⟩ := X
  obtain ⟨T', Y', e', k⟩ := getS2 Y E.1 (oWm E hS) (oOw E hS) (host := host) (Or.inr w) via rfl (F.ext H.1) (g := mkF m pc Ls st) rfl (hb E.2.2.2.1 hd)
  exact (G T' ⟨locs, c', s', q1, q2, ⟨vm0, k0, Y', hS, by rw [e']; exact hk, hJ⟩, N, e' ▸ H⟩).step k
theorem oEnterH {y : MethodName} {as' : Array Value} {rm : Room} (hpl : plainFor y = true) (hent : ∀ m, entryFrame m as' maxL = mkF m 0 Ls [])
    (body : ∀ p e s m below meth c T, oE fb p l e rm s m as' below meth c Z bytes y.cls y.name maxL ret → oX p l e rm s m as' below meth c Z T V 0 0 true → T.heap = s.heap → oG fb p e below s Z rm Ret T (mkF m 0 Ls [])) :
    oCon fb l Z y bytes maxL ret rm as' V Ret := by
  intro ws h0 H
  refine MetFree.of_bodySF hpl hisR ?_
  intro p e s m args below meth c s₁ Bd hml0 hP hK
  obtain ⟨rfl, hZ, hh, hI⟩ := hP
  have e0 : s₁.heap = h0 := by rw [← hh, Bd.state]; rfl
  have G := body p e s m below meth c s₁ ⟨Bd.exec, hZ, findClass_of_methodNamed Bd.named, Bd.bytes, hml0, Bd.returns, (name_of_methodNamed Bd.named Bd.method).1, BodyLoose.notSynchronized Bd, hI⟩ ⟨[], 0, 0, Nat.le_refl _, Nat.le_refl _, ⟨s.vm, 0, (Stand.of_body Bd : Stand p l e rm (s.setVm s.vm) m _ below meth c s₁ [] 0 0), (State.WarmedH.refl s).since 0, Nat.zero_le _, fun _ => rfl⟩, Fr.nil _, e0 ▸ H⟩ (e0.trans hh.symm)
  obtain ⟨t, o, h1, r⟩ := G
  exact ⟨t, o, castTop (hent m) h1, r⟩
theorem gLdcA (E : oE fb p l e R s m args below meth c Z bytes own nm maxL ret) (X : oX p l e R s m args below meth c Z T V cells slots fk) {index : Nat} {sa : Addr} {text : String} (hd : decode bytes pc = .ok (.ldc index, 2)) (w : (Jvm.Cond.stringLink own index text).before a0 Z = true) (L : Lit (s.setVm T.vm) own index sa) (hp : pc + 2 = q)
    (G : oG fb p e below s Z R Ret T (mkF m q Ls (.ref sa :: st))) : oG fb p e below s Z R Ret T (mkF m pc Ls st) := by
  subst hp; obtain ⟨locs, c', s', q1, q2, ⟨vm0, k0, Y, hS, hk, hJ⟩, N, H⟩ := X
  have Y2 : Stand p l e R (s.setVm T.vm) m args below meth c T locs c' s' := Y.retabled Y.warmed.wide
  have hS2 : s.Since T.vm T.heap.size := hS.trans (Y.warmed.since _) hk
  have hZ2 : Z.Warmed39 (s.setVm T.vm).vm := oWm E hS2
  have ho2 : (s.setVm T.vm).vm.findClass own = some m.cls := oOw E hS2
  exact G.step (ldcAgain Y2 E.1 hZ2 ho2 w L (g := mkF m pc Ls st) rfl (hb E.2.2.2.1 hd))
theorem gGetFT (E : oE fb p l e R s m args below meth c Z bytes own nm maxL ret) (X : oX p l e R s m args below meth c Z T V cells slots fk) {R0 O n d : String} {index : Nat} {a : Addr} {v : Value} (hd : decode bytes pc = .ok (.getfield index, 3))
    (w : (Jvm.Cond.fieldLink own index R0 n d).before a0 Z = true) (via : Via Z R0 O n d) (F : Fld Z T.heap a O n d v) (hp : pc + 3 = q)
    (G : ∀ T', oX p l e R s m args below meth c Z T' V cells slots fk → oG fb p e below s Z R Ret T' (mkF m q Ls (v :: st))) : oG fb p e below s Z R Ret T (mkF m pc Ls (.ref a :: st)) := by
  subst hp; obtain ⟨locs, c', s', q1, q2, ⟨vm0, k0, Y, hS, hk, hJ⟩, N, H⟩ := X
  obtain ⟨T', Y', e', k⟩ := getF Y E.1 (oWm E hS) (oOw E hS) (host := "") (Or.inl w) via rfl F (g := mkF m pc Ls (.ref a :: st)) rfl rfl (hb E.2.2.2.1 hd)
  exact (G T' ⟨locs, c', s', q1, q2, ⟨vm0, k0, Y', hS, by rw [e']; exact hk, hJ⟩, N, e' ▸ H⟩).step k
end Walk

theorem oRemEq (x y : Int32) : x - x / y * y = x % y := by
  apply Int32.toInt_inj.mp
  rw [Int32.toInt_sub, Int32.toInt_mul, Int32.toInt_div, Int32.toInt_mod, Int.bmod_mul_bmod, Int.sub_bmod_bmod]
  have : x.toInt - x.toInt.tdiv y.toInt * y.toInt = x.toInt.tmod y.toInt := by rw [Int.tmod_def, Int.mul_comm]
  rw [this, ← Int32.toInt_mod]
  have h := rng32 (x % y)
  exact Int.bmod_eq_of_le (by omega) (by omega)
theorem oRemEqL (x y : Int64) : x - x / y * y = x % y := by
  apply Int64.toInt_inj.mp
  rw [Int64.toInt_sub, Int64.toInt_mul, Int64.toInt_div, Int64.toInt_mod, Int.bmod_mul_bmod, Int.sub_bmod_bmod]
  have : x.toInt - x.toInt.tdiv y.toInt * y.toInt = x.toInt.tmod y.toInt := by rw [Int.tmod_def, Int.mul_comm]
  rw [this, ← Int64.toInt_mod]
  have h := rng64 (x % y)
  exact Int.bmod_eq_of_le (by omega) (by omega)
theorem oBm32 {n : Int} (h : -2147483648 ≤ n ∧ n < 2147483648) : n.bmod (2 ^ 32) = n := Int.bmod_eq_of_le (by have := h.1; omega) (by have := h.2; omega)
theorem oBm64 {n : Int} (h : -9223372036854775808 ≤ n ∧ n < 9223372036854775808) : n.bmod (2 ^ 64) = n := Int.bmod_eq_of_le (by have := h.1; omega) (by have := h.2; omega)
theorem oAdd32 {x y : Int32} (h : -2147483648 ≤ (x.toInt + y.toInt) ∧ (x.toInt + y.toInt) < 2147483648) : (x + y).toInt = x.toInt + y.toInt := by rw [Int32.toInt_add, oBm32 h]
theorem oSub32 {x y : Int32} (h : -2147483648 ≤ (x.toInt - y.toInt) ∧ (x.toInt - y.toInt) < 2147483648) : (x - y).toInt = x.toInt - y.toInt := by rw [Int32.toInt_sub, oBm32 h]
theorem oMul32 {x y : Int32} (h : -2147483648 ≤ (x.toInt * y.toInt) ∧ (x.toInt * y.toInt) < 2147483648) : (x * y).toInt = x.toInt * y.toInt := by rw [Int32.toInt_mul, oBm32 h]
theorem oAdd64 {x y : Int64} (h : -9223372036854775808 ≤ (x.toInt + y.toInt) ∧ (x.toInt + y.toInt) < 9223372036854775808) : (x + y).toInt = x.toInt + y.toInt := by rw [Int64.toInt_add, oBm64 h]
theorem oSub64 {x y : Int64} (h : -9223372036854775808 ≤ (x.toInt - y.toInt) ∧ (x.toInt - y.toInt) < 9223372036854775808) : (x - y).toInt = x.toInt - y.toInt := by rw [Int64.toInt_sub, oBm64 h]
theorem oMul64 {x y : Int64} (h : -9223372036854775808 ≤ (x.toInt * y.toInt) ∧ (x.toInt * y.toInt) < 9223372036854775808) : (x * y).toInt = x.toInt * y.toInt := by rw [Int64.toInt_mul, oBm64 h]
theorem oRem32 {x y : Int32} (hx : 0 ≤ x.toInt) : (x % y).toInt = x.toInt % y.toInt := by rw [Int32.toInt_mod, Int.tmod_eq_emod_of_nonneg hx]
theorem oIx (x k : Int32) (hx : 0 ≤ x.toInt) (hk : 0 ≤ k.toInt) (h : x.toInt + k.toInt < 2147483648) : ¬ (x + k) < 0 ∧ (x + k).toNatClampNeg = x.toNatClampNeg + k.toNatClampNeg := by
  have e : (x + k).toInt = x.toInt + k.toInt := XT.add32 ⟨by omega, by omega⟩
  refine ⟨by rw [XT.negI32]; omega, ?_⟩
  simp only [Int32.toNatClampNeg, e]; omega
theorem oSto {l l' : Array Slot} {i : Nat} {v : Value} {o : Slot} (hold : l[i]? = some o) (ho : One o) (hv : v.category = 1) (e : l.setIfInBounds i (.val v) = l') : storeLocals l i v = some l' := by rw [XS.store1 hold ho hv, e]
theorem oEqI {t : Term} {n : Int32} {args : Array Value} {s : State} (h : (Jvm.Cond.eq t (.int n)).value args s none s [] = some true) : t.eval args s none [] s = some (.int n) := by
  simp only [Cond.value, Term.eval] at h
  cases ht : t.eval args s none [] s with
  | none => simp [ht] at h
  | some x => cases x <;> simp [ht] at h ⊢ <;> exact h
theorem oEqR {t u : Term} {b : Addr} {args : Array Value} {s : State} (h : (Jvm.Cond.eq t u).value args s none s [] = some true) (hu : u.eval args s none [] s = some (.ref b)) : t.eval args s none [] s = some (.ref b) := by
  simp only [Cond.value, hu] at h
  cases ht : t.eval args s none [] s with
  | none => simp [ht] at h
  | some x => cases x <;> simp [ht] at h ⊢ <;> exact h
theorem oN0 {x : Int32} (hx : 0 ≤ x.toInt) : ¬ x < 0 := by rw [XT.negI32]; omega
theorem oB8 (x : Int32) : nar .byte x.toInt8.toInt32 = x.toInt8.toInt32 := by simp [nar]
theorem oLt {α : Type} {l : List α} {i : Nat} {x : α} (h : l[i]? = some x) : i < l.length := (List.getElem?_eq_some_iff.mp h).1
theorem oNarR {t : FieldType} {v : Value} (h : v.isRef = true) : narrow t v = v := by cases v <;> simp [Value.isRef] at h <;> cases t <;> rfl
theorem oFitR {t : FieldType} {v : Value} (ht : t.isReference = true) (h : v.isRef = true) : fits t v = true := by cases v <;> simp [Value.isRef] at h <;> cases t <;> first | rfl | cases ht
def oPre (V W : oVw) : Prop := ∃ tl, W = V ++ tl
theorem oPre.rfl {V : oVw} : oPre V V := ⟨[], by simp⟩
theorem oPre.app {V W r : oVw} (P : oPre V W) : oPre V (W ++ r) := by obtain ⟨tl, h⟩ := P; exact ⟨tl ++ r, by rw [h, List.append_assoc]⟩
theorem oPre.set {V W : oVw} {i : Nat} {x : Addr × oOb} (P : oPre V W) (h : V.length ≤ i) : oPre V (W.set i x) := by obtain ⟨tl, e⟩ := P; exact ⟨tl.set (i - V.length) x, by rw [e, List.set_append_right _ _ h]⟩
theorem oPre.get {V W : oVw} {i : Nat} {x : Addr × oOb} (P : oPre V W) (h : V[i]? = some x) : W[i]? = some x := by obtain ⟨tl, e⟩ := P; rw [e]; exact oAppGet h
theorem oPre.trans {U V W : oVw} (P : oPre U V) (Q : oPre V W) : oPre U W := by obtain ⟨t1, e1⟩ := P; obtain ⟨t2, e2⟩ := Q; exact ⟨t1 ++ t2, by rw [e2, e1, List.append_assoc]⟩
theorem own_ff (u : Int32) : 0 ≤ (u &&& (255 : Int32)).toInt ∧ (u &&& (255 : Int32)).toInt ≤ 255 := by
  have h := c_mask u 255 8 (by decide) (by decide)
  omega
theorem own_ch {y : Int32} (h : 0 ≤ y.toInt ∧ y.toInt ≤ 255) : y.toUInt32.toUInt16.toUInt32.toInt32 = y := by
  have e1 : y.toUInt32.toNat = y.toInt.toNat := by
    have q : y.toInt = y.toBitVec.toInt := rfl
    have r : y.toUInt32.toNat = y.toBitVec.toNat := rfl
    have z := BitVec.toInt_eq_toNat_cond y.toBitVec
    have lt := y.toBitVec.isLt
    rw [q] at h ⊢; rw [r]
    split at z <;> omega
  apply Int32.toInt_inj.mp
  have e2 : y.toUInt32.toUInt16.toUInt32.toNat = y.toInt.toNat := by
    simp only [UInt16.toNat_toUInt32, UInt32.toNat_toUInt16, e1]; omega
  have q : y.toUInt32.toUInt16.toUInt32.toInt32.toInt = y.toUInt32.toUInt16.toUInt32.toBitVec.toInt := rfl
  have r : y.toUInt32.toUInt16.toUInt32.toNat = y.toUInt32.toUInt16.toUInt32.toBitVec.toNat := rfl
  have z := BitVec.toInt_eq_toNat_cond y.toUInt32.toUInt16.toUInt32.toBitVec
  rw [q]; rw [r] at e2
  split at z <;> omega
theorem own_nc {y : Int32} (h : 0 ≤ y.toInt ∧ y.toInt ≤ 255) : nar .char y = y := own_ch h
theorem own_le {y : Int32} (h : 0 ≤ y.toInt ∧ y.toInt ≤ 255) : ¬ (255 : Int32) < y := by
  rw [Int32.lt_iff_toInt_lt]; have e : (255 : Int32).toInt = 255 := rfl; omega
theorem own_str {Z : State} {a0 : Array Value} (hw : ∀ d ∈ tables_1, d.before a0 Z = true) : ∀ a ∈ Bundle.stringAtoms, a.before a0 Z = true := fun a ha => by
  simp only [Bundle.stringAtoms, List.mem_cons, List.not_mem_nil, or_false] at ha
  rcases ha with rfl | rfl | rfl | rfl | rfl | rfl | rfl
  · exact (hw _ (List.mem_of_getElem? (i := 10) rfl))
  · exact (hw _ (List.mem_of_getElem? (i := 9) rfl))
  · exact (hw _ (List.mem_of_getElem? (i := 26) rfl))
  · exact (hw _ (List.mem_of_getElem? (i := 36) rfl))
  · exact (hw _ (List.mem_of_getElem? (i := 34) rfl))
  · exact (hw _ (List.mem_of_getElem? (i := 110) rfl))
  · exact (hw _ (List.mem_of_getElem? (i := 111) rfl))
theorem d6_0 : decode jdk_52_method_21_code 0 = .ok (.iconst 0, 1) := by decide +kernel
theorem d6_1 : decode jdk_52_method_21_code 1 = .ok (.istore 5, 2) := by decide +kernel
theorem d6_3 : decode jdk_52_method_21_code 3 = .ok (.iload 5, 2) := by decide +kernel
theorem d6_5 : decode jdk_52_method_21_code 5 = .ok (.iload 4, 2) := by decide +kernel
theorem d6_7 : decode jdk_52_method_21_code 7 = .ok (.if_icmp .ge 37, 3) := by decide +kernel
theorem d6_10 : decode jdk_52_method_21_code 10 = .ok (.aload_n 0, 1) := by decide +kernel
theorem d6_11 : decode jdk_52_method_21_code 11 = .ok (.iload_n 1, 1) := by decide +kernel
theorem d6_12 : decode jdk_52_method_21_code 12 = .ok (.caload, 1) := by decide +kernel
theorem d6_13 : decode jdk_52_method_21_code 13 = .ok (.istore 6, 2) := by decide +kernel
theorem d6_15 : decode jdk_52_method_21_code 15 = .ok (.iload 6, 2) := by decide +kernel
theorem d6_17 : decode jdk_52_method_21_code 17 = .ok (.sipush 255, 3) := by decide +kernel
theorem d6_20 : decode jdk_52_method_21_code 20 = .ok (.if_icmp .le 6, 3) := by decide +kernel
theorem d6_26 : decode jdk_52_method_21_code 26 = .ok (.aload_n 2, 1) := by decide +kernel
theorem d6_27 : decode jdk_52_method_21_code 27 = .ok (.iload_n 3, 1) := by decide +kernel
theorem d6_28 : decode jdk_52_method_21_code 28 = .ok (.iload 6, 2) := by decide +kernel
theorem d6_30 : decode jdk_52_method_21_code 30 = .ok (.i2b, 1) := by decide +kernel
theorem d6_31 : decode jdk_52_method_21_code 31 = .ok (.bastore, 1) := by decide +kernel
theorem d6_32 : decode jdk_52_method_21_code 32 = .ok (.iinc 1 1, 3) := by decide +kernel
theorem d6_35 : decode jdk_52_method_21_code 35 = .ok (.iinc 3 1, 3) := by decide +kernel
theorem d6_38 : decode jdk_52_method_21_code 38 = .ok (.iinc 5 1, 3) := by decide +kernel
theorem d6_41 : decode jdk_52_method_21_code 41 = .ok (.goto (-38), 3) := by decide +kernel
theorem d6_44 : decode jdk_52_method_21_code 44 = .ok (.iload 4, 2) := by decide +kernel
theorem d6_46 : decode jdk_52_method_21_code 46 = .ok (.ireturn, 1) := by decide +kernel
theorem pn_java_lang_StringUTF16 : plainName "java/lang/StringUTF16" = true := by first | (simp [plainName, overriddenIn]; done) | decide +kernel
set_option maxRecDepth 65536 in
set_option maxHeartbeats 40000000 in
theorem cC2 (l : Launch) (Z : State) (a0 : Array Value) (hw : ∀ d ∈ tables_1, d.before a0 Z = true) {V : oVw} (a : Addr) (b : Addr) (w0 : Int32) (w1 : Int32) {i : Nat} (hi : V[i]? = some (a, (.inr (.char, [(.int w0), (.int w1)])))) {k : Nat} (hk : V[k]? = some (b, (.inr (.byte, [(.int (0 : Int32)), (.int (0 : Int32))])))) (hik : k ≠ i) (b0 : 0 ≤ w0.toInt ∧ w0.toInt ≤ 255) (b1 : 0 ≤ w1.toInt ∧ w1.toInt ≤ 255) :
    oCon false l Z (⟨"java/lang/StringUTF16", "compress", "([CI[BII)I"⟩ : MethodName) jdk_52_method_21_code 7 (some .int) ({ frames := 0, cells := 0, slots := 0, locals := 0 } : Room) #[(.ref a), (.int (0 : Int32)), (.ref b), (.int (0 : Int32)), (.int (2 : Int32))] V (fun v V' => v = some (.int (2 : Int32)) ∧ V' = V.set k (b, .inr (.byte, [(.int w0.toInt8.toInt32), (.int w1.toInt8.toInt32)]))) := by
  refine oEnter (plainFor_of_name pn_java_lang_StringUTF16) (Ls := #[.val (.ref a), .val (.int (0 : Int32)), .val (.ref b), .val (.int (0 : Int32)), .val (.int (2 : Int32)), .unset, .unset]) (fun m => by first | (simp [entryFrame, mkF, argsToLocals, Value.category]; done) | rfl) ?_
  intro p e s m below meth c T E X
  refine gIconst E X d6_0 (v := (0 : Int32)) (by decide) (q := 1) rfl ?_
  refine gIstore E X d6_1 (l' := #[.val (.ref a), .val (.int (0 : Int32)), .val (.ref b), .val (.int (0 : Int32)), .val (.int (2 : Int32)), .val (.int (0 : Int32)), .unset]) rfl (q := 3) rfl ?_
  refine gIload E X d6_3 rfl (q := 5) rfl ?_
  refine gIload E X d6_5 rfl (q := 7) rfl ?_
  refine gIc_ge E X d6_7 (by decide) (q := 44) (by decide) (q' := 10) rfl (fun h7 => by exfalso; exact absurd h7 (by decide)) (fun h7 => ?_)
  refine gAloadN E X d6_10 rfl rfl (q := 11) rfl ?_
  refine gIloadN E X d6_11 rfl (q := 12) rfl ?_
  refine gCaload E X (i := i) (v := (.int w0)) d6_12 hi (by decide) rfl (q := 13) rfl ?_
  refine gIstore E X d6_13 (l' := #[.val (.ref a), .val (.int (0 : Int32)), .val (.ref b), .val (.int (0 : Int32)), .val (.int (2 : Int32)), .val (.int (0 : Int32)), .val (.int w0)]) rfl (q := 15) rfl ?_
  refine gIload E X d6_15 rfl (q := 17) rfl ?_
  refine gSipush E X d6_17 (v := (255 : Int32)) (by decide) (q := 20) rfl ?_
  refine gIc_le E X d6_20 (by decide) (q := 26) (by decide) (q' := 23) rfl (fun h20 => ?_) (fun h20 => by exfalso; exact own_le b0 h20)
  refine gAloadN E X d6_26 rfl rfl (q := 27) rfl ?_
  refine gIloadN E X d6_27 rfl (q := 28) rfl ?_
  refine gIload E X d6_28 rfl (q := 30) rfl ?_
  refine gI2b E X d6_30 (z := w0.toInt8.toInt32) rfl (q := 31) rfl ?_
  refine gBastore E X (i := k) (jn := 0) (x' := w0.toInt8.toInt32) (V' := (V.set k (b, (.inr (.byte, [(.int w0.toInt8.toInt32), (.int (0 : Int32))]))))) d6_31 hk (by decide) rfl (by show 0 < 2; decide) (oB8 _) rfl (q := 32) rfl ?_
  intro T1 X1
  obtain ⟨V1, eV1⟩ : ∃ z, z = (V.set k (b, (.inr (.byte, [(.int w0.toInt8.toInt32), (.int (0 : Int32))])))) := ⟨_, rfl⟩
  rw [← eV1] at X1
  have i1_0 := (eV1 ▸ oSetNe hik hi : V1[i]? = some (a, (.inr (.char, [(.int w0), (.int w1)]))))
  have i1_1 := (eV1 ▸ oSetGet hk : V1[k]? = some (b, (.inr (.byte, [(.int w0.toInt8.toInt32), (.int (0 : Int32))]))))
  refine gIincV E X1 (1 : Int32) (1 : Int32) d6_32 (by decide) rfl (by decide) (l' := #[.val (.ref a), .val (.int (1 : Int32)), .val (.ref b), .val (.int (0 : Int32)), .val (.int (2 : Int32)), .val (.int (0 : Int32)), .val (.int w0)]) rfl (q := 35) rfl ?_
  refine gIincV E X1 (1 : Int32) (1 : Int32) d6_35 (by decide) rfl (by decide) (l' := #[.val (.ref a), .val (.int (1 : Int32)), .val (.ref b), .val (.int (1 : Int32)), .val (.int (2 : Int32)), .val (.int (0 : Int32)), .val (.int w0)]) rfl (q := 38) rfl ?_
  refine gIincV E X1 (1 : Int32) (1 : Int32) d6_38 (by decide) rfl (by decide) (l' := #[.val (.ref a), .val (.int (1 : Int32)), .val (.ref b), .val (.int (1 : Int32)), .val (.int (2 : Int32)), .val (.int (1 : Int32)), .val (.int w0)]) rfl (q := 41) rfl ?_
  refine gGoto E X1 d6_41 (by decide) (q := 3) (by decide) ?_
  refine gIload E X1 d6_3 rfl (q := 5) rfl ?_
  refine gIload E X1 d6_5 rfl (q := 7) rfl ?_
  refine gIc_ge E X1 d6_7 (by decide) (q := 44) (by decide) (q' := 10) rfl (fun h7 => by exfalso; exact absurd h7 (by decide)) (fun h7 => ?_)
  refine gAloadN E X1 d6_10 rfl rfl (q := 11) rfl ?_
  refine gIloadN E X1 d6_11 rfl (q := 12) rfl ?_
  refine gCaload E X1 (i := i) (v := (.int w1)) d6_12 i1_0 (by decide) rfl (q := 13) rfl ?_
  refine gIstore E X1 d6_13 (l' := #[.val (.ref a), .val (.int (1 : Int32)), .val (.ref b), .val (.int (1 : Int32)), .val (.int (2 : Int32)), .val (.int (1 : Int32)), .val (.int w1)]) rfl (q := 15) rfl ?_
  refine gIload E X1 d6_15 rfl (q := 17) rfl ?_
  refine gSipush E X1 d6_17 (v := (255 : Int32)) (by decide) (q := 20) rfl ?_
  refine gIc_le E X1 d6_20 (by decide) (q := 26) (by decide) (q' := 23) rfl (fun h20 => ?_) (fun h20 => by exfalso; exact own_le b1 h20)
  refine gAloadN E X1 d6_26 rfl rfl (q := 27) rfl ?_
  refine gIloadN E X1 d6_27 rfl (q := 28) rfl ?_
  refine gIload E X1 d6_28 rfl (q := 30) rfl ?_
  refine gI2b E X1 d6_30 (z := w1.toInt8.toInt32) rfl (q := 31) rfl ?_
  refine gBastore E X1 (i := k) (jn := 1) (x' := w1.toInt8.toInt32) (V' := (V1.set k (b, (.inr (.byte, [(.int w0.toInt8.toInt32), (.int w1.toInt8.toInt32)]))))) d6_31 i1_1 (by decide) rfl (by show 1 < 2; decide) (oB8 _) rfl (q := 32) rfl ?_
  intro T2 X2
  obtain ⟨V2, eV2⟩ : ∃ z, z = (V1.set k (b, (.inr (.byte, [(.int w0.toInt8.toInt32), (.int w1.toInt8.toInt32)])))) := ⟨_, rfl⟩
  rw [← eV2] at X2
  have i2_0 := (eV2 ▸ oSetNe hik i1_0 : V2[i]? = some (a, (.inr (.char, [(.int w0), (.int w1)]))))
  have i2_1 := (eV2 ▸ oSetGet i1_1 : V2[k]? = some (b, (.inr (.byte, [(.int w0.toInt8.toInt32), (.int w1.toInt8.toInt32)]))))
  refine gIincV E X2 (1 : Int32) (2 : Int32) d6_32 (by decide) rfl (by decide) (l' := #[.val (.ref a), .val (.int (2 : Int32)), .val (.ref b), .val (.int (1 : Int32)), .val (.int (2 : Int32)), .val (.int (1 : Int32)), .val (.int w1)]) rfl (q := 35) rfl ?_
  refine gIincV E X2 (1 : Int32) (2 : Int32) d6_35 (by decide) rfl (by decide) (l' := #[.val (.ref a), .val (.int (2 : Int32)), .val (.ref b), .val (.int (2 : Int32)), .val (.int (2 : Int32)), .val (.int (1 : Int32)), .val (.int w1)]) rfl (q := 38) rfl ?_
  refine gIincV E X2 (1 : Int32) (2 : Int32) d6_38 (by decide) rfl (by decide) (l' := #[.val (.ref a), .val (.int (2 : Int32)), .val (.ref b), .val (.int (2 : Int32)), .val (.int (2 : Int32)), .val (.int (2 : Int32)), .val (.int w1)]) rfl (q := 41) rfl ?_
  refine gGoto E X2 d6_41 (by decide) (q := 3) (by decide) ?_
  refine gIload E X2 d6_3 rfl (q := 5) rfl ?_
  refine gIload E X2 d6_5 rfl (q := 7) rfl ?_
  refine gIc_ge E X2 d6_7 (by decide) (q := 44) (by decide) (q' := 10) rfl (fun h7 => ?_) (fun h7 => by exfalso; exact absurd h7 (by decide))
  refine gIload E X2 d6_44 rfl (q := 46) rfl ?_
  exact gRetI E X2 d6_46 (by decide) (by decide) (by decide) (⟨rfl, by simp only [eV2, eV1, List.set_set]⟩)
theorem pd_0 : parseMethodDescriptor "([CI[BII)I" = some ⟨[(.array .char), .int, (.array .byte), .int, .int], some .int⟩ := by decide +kernel
theorem d5_0 : decode jdk_52_method_16_code 0 = .ok (.iload_n 2, 1) := by decide +kernel
theorem d5_1 : decode jdk_52_method_16_code 1 = .ok (.newarray .byte, 2) := by decide +kernel
theorem d5_3 : decode jdk_52_method_16_code 3 = .ok (.astore_n 3, 1) := by decide +kernel
theorem d5_4 : decode jdk_52_method_16_code 4 = .ok (.aload_n 0, 1) := by decide +kernel
theorem d5_5 : decode jdk_52_method_16_code 5 = .ok (.iload_n 1, 1) := by decide +kernel
theorem d5_6 : decode jdk_52_method_16_code 6 = .ok (.aload_n 3, 1) := by decide +kernel
theorem d5_7 : decode jdk_52_method_16_code 7 = .ok (.iconst 0, 1) := by decide +kernel
theorem d5_8 : decode jdk_52_method_16_code 8 = .ok (.iload_n 2, 1) := by decide +kernel
theorem d5_9 : decode jdk_52_method_16_code 9 = .ok (.invokestatic 115, 3) := by decide +kernel
theorem d5_12 : decode jdk_52_method_16_code 12 = .ok (.istore 4, 2) := by decide +kernel
theorem d5_14 : decode jdk_52_method_16_code 14 = .ok (.iload 4, 2) := by decide +kernel
theorem d5_16 : decode jdk_52_method_16_code 16 = .ok (.iload_n 2, 1) := by decide +kernel
theorem d5_17 : decode jdk_52_method_16_code 17 = .ok (.if_icmp .eq 40, 3) := by decide +kernel
theorem d5_57 : decode jdk_52_method_16_code 57 = .ok (.aload_n 3, 1) := by decide +kernel
theorem d5_58 : decode jdk_52_method_16_code 58 = .ok (.areturn, 1) := by decide +kernel
set_option maxRecDepth 65536 in
set_option maxHeartbeats 40000000 in
theorem cB2 (l : Launch) (Z : State) (a0 : Array Value) (hw : ∀ d ∈ tables_1, d.before a0 Z = true) {V : oVw} (a : Addr) (w0 : Int32) (w1 : Int32) {i : Nat} (hi : V[i]? = some (a, (.inr (.char, [(.int w0), (.int w1)])))) (b0 : 0 ≤ w0.toInt ∧ w0.toInt ≤ 255) (b1 : 0 ≤ w1.toInt ∧ w1.toInt ≤ 255) :
    oCon false l Z (⟨"java/lang/StringUTF16", "compress", "([CII)[B"⟩ : MethodName) jdk_52_method_16_code 6 (some (.array .byte)) ({ frames := 1, cells := 1, slots := 2, locals := 18 } : Room) #[(.ref a), (.int (0 : Int32)), (.int (2 : Int32))] V (fun v V' => ∃ b, v = some (.ref b) ∧ V' = V ++ [(b, .inr (.byte, [(.int w0.toInt8.toInt32), (.int w1.toInt8.toInt32)]))]) := by
  refine oEnter (plainFor_of_name pn_java_lang_StringUTF16) (Ls := #[.val (.ref a), .val (.int (0 : Int32)), .val (.int (2 : Int32)), .unset, .unset, .unset]) (fun m => by first | (simp [entryFrame, mkF, argsToLocals, Value.category]; done) | rfl) ?_
  intro p e s m below meth c T E X
  refine gIloadN E X d5_0 rfl (q := 1) rfl ?_
  refine gNewA E X (c2 := 1) (s2 := 2) (cap := 2) (vs := [(.int (0 : Int32)), (.int (0 : Int32))]) (ty := .byte) rfl d5_1 (hw _ (List.mem_of_getElem? (i := 26) rfl)) (by decide) (by decide) (by decide) rfl (by decide) (by decide) (by decide) (by decide) (q := 3) rfl ?_
  intro T1 a1 X1
  obtain ⟨V1, eV1⟩ : ∃ z, z = V ++ [(a1, (.inr (.byte, [(.int (0 : Int32)), (.int (0 : Int32))])))] := ⟨_, rfl⟩
  rw [← eV1] at X1
  have i1_0 := (eV1 ▸ oAppGet hi : V1[i]? = some (a, (.inr (.char, [(.int w0), (.int w1)]))))
  have i1_1 := (eV1 ▸ oAppLast : V1[V.length]? = some (a1, (.inr (.byte, [(.int (0 : Int32)), (.int (0 : Int32))]))))
  refine gAstoreN E X1 d5_3 rfl (l' := #[.val (.ref a), .val (.int (0 : Int32)), .val (.int (2 : Int32)), .val (.ref a1), .unset, .unset]) rfl (q := 4) rfl ?_
  refine gAloadN E X1 d5_4 rfl rfl (q := 5) rfl ?_
  refine gIloadN E X1 d5_5 rfl (q := 6) rfl ?_
  refine gAloadN E X1 d5_6 rfl rfl (q := 7) rfl ?_
  refine gIconst E X1 d5_7 (v := (0 : Int32)) (by decide) (q := 8) rfl ?_
  refine gIloadN E X1 d5_8 rfl (q := 9) rfl ?_
  refine gCallS E X1 (W := 0) (c2 := 1) (s2 := 2) [(.ref a), (.int (0 : Int32)), (.ref a1), (.int (0 : Int32)), (.int (2 : Int32))] [] d5_9 (hw _ (List.mem_of_getElem? (i := 27) rfl)) (hw _ (List.mem_of_getElem? (i := 28) rfl)) (hw _ (List.mem_of_getElem? (i := 24) rfl)) (hw _ (List.mem_of_getElem? (i := 29) rfl)) (by decide) (cC2 l Z a0 hw a a1 w0 w1 (i := i) i1_0 (k := V.length) i1_1 (Ne.symm (Nat.ne_of_lt (oLt hi))) b0 b1) pd_0 rfl rfl rfl (by decide) (Nat.le_of_eq rfl) (by decide) (by decide) (by decide) (by decide) (by decide) (by decide) (q := 12) rfl ?_
  intro T2 v2 V2 R2 X2
  obtain ⟨rfl, eV2⟩ := R2
  have i2_0 := (eV2 ▸ oSetNe (Ne.symm (Nat.ne_of_lt (oLt hi))) i1_0 : V2[i]? = some (a, (.inr (.char, [(.int w0), (.int w1)]))))
  have i2_1 := (eV2 ▸ oSetGet i1_1 : V2[V.length]? = some (a1, (.inr (.byte, [(.int w0.toInt8.toInt32), (.int w1.toInt8.toInt32)]))))
  show oG false p e below s Z ({ frames := 1, cells := 1, slots := 2, locals := 18 } : Room) (fun v V' => ∃ b, v = some (.ref b) ∧ V' = V ++ [(b, .inr (.byte, [(.int w0.toInt8.toInt32), (.int w1.toInt8.toInt32)]))]) T2 (mkF m 12 #[.val (.ref a), .val (.int (0 : Int32)), .val (.int (2 : Int32)), .val (.ref a1), .unset, .unset] [(.int (2 : Int32))])
  refine gIstore E X2 d5_12 (l' := #[.val (.ref a), .val (.int (0 : Int32)), .val (.int (2 : Int32)), .val (.ref a1), .val (.int (2 : Int32)), .unset]) rfl (q := 14) rfl ?_
  refine gIload E X2 d5_14 rfl (q := 16) rfl ?_
  refine gIloadN E X2 d5_16 rfl (q := 17) rfl ?_
  refine gIc_eq E X2 d5_17 (by decide) (q := 57) (by decide) (q' := 20) rfl (fun h17 => ?_) (fun h17 => by exfalso; exact absurd h17 (by decide))
  refine gAloadN E X2 d5_57 rfl rfl (q := 58) rfl ?_
  exact gRetA E X2 rfl d5_58 (by decide) (by decide) (by decide) rfl rfl (⟨a1, rfl, by rw [eV2, eV1, oAppSetLast]⟩)
theorem d7_0 : decode jdk_52_method_15_code 0 = .ok (.iload_n 1, 1) := by decide +kernel
theorem d7_1 : decode jdk_52_method_15_code 1 = .ok (.aload_n 0, 1) := by decide +kernel
theorem d7_2 : decode jdk_52_method_15_code 2 = .ok (.arraylength, 1) := by decide +kernel
theorem d7_3 : decode jdk_52_method_15_code 3 = .ok (.isub, 1) := by decide +kernel
theorem d7_4 : decode jdk_52_method_15_code 4 = .ok (.bipush 31, 2) := by decide +kernel
theorem d7_6 : decode jdk_52_method_15_code 6 = .ok (.iushr, 1) := by decide +kernel
theorem d7_7 : decode jdk_52_method_15_code 7 = .ok (.i2b, 1) := by decide +kernel
theorem d7_8 : decode jdk_52_method_15_code 8 = .ok (.ireturn, 1) := by decide +kernel
set_option maxRecDepth 65536 in
set_option maxHeartbeats 40000000 in
theorem cD2 (l : Launch) (Z : State) (a0 : Array Value) (hw : ∀ d ∈ tables_1, d.before a0 Z = true) {V : oVw} (a : Addr) (w0 : Int32) (w1 : Int32) {i : Nat} (hi : V[i]? = some (a, (.inr (.byte, [(.int w0.toInt8.toInt32), (.int w1.toInt8.toInt32)]))))  :
    oCon false l Z (⟨"java/lang/StringUTF16", "coderFromArrayLen", "([BI)B"⟩ : MethodName) jdk_52_method_15_code 2 (some .byte) ({ frames := 0, cells := 0, slots := 0, locals := 0 } : Room) #[(.ref a), (.int (2 : Int32))] V (fun v V' => v = some (.int 0) ∧ V' = V) := by
  refine oEnter (plainFor_of_name pn_java_lang_StringUTF16) (Ls := #[.val (.ref a), .val (.int (2 : Int32))]) (fun m => by first | (simp [entryFrame, mkF, argsToLocals, Value.category]; done) | rfl) ?_
  intro p e s m below meth c T E X
  refine gIloadN E X d7_0 rfl (q := 1) rfl ?_
  refine gAloadN E X d7_1 rfl rfl (q := 2) rfl ?_
  refine gLen E X (i := i) (z := (2 : Int32)) d7_2 hi rfl (q := 3) rfl ?_
  refine gIsub E X d7_3 (z := (0 : Int32)) (by decide) (q := 4) rfl ?_
  refine gBipush E X d7_4 (v := (31 : Int32)) (by decide) (q := 6) rfl ?_
  refine gIushr E X d7_6 (z := (0 : Int32)) (by decide) (q := 7) rfl ?_
  refine gI2b E X d7_7 (z := (0 : Int32)) (by decide) (q := 8) rfl ?_
  exact gRetN E X (by simp) d7_8 (by decide) (by decide) (by decide) (⟨by decide, rfl⟩)
theorem pd_1 : parseMethodDescriptor "([CII)[B" = some ⟨[(.array .char), .int, .int], some (.array .byte)⟩ := by decide +kernel
theorem pd_2 : parseMethodDescriptor "([BI)B" = some ⟨[(.array .byte), .int], some .byte⟩ := by decide +kernel
theorem d3_0 : decode jdk_42_method_149_code 0 = .ok (.aload_n 0, 1) := by decide +kernel
theorem d3_1 : decode jdk_42_method_149_code 1 = .ok (.invokespecial 1, 3) := by decide +kernel
theorem d3_4 : decode jdk_42_method_149_code 4 = .ok (.iload_n 3, 1) := by decide +kernel
theorem d3_5 : decode jdk_42_method_149_code 5 = .ok (.ifCond .ne 22, 3) := by decide +kernel
theorem d3_27 : decode jdk_42_method_149_code 27 = .ok (.getstatic 38, 3) := by decide +kernel
theorem d3_30 : decode jdk_42_method_149_code 30 = .ok (.ifCond .eq 28, 3) := by decide +kernel
theorem d3_33 : decode jdk_42_method_149_code 33 = .ok (.aload_n 1, 1) := by decide +kernel
theorem d3_34 : decode jdk_42_method_149_code 34 = .ok (.iload_n 2, 1) := by decide +kernel
theorem d3_35 : decode jdk_42_method_149_code 35 = .ok (.iload_n 3, 1) := by decide +kernel
theorem d3_36 : decode jdk_42_method_149_code 36 = .ok (.invokestatic 177, 3) := by decide +kernel
theorem d3_39 : decode jdk_42_method_149_code 39 = .ok (.astore 5, 2) := by decide +kernel
theorem d3_41 : decode jdk_42_method_149_code 41 = .ok (.aload_n 0, 1) := by decide +kernel
theorem d3_42 : decode jdk_42_method_149_code 42 = .ok (.aload 5, 2) := by decide +kernel
theorem d3_44 : decode jdk_42_method_149_code 44 = .ok (.iload_n 3, 1) := by decide +kernel
theorem d3_45 : decode jdk_42_method_149_code 45 = .ok (.invokestatic 47, 3) := by decide +kernel
theorem d3_48 : decode jdk_42_method_149_code 48 = .ok (.putfield 15, 3) := by decide +kernel
theorem d3_51 : decode jdk_42_method_149_code 51 = .ok (.aload_n 0, 1) := by decide +kernel
theorem d3_52 : decode jdk_42_method_149_code 52 = .ok (.aload 5, 2) := by decide +kernel
theorem d3_54 : decode jdk_42_method_149_code 54 = .ok (.putfield 9, 3) := by decide +kernel
theorem d3_57 : decode jdk_42_method_149_code 57 = .ok (.return_, 1) := by decide +kernel
theorem pn_java_lang_String : plainName "java/lang/String" = true := by first | (simp [plainName, overriddenIn]; done) | decide +kernel
set_option maxRecDepth 65536 in
set_option maxHeartbeats 40000000 in
theorem cS2 (l : Launch) (Z : State) (a0 : Array Value) (hw : ∀ d ∈ tables_1, d.before a0 Z = true) {V : oVw} (a : Addr) (b : Addr) (w0 : Int32) (w1 : Int32) (cs : Int32) {i : Nat} (hi : V[i]? = some (a, (.inl ("java/lang/String", [("java/lang/String", "coder", "B", (.int (0 : Int32))), ("java/lang/String", "value", "[B", .null)])))) {k : Nat} (hk : V[k]? = some (b, (.inr (.char, [(.int w0), (.int w1)])))) (hik : k ≠ i) (SC : Sta Z Z.heap "java/lang/String" "COMPACT_STRINGS" "Z" (.int cs)) (hcs : ¬ cs = 0) (b0 : 0 ≤ w0.toInt ∧ w0.toInt ≤ 255) (b1 : 0 ≤ w1.toInt ∧ w1.toInt ≤ 255) :
    oCon false l Z (⟨"java/lang/String", "<init>", "([CIILjava/lang/Void;)V"⟩ : MethodName) jdk_42_method_149_code 6 none ({ frames := 2, cells := 1, slots := 2, locals := 35 } : Room) #[(.ref a), (.ref b), (.int (0 : Int32)), (.int (2 : Int32)), .null] V (fun v V' => ∃ b', v = none ∧ V' = V.set i (a, (.inl ("java/lang/String", [("java/lang/String", "coder", "B", (.int (0 : Int32))), ("java/lang/String", "value", "[B", (.ref b'))]))) ++ [(b', .inr (.byte, [(.int w0.toInt8.toInt32), (.int w1.toInt8.toInt32)]))]) := by
  refine oEnter (plainFor_of_name pn_java_lang_String) (Ls := #[.val (.ref a), .val (.ref b), .val (.int (0 : Int32)), .val (.int (2 : Int32)), .val .null, .unset]) (fun m => by first | (simp [entryFrame, mkF, argsToLocals, Value.category]; done) | rfl) ?_
  intro p e s m below meth c T E X
  refine gAloadN E X d3_0 rfl rfl (q := 1) rfl ?_
  refine gInitO E X (W := 0) d3_1 (hw _ (List.mem_of_getElem? (i := 18) rfl)) (hw _ (List.mem_of_getElem? (i := 19) rfl)) (hw _ (List.mem_of_getElem? (i := 20) rfl)) rfl (by decide) (Nat.le_of_eq rfl) (by decide) (q := 4) rfl ?_
  intro T1 X1
  refine gIloadN E X1 d3_4 rfl (q := 5) rfl ?_
  refine gIf_ne E X1 d3_5 (by decide) (q := 27) (by decide) (q' := 8) rfl (fun h5 => ?_) (fun h5 => by exfalso; exact absurd h5 (by decide))
  refine gGetS E X1 d3_27 (hw _ (List.mem_of_getElem? (i := 21) rfl)) Via.refl SC (q := 30) rfl ?_
  intro T2 X2
  refine gIf_eq E X2 d3_30 (by decide) (q := 58) (by decide) (q' := 33) rfl (fun h30 => by exfalso; exact hcs h30) (fun h30 => ?_)
  refine gAloadN E X2 d3_33 rfl rfl (q := 34) rfl ?_
  refine gIloadN E X2 d3_34 rfl (q := 35) rfl ?_
  refine gIloadN E X2 d3_35 rfl (q := 36) rfl ?_
  refine gCallS E X2 (W := 0) (c2 := 1) (s2 := 2) [(.ref b), (.int (0 : Int32)), (.int (2 : Int32))] [] d3_36 (hw _ (List.mem_of_getElem? (i := 22) rfl)) (hw _ (List.mem_of_getElem? (i := 23) rfl)) (hw _ (List.mem_of_getElem? (i := 24) rfl)) (hw _ (List.mem_of_getElem? (i := 25) rfl)) (by decide) (cB2 l Z a0 hw b w0 w1 (i := k) hk b0 b1) pd_1 rfl rfl rfl (by decide) (Nat.le_of_eq rfl) (by decide) (by decide) (by decide) (by decide) (by decide) (by decide) (q := 39) rfl ?_
  intro T3 v3 V3 R3 X3
  obtain ⟨b3', rfl, eV3⟩ := R3
  have i3_0 := (eV3 ▸ oAppGet hi : V3[i]? = some (a, (.inl ("java/lang/String", [("java/lang/String", "coder", "B", (.int (0 : Int32))), ("java/lang/String", "value", "[B", .null)]))))
  have i3_1 := (eV3 ▸ oAppGet hk : V3[k]? = some (b, (.inr (.char, [(.int w0), (.int w1)]))))
  have i3_2 := (eV3 ▸ oAppLast : V3[V.length]? = some (b3', (.inr (.byte, [(.int w0.toInt8.toInt32), (.int w1.toInt8.toInt32)]))))
  show oG false p e below s Z ({ frames := 2, cells := 1, slots := 2, locals := 35 } : Room) (fun v V' => ∃ b', v = none ∧ V' = V.set i (a, (.inl ("java/lang/String", [("java/lang/String", "coder", "B", (.int (0 : Int32))), ("java/lang/String", "value", "[B", (.ref b'))]))) ++ [(b', .inr (.byte, [(.int w0.toInt8.toInt32), (.int w1.toInt8.toInt32)]))]) T3 (mkF m 39 #[.val (.ref a), .val (.ref b), .val (.int (0 : Int32)), .val (.int (2 : Int32)), .val .null, .unset] [(.ref b3')])
  refine gAstore E X3 d3_39 rfl (l' := #[.val (.ref a), .val (.ref b), .val (.int (0 : Int32)), .val (.int (2 : Int32)), .val .null, .val (.ref b3')]) rfl (q := 41) rfl ?_
  refine gAloadN E X3 d3_41 rfl rfl (q := 42) rfl ?_
  refine gAload E X3 d3_42 rfl rfl (q := 44) rfl ?_
  refine gIloadN E X3 d3_44 rfl (q := 45) rfl ?_
  refine gCallS E X3 (W := 1) (c2 := 1) (s2 := 2) [(.ref b3'), (.int (2 : Int32))] [(.ref a)] d3_45 (hw _ (List.mem_of_getElem? (i := 30) rfl)) (hw _ (List.mem_of_getElem? (i := 31) rfl)) (hw _ (List.mem_of_getElem? (i := 24) rfl)) (hw _ (List.mem_of_getElem? (i := 32) rfl)) (by decide) (cD2 l Z a0 hw b3' w0 w1 (i := V.length) i3_2) pd_2 rfl rfl rfl (by decide) (Nat.le_of_eq rfl) (by decide) (by decide) (by decide) (by decide) (by decide) (by decide) (q := 48) rfl ?_
  intro T4 v4 V4 R4 X4
  obtain ⟨rfl, eQ4⟩ := R4
  rw [eQ4] at X4
  show oG false p e below s Z ({ frames := 2, cells := 1, slots := 2, locals := 35 } : Room) (fun v V' => ∃ b', v = none ∧ V' = V.set i (a, (.inl ("java/lang/String", [("java/lang/String", "coder", "B", (.int (0 : Int32))), ("java/lang/String", "value", "[B", (.ref b'))]))) ++ [(b', .inr (.byte, [(.int w0.toInt8.toInt32), (.int w1.toInt8.toInt32)]))]) T4 (mkF m 48 #[.val (.ref a), .val (.ref b), .val (.int (0 : Int32)), .val (.int (2 : Int32)), .val .null, .val (.ref b3')] [(.int (0 : Int32)), (.ref a)])
  refine gPutF E X4 d3_48 (hw _ (List.mem_of_getElem? (i := 33) rfl)) Via.refl (i := i) i3_0 (j := 0) rfl (Or.inr ⟨(hw _ (List.mem_of_getElem? (i := 34) rfl)), rfl, rfl⟩) (hw _ (List.mem_of_getElem? (i := 9) rfl)) (ty := .byte) (by decide) rfl rfl (V' := (V3.set i (a, (.inl ("java/lang/String", [("java/lang/String", "coder", "B", (.int (0 : Int32))), ("java/lang/String", "value", "[B", .null)]))))) rfl (q := 51) rfl ?_
  intro T5 X5
  obtain ⟨V5, eV5⟩ : ∃ z, z = (V3.set i (a, (.inl ("java/lang/String", [("java/lang/String", "coder", "B", (.int (0 : Int32))), ("java/lang/String", "value", "[B", .null)])))) := ⟨_, rfl⟩
  rw [← eV5] at X5
  have i5_0 := (eV5 ▸ oSetGet i3_0 : V5[i]? = some (a, (.inl ("java/lang/String", [("java/lang/String", "coder", "B", (.int (0 : Int32))), ("java/lang/String", "value", "[B", .null)]))))
  have i5_1 := (eV5 ▸ oSetNe (Ne.symm hik) i3_1 : V5[k]? = some (b, (.inr (.char, [(.int w0), (.int w1)]))))
  have i5_2 := (eV5 ▸ oSetNe (Nat.ne_of_lt (oLt hi)) i3_2 : V5[V.length]? = some (b3', (.inr (.byte, [(.int w0.toInt8.toInt32), (.int w1.toInt8.toInt32)]))))
  refine gAloadN E X5 d3_51 rfl rfl (q := 52) rfl ?_
  refine gAload E X5 d3_52 rfl rfl (q := 54) rfl ?_
  refine gPutF E X5 d3_54 (hw _ (List.mem_of_getElem? (i := 35) rfl)) Via.refl (i := i) i5_0 (j := 1) rfl (Or.inr ⟨(hw _ (List.mem_of_getElem? (i := 36) rfl)), rfl, rfl⟩) (hw _ (List.mem_of_getElem? (i := 9) rfl)) (ty := (.array .byte)) (by decide) rfl rfl (V' := (V5.set i (a, (.inl ("java/lang/String", [("java/lang/String", "coder", "B", (.int (0 : Int32))), ("java/lang/String", "value", "[B", (.ref b3'))]))))) rfl (q := 57) rfl ?_
  intro T6 X6
  obtain ⟨V6, eV6⟩ : ∃ z, z = (V5.set i (a, (.inl ("java/lang/String", [("java/lang/String", "coder", "B", (.int (0 : Int32))), ("java/lang/String", "value", "[B", (.ref b3'))])))) := ⟨_, rfl⟩
  rw [← eV6] at X6
  have i6_0 := (eV6 ▸ oSetGet i5_0 : V6[i]? = some (a, (.inl ("java/lang/String", [("java/lang/String", "coder", "B", (.int (0 : Int32))), ("java/lang/String", "value", "[B", (.ref b3'))]))))
  have i6_1 := (eV6 ▸ oSetNe (Ne.symm hik) i5_1 : V6[k]? = some (b, (.inr (.char, [(.int w0), (.int w1)]))))
  have i6_2 := (eV6 ▸ oSetNe (Nat.ne_of_lt (oLt hi)) i5_2 : V6[V.length]? = some (b3', (.inr (.byte, [(.int w0.toInt8.toInt32), (.int w1.toInt8.toInt32)]))))
  exact gRetV E X6 d3_57 (by decide) (by decide) (by decide) (⟨b3', rfl, by rw [eV6, eV5, List.set_set, eV3, oAppSet hi]⟩)
theorem pd_3 : parseMethodDescriptor "([CIILjava/lang/Void;)V" = some ⟨[(.array .char), .int, .int, (.object "java/lang/Void")], none⟩ := by decide +kernel
theorem d2_0 : decode jdk_42_method_3_code 0 = .ok (.aload_n 0, 1) := by decide +kernel
theorem d2_1 : decode jdk_42_method_3_code 1 = .ok (.aload_n 1, 1) := by decide +kernel
theorem d2_2 : decode jdk_42_method_3_code 2 = .ok (.iconst 0, 1) := by decide +kernel
theorem d2_3 : decode jdk_42_method_3_code 3 = .ok (.aload_n 1, 1) := by decide +kernel
theorem d2_4 : decode jdk_42_method_3_code 4 = .ok (.arraylength, 1) := by decide +kernel
theorem d2_5 : decode jdk_42_method_3_code 5 = .ok (.aconst_null, 1) := by decide +kernel
theorem d2_6 : decode jdk_42_method_3_code 6 = .ok (.invokespecial 27, 3) := by decide +kernel
theorem d2_9 : decode jdk_42_method_3_code 9 = .ok (.return_, 1) := by decide +kernel
set_option maxRecDepth 65536 in
set_option maxHeartbeats 40000000 in
theorem cN2 (l : Launch) (Z : State) (a0 : Array Value) (hw : ∀ d ∈ tables_1, d.before a0 Z = true) {V : oVw} (a : Addr) (b : Addr) (w0 : Int32) (w1 : Int32) (cs : Int32) {i : Nat} (hi : V[i]? = some (a, (.inl ("java/lang/String", [("java/lang/String", "coder", "B", (.int (0 : Int32))), ("java/lang/String", "value", "[B", .null)])))) {k : Nat} (hk : V[k]? = some (b, (.inr (.char, [(.int w0), (.int w1)])))) (hik : k ≠ i) (SC : Sta Z Z.heap "java/lang/String" "COMPACT_STRINGS" "Z" (.int cs)) (hcs : ¬ cs = 0) (b0 : 0 ≤ w0.toInt ∧ w0.toInt ≤ 255) (b1 : 0 ≤ w1.toInt ∧ w1.toInt ≤ 255) :
    oCon false l Z (⟨"java/lang/String", "<init>", "([C)V"⟩ : MethodName) jdk_42_method_3_code 2 none ({ frames := 3, cells := 1, slots := 2, locals := 52 } : Room) #[(.ref a), (.ref b)] V (fun v V' => ∃ b', v = none ∧ V' = V.set i (a, (.inl ("java/lang/String", [("java/lang/String", "coder", "B", (.int (0 : Int32))), ("java/lang/String", "value", "[B", (.ref b'))]))) ++ [(b', .inr (.byte, [(.int w0.toInt8.toInt32), (.int w1.toInt8.toInt32)]))]) := by
  refine oEnter (plainFor_of_name pn_java_lang_String) (Ls := #[.val (.ref a), .val (.ref b)]) (fun m => by first | (simp [entryFrame, mkF, argsToLocals, Value.category]; done) | rfl) ?_
  intro p e s m below meth c T E X
  refine gAloadN E X d2_0 rfl rfl (q := 1) rfl ?_
  refine gAloadN E X d2_1 rfl rfl (q := 2) rfl ?_
  refine gIconst E X d2_2 (v := (0 : Int32)) (by decide) (q := 3) rfl ?_
  refine gAloadN E X d2_3 rfl rfl (q := 4) rfl ?_
  refine gLen E X (i := k) (z := (2 : Int32)) d2_4 hk rfl (q := 5) rfl ?_
  refine gNull E X d2_5 (q := 6) rfl ?_
  refine gCallI E X (W := 0) (c2 := 1) (s2 := 2) (a := a) [(.ref b), (.int (0 : Int32)), (.int (2 : Int32)), .null] [] d2_6 rfl (hw _ (List.mem_of_getElem? (i := 14) rfl)) (hw _ (List.mem_of_getElem? (i := 15) rfl)) (hw _ (List.mem_of_getElem? (i := 10) rfl)) (hw _ (List.mem_of_getElem? (i := 17) rfl)) (by decide) (cS2 l Z a0 hw a b w0 w1 cs (i := i) hi (k := k) hk hik SC hcs b0 b1) pd_3 rfl rfl rfl (by decide) (Nat.le_of_eq rfl) (by decide) (by decide) (by decide) (by decide) (by decide) (by decide) (q := 9) rfl ?_
  intro T1 v1 V1 R1 X1
  obtain ⟨b1', rfl, eV1⟩ := R1
  have i1_0 := (eV1 ▸ oAppGet (oSetGet hi) : V1[i]? = some (a, (.inl ("java/lang/String", [("java/lang/String", "coder", "B", (.int (0 : Int32))), ("java/lang/String", "value", "[B", (.ref b1'))]))))
  have i1_1 := (eV1 ▸ oAppGet (oSetNe (Ne.symm hik) hk) : V1[k]? = some (b, (.inr (.char, [(.int w0), (.int w1)]))))
  show oG false p e below s Z ({ frames := 3, cells := 1, slots := 2, locals := 52 } : Room) (fun v V' => ∃ b', v = none ∧ V' = V.set i (a, (.inl ("java/lang/String", [("java/lang/String", "coder", "B", (.int (0 : Int32))), ("java/lang/String", "value", "[B", (.ref b'))]))) ++ [(b', .inr (.byte, [(.int w0.toInt8.toInt32), (.int w1.toInt8.toInt32)]))]) T1 (mkF m 9 #[.val (.ref a), .val (.ref b)] [])
  exact gRetV E X1 d2_9 (by decide) (by decide) (by decide) (⟨b1', rfl, eV1⟩)
theorem d3_8 : decode jdk_42_method_149_code 8 = .ok (.aload_n 0, 1) := by decide +kernel
theorem d3_9 : decode jdk_42_method_149_code 9 = .ok (.ldc 7, 2) := by decide +kernel
theorem d3_11 : decode jdk_42_method_149_code 11 = .ok (.getfield 9, 3) := by decide +kernel
theorem d3_14 : decode jdk_42_method_149_code 14 = .ok (.putfield 9, 3) := by decide +kernel
theorem d3_17 : decode jdk_42_method_149_code 17 = .ok (.aload_n 0, 1) := by decide +kernel
theorem d3_18 : decode jdk_42_method_149_code 18 = .ok (.ldc 7, 2) := by decide +kernel
theorem d3_20 : decode jdk_42_method_149_code 20 = .ok (.getfield 15, 3) := by decide +kernel
theorem d3_23 : decode jdk_42_method_149_code 23 = .ok (.putfield 15, 3) := by decide +kernel
theorem d3_26 : decode jdk_42_method_149_code 26 = .ok (.return_, 1) := by decide +kernel
set_option maxRecDepth 65536 in
set_option maxHeartbeats 40000000 in
theorem cS0 (l : Launch) (Z : State) (a0 : Array Value) (hw : ∀ d ∈ tables_1, d.before a0 Z = true) {V : oVw} (a : Addr) (b : Addr) {i : Nat} (hi : V[i]? = some (a, (.inl ("java/lang/String", [("java/lang/String", "coder", "B", (.int (0 : Int32))), ("java/lang/String", "value", "[B", .null)])))) (hh : Jvm.Lit.constHeld Z "java/lang/String" 7) (hcw : Jvm.Lit.compactW.before a0 Z = true) :
    oCon true l Z (⟨"java/lang/String", "<init>", "([CIILjava/lang/Void;)V"⟩ : MethodName) jdk_42_method_149_code 6 none ({ frames := 1, cells := 2, slots := 4, locals := 12 } : Room) #[(.ref a), (.ref b), (.int (0 : Int32)), (.int (0 : Int32)), .null] V (fun v V' => ∃ b', v = none ∧ V' = V.set i (a, (.inl ("java/lang/String", [("java/lang/String", "coder", "B", (.int (0 : Int32))), ("java/lang/String", "value", "[B", (.ref b'))])))) := by
  refine oEnterH (plainFor_of_name pn_java_lang_String) (Ls := #[.val (.ref a), .val (.ref b), .val (.int (0 : Int32)), .val (.int (0 : Int32)), .val .null, .unset]) (fun m => by first | (simp [entryFrame, mkF, argsToLocals, Value.category]; done) | rfl) ?_
  intro p e s m below meth c T E X hO
  refine gAloadN E X d3_0 rfl rfl (q := 1) rfl ?_
  refine gInitOH E X (W := 0) d3_1 (hw _ (List.mem_of_getElem? (i := 18) rfl)) (hw _ (List.mem_of_getElem? (i := 19) rfl)) (hw _ (List.mem_of_getElem? (i := 20) rfl)) rfl (by decide) (Nat.le_of_eq rfl) (by decide) (q := 4) rfl ?_
  intro T1 X1 hO1
  rw [hO] at hO1
  refine gIloadN E X1 d3_4 rfl (q := 5) rfl ?_
  refine gIf_ne E X1 d3_5 (by decide) (q := 27) (by decide) (q' := 8) rfl (fun h5 => by exfalso; exact absurd h5 (by decide)) (fun h5 => ?_)
  refine gAloadN E X1 d3_8 rfl rfl (q := 9) rfl ?_
  refine gEmpty1 E X1 (c2 := 2) (s2 := 4) d3_9 d3_11 d3_14 (hw _ (List.mem_of_getElem? (i := 109) rfl)) (own_str hw) hh hcw (hw _ (List.mem_of_getElem? (i := 35) rfl)) (i := i) hi (j := 1) rfl (Or.inr ⟨(hw _ (List.mem_of_getElem? (i := 36) rfl)), rfl, rfl⟩) (hw _ (List.mem_of_getElem? (i := 9) rfl)) hO1 (by decide) (by decide) (by decide) (by decide) (q := 17) rfl ?_
  intro T2 sa b2' X2 Fc2 Lt2
  replace X2 : oX p l e ({ frames := 1, cells := 2, slots := 4, locals := 12 } : Room) s m #[(.ref a), (.ref b), (.int (0 : Int32)), (.int (0 : Int32)), .null] below meth c Z T2 (V.set i (a, (.inl ("java/lang/String", [("java/lang/String", "coder", "B", (.int (0 : Int32))), ("java/lang/String", "value", "[B", (.ref b2'))])))) 2 4 _ := X2
  obtain ⟨V2, eV2⟩ : ∃ z, z = (V.set i (a, (.inl ("java/lang/String", [("java/lang/String", "coder", "B", (.int (0 : Int32))), ("java/lang/String", "value", "[B", (.ref b2'))])))) := ⟨_, rfl⟩
  rw [← eV2] at X2
  have i2_0 := (eV2 ▸ oSetGet hi : V2[i]? = some (a, (.inl ("java/lang/String", [("java/lang/String", "coder", "B", (.int (0 : Int32))), ("java/lang/String", "value", "[B", (.ref b2'))]))))
  refine gAloadN E X2 d3_17 rfl rfl (q := 18) rfl ?_
  refine gLdcA E X2 d3_18 (hw _ (List.mem_of_getElem? (i := 109) rfl)) Lt2 (q := 20) rfl ?_
  refine gGetFT E X2 d3_20 (hw _ (List.mem_of_getElem? (i := 33) rfl)) Via.refl Fc2 (q := 23) rfl ?_
  intro T3 X3
  refine gPutF E X3 d3_23 (hw _ (List.mem_of_getElem? (i := 33) rfl)) Via.refl (i := i) i2_0 (j := 0) rfl (Or.inr ⟨(hw _ (List.mem_of_getElem? (i := 34) rfl)), rfl, rfl⟩) (hw _ (List.mem_of_getElem? (i := 9) rfl)) (ty := .byte) (by decide) rfl rfl (V' := (V2.set i (a, (.inl ("java/lang/String", [("java/lang/String", "coder", "B", (.int (0 : Int32))), ("java/lang/String", "value", "[B", (.ref b2'))]))))) rfl (q := 26) rfl ?_
  intro T4 X4
  obtain ⟨V4, eV4⟩ : ∃ z, z = (V2.set i (a, (.inl ("java/lang/String", [("java/lang/String", "coder", "B", (.int (0 : Int32))), ("java/lang/String", "value", "[B", (.ref b2'))])))) := ⟨_, rfl⟩
  rw [← eV4] at X4
  have i4_0 := (eV4 ▸ oSetGet i2_0 : V4[i]? = some (a, (.inl ("java/lang/String", [("java/lang/String", "coder", "B", (.int (0 : Int32))), ("java/lang/String", "value", "[B", (.ref b2'))]))))
  exact gRetV E X4 d3_26 (by decide) (by decide) (by decide) (⟨b2', rfl, by rw [eV4, eV2, List.set_set]⟩)
set_option maxRecDepth 65536 in
set_option maxHeartbeats 40000000 in
theorem cN0 (l : Launch) (Z : State) (a0 : Array Value) (hw : ∀ d ∈ tables_1, d.before a0 Z = true) {V : oVw} (a : Addr) (b : Addr) {i : Nat} (hi : V[i]? = some (a, (.inl ("java/lang/String", [("java/lang/String", "coder", "B", (.int (0 : Int32))), ("java/lang/String", "value", "[B", .null)])))) {k : Nat} (hk : V[k]? = some (b, (.inr (.char, [])))) (hik : k ≠ i) (hh : Jvm.Lit.constHeld Z "java/lang/String" 7) (hcw : Jvm.Lit.compactW.before a0 Z = true) :
    oCon true l Z (⟨"java/lang/String", "<init>", "([C)V"⟩ : MethodName) jdk_42_method_3_code 2 none ({ frames := 2, cells := 2, slots := 4, locals := 30 } : Room) #[(.ref a), (.ref b)] V (fun v V' => ∃ b', v = none ∧ V' = V.set i (a, (.inl ("java/lang/String", [("java/lang/String", "coder", "B", (.int (0 : Int32))), ("java/lang/String", "value", "[B", (.ref b'))])))) := by
  refine oEnter (plainFor_of_name pn_java_lang_String) (Ls := #[.val (.ref a), .val (.ref b)]) (fun m => by first | (simp [entryFrame, mkF, argsToLocals, Value.category]; done) | rfl) ?_
  intro p e s m below meth c T E X
  refine gAloadN E X d2_0 rfl rfl (q := 1) rfl ?_
  refine gAloadN E X d2_1 rfl rfl (q := 2) rfl ?_
  refine gIconst E X d2_2 (v := (0 : Int32)) (by decide) (q := 3) rfl ?_
  refine gAloadN E X d2_3 rfl rfl (q := 4) rfl ?_
  refine gLen E X (i := k) (z := (0 : Int32)) d2_4 hk rfl (q := 5) rfl ?_
  refine gNull E X d2_5 (q := 6) rfl ?_
  refine gCallI E X (W := 0) (c2 := 2) (s2 := 4) (a := a) [(.ref b), (.int (0 : Int32)), (.int (0 : Int32)), .null] [] d2_6 rfl (hw _ (List.mem_of_getElem? (i := 14) rfl)) (hw _ (List.mem_of_getElem? (i := 15) rfl)) (hw _ (List.mem_of_getElem? (i := 10) rfl)) (hw _ (List.mem_of_getElem? (i := 17) rfl)) (by decide) (cS0 l Z a0 hw a b (i := i) hi hh hcw) pd_3 rfl rfl rfl (by decide) (Nat.le_of_eq rfl) (by decide) (by decide) (by decide) (by decide) (by decide) (by decide) (q := 9) rfl ?_
  intro T1 v1 V1 R1 X1
  obtain ⟨b1', rfl, eV1⟩ := R1
  have i1_0 := (eV1 ▸ (oSetGet hi) : V1[i]? = some (a, (.inl ("java/lang/String", [("java/lang/String", "coder", "B", (.int (0 : Int32))), ("java/lang/String", "value", "[B", (.ref b1'))]))))
  have i1_1 := (eV1 ▸ (oSetNe (Ne.symm hik) hk) : V1[k]? = some (b, (.inr (.char, []))))
  show oG true p e below s Z ({ frames := 2, cells := 2, slots := 4, locals := 30 } : Room) (fun v V' => ∃ b', v = none ∧ V' = V.set i (a, (.inl ("java/lang/String", [("java/lang/String", "coder", "B", (.int (0 : Int32))), ("java/lang/String", "value", "[B", (.ref b'))])))) T1 (mkF m 9 #[.val (.ref a), .val (.ref b)] [])
  exact gRetV E X1 d2_9 (by decide) (by decide) (by decide) (⟨b1', rfl, eV1⟩)
theorem d1_0 : decode method_2_code 0 = .ok (.iload_n 0, 1) := by decide +kernel
theorem d1_1 : decode method_2_code 1 = .ok (.ifCond .ne 7, 3) := by decide +kernel
theorem d1_4 : decode method_2_code 4 = .ok (.getstatic 7, 3) := by decide +kernel
theorem d1_7 : decode method_2_code 7 = .ok (.areturn, 1) := by decide +kernel
theorem d1_8 : decode method_2_code 8 = .ok (.iload_n 0, 1) := by decide +kernel
theorem d1_9 : decode method_2_code 9 = .ok (.iconst 1, 1) := by decide +kernel
theorem d1_10 : decode method_2_code 10 = .ok (.if_icmp .ne 7, 3) := by decide +kernel
theorem d1_13 : decode method_2_code 13 = .ok (.getstatic 13, 3) := by decide +kernel
theorem d1_16 : decode method_2_code 16 = .ok (.areturn, 1) := by decide +kernel
theorem d1_17 : decode method_2_code 17 = .ok (.iload_n 0, 1) := by decide +kernel
theorem d1_18 : decode method_2_code 18 = .ok (.iconst 2, 1) := by decide +kernel
theorem d1_19 : decode method_2_code 19 = .ok (.if_icmp .ne 7, 3) := by decide +kernel
theorem d1_22 : decode method_2_code 22 = .ok (.getstatic 16, 3) := by decide +kernel
theorem d1_25 : decode method_2_code 25 = .ok (.areturn, 1) := by decide +kernel
theorem d1_26 : decode method_2_code 26 = .ok (.iload_n 0, 1) := by decide +kernel
theorem d1_27 : decode method_2_code 27 = .ok (.iconst 3, 1) := by decide +kernel
theorem d1_28 : decode method_2_code 28 = .ok (.if_icmp .ne 7, 3) := by decide +kernel
theorem d1_31 : decode method_2_code 31 = .ok (.getstatic 19, 3) := by decide +kernel
theorem d1_34 : decode method_2_code 34 = .ok (.areturn, 1) := by decide +kernel
theorem d1_35 : decode method_2_code 35 = .ok (.iload_n 0, 1) := by decide +kernel
theorem d1_36 : decode method_2_code 36 = .ok (.iconst 4, 1) := by decide +kernel
theorem d1_37 : decode method_2_code 37 = .ok (.if_icmp .ne 7, 3) := by decide +kernel
theorem d1_40 : decode method_2_code 40 = .ok (.getstatic 22, 3) := by decide +kernel
theorem d1_43 : decode method_2_code 43 = .ok (.areturn, 1) := by decide +kernel
theorem d1_44 : decode method_2_code 44 = .ok (.iload_n 0, 1) := by decide +kernel
theorem d1_45 : decode method_2_code 45 = .ok (.iconst 5, 1) := by decide +kernel
theorem d1_46 : decode method_2_code 46 = .ok (.if_icmp .ne 7, 3) := by decide +kernel
theorem d1_49 : decode method_2_code 49 = .ok (.getstatic 25, 3) := by decide +kernel
theorem d1_52 : decode method_2_code 52 = .ok (.areturn, 1) := by decide +kernel
theorem d1_53 : decode method_2_code 53 = .ok (.iload_n 0, 1) := by decide +kernel
theorem d1_54 : decode method_2_code 54 = .ok (.bipush 6, 2) := by decide +kernel
theorem d1_56 : decode method_2_code 56 = .ok (.if_icmp .ne 7, 3) := by decide +kernel
theorem d1_59 : decode method_2_code 59 = .ok (.getstatic 28, 3) := by decide +kernel
theorem d1_62 : decode method_2_code 62 = .ok (.areturn, 1) := by decide +kernel
theorem d1_63 : decode method_2_code 63 = .ok (.getstatic 31, 3) := by decide +kernel
theorem d1_66 : decode method_2_code 66 = .ok (.areturn, 1) := by decide +kernel
theorem pn_com_example_prizebook_prizebook_AnswerOfPinLaw : plainName "com/example/prizebook/prizebook/AnswerOfPinLaw" = true := by first | (simp [plainName, overriddenIn]; done) | decide +kernel
set_option maxRecDepth 65536 in
set_option maxHeartbeats 40000000 in
theorem cP (l : Launch) (Z : State) (a0 : Array Value) (hw : ∀ d ∈ tables_1, d.before a0 Z = true) {V : oVw} (y0 : Int32) (p0 : Addr) (p1 : Addr) (p2 : Addr) (p3 : Addr) (p4 : Addr) (p5 : Addr) (p6 : Addr) (p7 : Addr)  (S0 : Sta Z Z.heap "com/example/prizebook/prizebook/Answer$Outcome" "PAID" "Lcom/example/prizebook/prizebook/Answer$Outcome;" (.ref p0)) (S1 : Sta Z Z.heap "com/example/prizebook/prizebook/Answer$Outcome" "ALREADY_PAID" "Lcom/example/prizebook/prizebook/Answer$Outcome;" (.ref p1)) (S2 : Sta Z Z.heap "com/example/prizebook/prizebook/Answer$Outcome" "VOIDED" "Lcom/example/prizebook/prizebook/Answer$Outcome;" (.ref p2)) (S3 : Sta Z Z.heap "com/example/prizebook/prizebook/Answer$Outcome" "ALREADY_VOID" "Lcom/example/prizebook/prizebook/Answer$Outcome;" (.ref p3)) (S4 : Sta Z Z.heap "com/example/prizebook/prizebook/Answer$Outcome" "EXPIRED" "Lcom/example/prizebook/prizebook/Answer$Outcome;" (.ref p4)) (S5 : Sta Z Z.heap "com/example/prizebook/prizebook/Answer$Outcome" "NO_PRIZE" "Lcom/example/prizebook/prizebook/Answer$Outcome;" (.ref p5)) (S6 : Sta Z Z.heap "com/example/prizebook/prizebook/Answer$Outcome" "UNKNOWN" "Lcom/example/prizebook/prizebook/Answer$Outcome;" (.ref p6)) (S7 : Sta Z Z.heap "com/example/prizebook/prizebook/Answer$Outcome" "INVALID" "Lcom/example/prizebook/prizebook/Answer$Outcome;" (.ref p7)) :
    oCon false l Z (⟨"com/example/prizebook/prizebook/AnswerOfPinLaw", "pick", "(I)Lcom/example/prizebook/prizebook/Answer$Outcome;"⟩ : MethodName) method_2_code 1 (some (.object "com/example/prizebook/prizebook/Answer$Outcome")) ({ frames := 0, cells := 0, slots := 0, locals := 0 } : Room) #[(.int y0)] V (fun v V' => ∃ w : Addr, v = some (.ref w) ∧ V' = V) := by
  refine oEnter (plainFor_of_name pn_com_example_prizebook_prizebook_AnswerOfPinLaw) (Ls := #[.val (.int y0)]) (fun m => by first | (simp [entryFrame, mkF, argsToLocals, Value.category]; done) | rfl) ?_
  intro p e s m below meth c T E X
  refine gIloadN E X d1_0 rfl (q := 1) rfl ?_
  refine gIf_ne E X d1_1 (by decide) (q := 8) (by decide) (q' := 4) rfl (fun h1 => ?_) (fun h1 => ?_)
  · refine gIloadN E X d1_8 rfl (q := 9) rfl ?_
    refine gIconst E X d1_9 (v := (1 : Int32)) (by decide) (q := 10) rfl ?_
    refine gIc_ne E X d1_10 (by decide) (q := 17) (by decide) (q' := 13) rfl (fun h10 => ?_) (fun h10 => ?_)
    · refine gIloadN E X d1_17 rfl (q := 18) rfl ?_
      refine gIconst E X d1_18 (v := (2 : Int32)) (by decide) (q := 19) rfl ?_
      refine gIc_ne E X d1_19 (by decide) (q := 26) (by decide) (q' := 22) rfl (fun h19 => ?_) (fun h19 => ?_)
      · refine gIloadN E X d1_26 rfl (q := 27) rfl ?_
        refine gIconst E X d1_27 (v := (3 : Int32)) (by decide) (q := 28) rfl ?_
        refine gIc_ne E X d1_28 (by decide) (q := 35) (by decide) (q' := 31) rfl (fun h28 => ?_) (fun h28 => ?_)
        · refine gIloadN E X d1_35 rfl (q := 36) rfl ?_
          refine gIconst E X d1_36 (v := (4 : Int32)) (by decide) (q := 37) rfl ?_
          refine gIc_ne E X d1_37 (by decide) (q := 44) (by decide) (q' := 40) rfl (fun h37 => ?_) (fun h37 => ?_)
          · refine gIloadN E X d1_44 rfl (q := 45) rfl ?_
            refine gIconst E X d1_45 (v := (5 : Int32)) (by decide) (q := 46) rfl ?_
            refine gIc_ne E X d1_46 (by decide) (q := 53) (by decide) (q' := 49) rfl (fun h46 => ?_) (fun h46 => ?_)
            · refine gIloadN E X d1_53 rfl (q := 54) rfl ?_
              refine gBipush E X d1_54 (v := (6 : Int32)) (by decide) (q := 56) rfl ?_
              refine gIc_ne E X d1_56 (by decide) (q := 63) (by decide) (q' := 59) rfl (fun h56 => ?_) (fun h56 => ?_)
              · refine gGetS E X d1_63 (hw _ (List.mem_of_getElem? (i := 89) rfl)) Via.refl S7 (q := 66) rfl ?_
                intro T1 X1
                exact gRetA E X1 rfl d1_66 (by decide) (by decide) (by decide) rfl rfl (⟨_, rfl, rfl⟩)
              · refine gGetS E X d1_59 (hw _ (List.mem_of_getElem? (i := 116) rfl)) Via.refl S6 (q := 62) rfl ?_
                intro T2 X2
                exact gRetA E X2 rfl d1_62 (by decide) (by decide) (by decide) rfl rfl (⟨_, rfl, rfl⟩)
            · refine gGetS E X d1_49 (hw _ (List.mem_of_getElem? (i := 114) rfl)) Via.refl S5 (q := 52) rfl ?_
              intro T3 X3
              exact gRetA E X3 rfl d1_52 (by decide) (by decide) (by decide) rfl rfl (⟨_, rfl, rfl⟩)
          · refine gGetS E X d1_40 (hw _ (List.mem_of_getElem? (i := 87) rfl)) Via.refl S4 (q := 43) rfl ?_
            intro T4 X4
            exact gRetA E X4 rfl d1_43 (by decide) (by decide) (by decide) rfl rfl (⟨_, rfl, rfl⟩)
        · refine gGetS E X d1_31 (hw _ (List.mem_of_getElem? (i := 112) rfl)) Via.refl S3 (q := 34) rfl ?_
          intro T5 X5
          exact gRetA E X5 rfl d1_34 (by decide) (by decide) (by decide) rfl rfl (⟨_, rfl, rfl⟩)
      · refine gGetS E X d1_22 (hw _ (List.mem_of_getElem? (i := 91) rfl)) Via.refl S2 (q := 25) rfl ?_
        intro T6 X6
        exact gRetA E X6 rfl d1_25 (by decide) (by decide) (by decide) rfl rfl (⟨_, rfl, rfl⟩)
    · refine gGetS E X d1_13 (hw _ (List.mem_of_getElem? (i := 107) rfl)) Via.refl S1 (q := 16) rfl ?_
      intro T7 X7
      exact gRetA E X7 rfl d1_16 (by decide) (by decide) (by decide) rfl rfl (⟨_, rfl, rfl⟩)
  · refine gGetS E X d1_4 (hw _ (List.mem_of_getElem? (i := 4) rfl)) Via.refl S0 (q := 7) rfl ?_
    intro T8 X8
    exact gRetA E X8 rfl d1_7 (by decide) (by decide) (by decide) rfl rfl (⟨_, rfl, rfl⟩)
theorem d10_0 : decode jdk_30_method_1_code 0 = .ok (.aload_n 0, 1) := by decide +kernel
theorem d10_1 : decode jdk_30_method_1_code 1 = .ok (.invokespecial 1, 3) := by decide +kernel
theorem d10_4 : decode jdk_30_method_1_code 4 = .ok (.return_, 1) := by decide +kernel
theorem pn_java_lang_Record : plainName "java/lang/Record" = true := by first | (simp [plainName, overriddenIn]; done) | decide +kernel
set_option maxRecDepth 65536 in
set_option maxHeartbeats 40000000 in
theorem cR (l : Launch) (Z : State) (a0 : Array Value) (hw : ∀ d ∈ tables_1, d.before a0 Z = true) {V : oVw} (a : Addr)   :
    oCon false l Z (⟨"java/lang/Record", "<init>", "()V"⟩ : MethodName) jdk_30_method_1_code 1 none ({ frames := 1, cells := 0, slots := 0, locals := 12 } : Room) #[(.ref a)] V (fun v V' => v = none ∧ V' = V) := by
  refine oEnter (plainFor_of_name pn_java_lang_Record) (Ls := #[.val (.ref a)]) (fun m => by first | (simp [entryFrame, mkF, argsToLocals, Value.category]; done) | rfl) ?_
  intro p e s m below meth c T E X
  refine gAloadN E X d10_0 rfl rfl (q := 1) rfl ?_
  refine gInitO E X (W := 0) d10_1 (hw _ (List.mem_of_getElem? (i := 51) rfl)) (hw _ (List.mem_of_getElem? (i := 19) rfl)) (hw _ (List.mem_of_getElem? (i := 20) rfl)) rfl (by decide) (Nat.le_of_eq rfl) (by decide) (q := 4) rfl ?_
  intro T1 X1
  exact gRetV E X1 d10_4 (by decide) (by decide) (by decide) (⟨rfl, rfl⟩)
theorem pd_4 : parseMethodDescriptor "()V" = some ⟨[], none⟩ := by decide +kernel
theorem d9_0 : decode prog_1_method_1_code 0 = .ok (.aload_n 0, 1) := by decide +kernel
theorem d9_1 : decode prog_1_method_1_code 1 = .ok (.invokespecial 1, 3) := by decide +kernel
theorem d9_4 : decode prog_1_method_1_code 4 = .ok (.aload_n 0, 1) := by decide +kernel
theorem d9_5 : decode prog_1_method_1_code 5 = .ok (.aload_n 1, 1) := by decide +kernel
theorem d9_6 : decode prog_1_method_1_code 6 = .ok (.putfield 7, 3) := by decide +kernel
theorem d9_9 : decode prog_1_method_1_code 9 = .ok (.aload_n 0, 1) := by decide +kernel
theorem d9_10 : decode prog_1_method_1_code 10 = .ok (.aload_n 2, 1) := by decide +kernel
theorem d9_11 : decode prog_1_method_1_code 11 = .ok (.putfield 13, 3) := by decide +kernel
theorem d9_14 : decode prog_1_method_1_code 14 = .ok (.aload_n 0, 1) := by decide +kernel
theorem d9_15 : decode prog_1_method_1_code 15 = .ok (.aload_n 3, 1) := by decide +kernel
theorem d9_16 : decode prog_1_method_1_code 16 = .ok (.putfield 17, 3) := by decide +kernel
theorem d9_19 : decode prog_1_method_1_code 19 = .ok (.aload_n 0, 1) := by decide +kernel
theorem d9_20 : decode prog_1_method_1_code 20 = .ok (.aload 4, 2) := by decide +kernel
theorem d9_22 : decode prog_1_method_1_code 22 = .ok (.putfield 21, 3) := by decide +kernel
theorem d9_25 : decode prog_1_method_1_code 25 = .ok (.aload_n 0, 1) := by decide +kernel
theorem d9_26 : decode prog_1_method_1_code 26 = .ok (.aload 5, 2) := by decide +kernel
theorem d9_28 : decode prog_1_method_1_code 28 = .ok (.putfield 25, 3) := by decide +kernel
theorem d9_31 : decode prog_1_method_1_code 31 = .ok (.return_, 1) := by decide +kernel
theorem pn_com_example_prizebook_prizebook_Answer : plainName "com/example/prizebook/prizebook/Answer" = true := by first | (simp [plainName, overriddenIn]; done) | decide +kernel
set_option maxRecDepth 65536 in
set_option maxHeartbeats 40000000 in
theorem cI (l : Launch) (Z : State) (a0 : Array Value) (hw : ∀ d ∈ tables_1, d.before a0 Z = true) {V : oVw} (a : Addr) (b : Addr) (sv : Value) {i : Nat} (hi : V[i]? = some (a, (.inl ("com/example/prizebook/prizebook/Answer", [("com/example/prizebook/prizebook/Answer", "outcome", "Lcom/example/prizebook/prizebook/Answer$Outcome;", .null), ("com/example/prizebook/prizebook/Answer", "number", "Ljava/lang/String;", .null), ("com/example/prizebook/prizebook/Answer", "payment", "Lcom/example/prizebook/prizebook/Payment;", .null), ("com/example/prizebook/prizebook/Answer", "voiding", "Lcom/example/prizebook/prizebook/Voiding;", .null), ("com/example/prizebook/prizebook/Answer", "expiry", "Lcom/example/prizebook/prizebook/Expiry;", .null)])))) (hsv : sv.isRef = true) :
    oCon false l Z (⟨"com/example/prizebook/prizebook/Answer", "<init>", "(Lcom/example/prizebook/prizebook/Answer$Outcome;Ljava/lang/String;Lcom/example/prizebook/prizebook/Payment;Lcom/example/prizebook/prizebook/Voiding;Lcom/example/prizebook/prizebook/Expiry;)V"⟩ : MethodName) prog_1_method_1_code 6 none ({ frames := 2, cells := 0, slots := 0, locals := 24 } : Room) #[(.ref a), (.ref b), sv, .null, .null, .null] V (fun v V' => v = none ∧ V' = V.set i (a, (.inl ("com/example/prizebook/prizebook/Answer", [("com/example/prizebook/prizebook/Answer", "outcome", "Lcom/example/prizebook/prizebook/Answer$Outcome;", (.ref b)), ("com/example/prizebook/prizebook/Answer", "number", "Ljava/lang/String;", sv), ("com/example/prizebook/prizebook/Answer", "payment", "Lcom/example/prizebook/prizebook/Payment;", .null), ("com/example/prizebook/prizebook/Answer", "voiding", "Lcom/example/prizebook/prizebook/Voiding;", .null), ("com/example/prizebook/prizebook/Answer", "expiry", "Lcom/example/prizebook/prizebook/Expiry;", .null)])))) := by
  refine oEnter (plainFor_of_name pn_com_example_prizebook_prizebook_Answer) (Ls := #[.val (.ref a), .val (.ref b), .val sv, .val .null, .val .null, .val .null]) (fun m => by cases sv <;> first | (simp [entryFrame, mkF, argsToLocals, Value.category]; done) | (simp [Value.isRef] at hsv; done)) ?_
  intro p e s m below meth c T E X
  refine gAloadN E X d9_0 rfl rfl (q := 1) rfl ?_
  refine gCallI E X (W := 0) (c2 := 0) (s2 := 0) (a := a) [] [] d9_1 rfl (hw _ (List.mem_of_getElem? (i := 46) rfl)) (hw _ (List.mem_of_getElem? (i := 47) rfl)) (hw _ (List.mem_of_getElem? (i := 49) rfl)) (hw _ (List.mem_of_getElem? (i := 50) rfl)) (by decide) (cR l Z a0 hw a) pd_4 rfl rfl rfl (by decide) (Nat.le_of_eq rfl) (by decide) (by decide) (by decide) (by decide) (by decide) (by decide) (q := 4) rfl ?_
  intro T1 v1 V1 R1 X1
  obtain ⟨rfl, eQ1⟩ := R1
  rw [eQ1] at X1
  show oG false p e below s Z ({ frames := 2, cells := 0, slots := 0, locals := 24 } : Room) (fun v V' => v = none ∧ V' = V.set i (a, (.inl ("com/example/prizebook/prizebook/Answer", [("com/example/prizebook/prizebook/Answer", "outcome", "Lcom/example/prizebook/prizebook/Answer$Outcome;", (.ref b)), ("com/example/prizebook/prizebook/Answer", "number", "Ljava/lang/String;", sv), ("com/example/prizebook/prizebook/Answer", "payment", "Lcom/example/prizebook/prizebook/Payment;", .null), ("com/example/prizebook/prizebook/Answer", "voiding", "Lcom/example/prizebook/prizebook/Voiding;", .null), ("com/example/prizebook/prizebook/Answer", "expiry", "Lcom/example/prizebook/prizebook/Expiry;", .null)])))) T1 (mkF m 4 #[.val (.ref a), .val (.ref b), .val sv, .val .null, .val .null, .val .null] [])
  refine gAloadN E X1 d9_4 rfl rfl (q := 5) rfl ?_
  refine gAloadN E X1 d9_5 rfl rfl (q := 6) rfl ?_
  refine gPutF E X1 d9_6 (hw _ (List.mem_of_getElem? (i := 52) rfl)) Via.refl (i := i) hi (j := 0) rfl (Or.inr ⟨(hw _ (List.mem_of_getElem? (i := 53) rfl)), rfl, rfl⟩) (hw _ (List.mem_of_getElem? (i := 42) rfl)) (ty := (.object "com/example/prizebook/prizebook/Answer$Outcome")) (by decide) rfl rfl (V' := (V.set i (a, (.inl ("com/example/prizebook/prizebook/Answer", [("com/example/prizebook/prizebook/Answer", "outcome", "Lcom/example/prizebook/prizebook/Answer$Outcome;", (.ref b)), ("com/example/prizebook/prizebook/Answer", "number", "Ljava/lang/String;", .null), ("com/example/prizebook/prizebook/Answer", "payment", "Lcom/example/prizebook/prizebook/Payment;", .null), ("com/example/prizebook/prizebook/Answer", "voiding", "Lcom/example/prizebook/prizebook/Voiding;", .null), ("com/example/prizebook/prizebook/Answer", "expiry", "Lcom/example/prizebook/prizebook/Expiry;", .null)]))))) rfl (q := 9) rfl ?_
  intro T2 X2
  obtain ⟨V2, eV2⟩ : ∃ z, z = (V.set i (a, (.inl ("com/example/prizebook/prizebook/Answer", [("com/example/prizebook/prizebook/Answer", "outcome", "Lcom/example/prizebook/prizebook/Answer$Outcome;", (.ref b)), ("com/example/prizebook/prizebook/Answer", "number", "Ljava/lang/String;", .null), ("com/example/prizebook/prizebook/Answer", "payment", "Lcom/example/prizebook/prizebook/Payment;", .null), ("com/example/prizebook/prizebook/Answer", "voiding", "Lcom/example/prizebook/prizebook/Voiding;", .null), ("com/example/prizebook/prizebook/Answer", "expiry", "Lcom/example/prizebook/prizebook/Expiry;", .null)])))) := ⟨_, rfl⟩
  rw [← eV2] at X2
  have i2_0 := (eV2 ▸ oSetGet hi : V2[i]? = some (a, (.inl ("com/example/prizebook/prizebook/Answer", [("com/example/prizebook/prizebook/Answer", "outcome", "Lcom/example/prizebook/prizebook/Answer$Outcome;", (.ref b)), ("com/example/prizebook/prizebook/Answer", "number", "Ljava/lang/String;", .null), ("com/example/prizebook/prizebook/Answer", "payment", "Lcom/example/prizebook/prizebook/Payment;", .null), ("com/example/prizebook/prizebook/Answer", "voiding", "Lcom/example/prizebook/prizebook/Voiding;", .null), ("com/example/prizebook/prizebook/Answer", "expiry", "Lcom/example/prizebook/prizebook/Expiry;", .null)]))))
  refine gAloadN E X2 d9_9 rfl rfl (q := 10) rfl ?_
  refine gAloadN E X2 d9_10 rfl hsv (q := 11) rfl ?_
  refine gPutF E X2 d9_11 (hw _ (List.mem_of_getElem? (i := 54) rfl)) Via.refl (i := i) i2_0 (j := 1) rfl (Or.inr ⟨(hw _ (List.mem_of_getElem? (i := 55) rfl)), rfl, rfl⟩) (hw _ (List.mem_of_getElem? (i := 42) rfl)) (ty := (.object "java/lang/String")) (by decide) (oNarR hsv) (oFitR rfl hsv) (V' := (V2.set i (a, (.inl ("com/example/prizebook/prizebook/Answer", [("com/example/prizebook/prizebook/Answer", "outcome", "Lcom/example/prizebook/prizebook/Answer$Outcome;", (.ref b)), ("com/example/prizebook/prizebook/Answer", "number", "Ljava/lang/String;", sv), ("com/example/prizebook/prizebook/Answer", "payment", "Lcom/example/prizebook/prizebook/Payment;", .null), ("com/example/prizebook/prizebook/Answer", "voiding", "Lcom/example/prizebook/prizebook/Voiding;", .null), ("com/example/prizebook/prizebook/Answer", "expiry", "Lcom/example/prizebook/prizebook/Expiry;", .null)]))))) rfl (q := 14) rfl ?_
  intro T3 X3
  obtain ⟨V3, eV3⟩ : ∃ z, z = (V2.set i (a, (.inl ("com/example/prizebook/prizebook/Answer", [("com/example/prizebook/prizebook/Answer", "outcome", "Lcom/example/prizebook/prizebook/Answer$Outcome;", (.ref b)), ("com/example/prizebook/prizebook/Answer", "number", "Ljava/lang/String;", sv), ("com/example/prizebook/prizebook/Answer", "payment", "Lcom/example/prizebook/prizebook/Payment;", .null), ("com/example/prizebook/prizebook/Answer", "voiding", "Lcom/example/prizebook/prizebook/Voiding;", .null), ("com/example/prizebook/prizebook/Answer", "expiry", "Lcom/example/prizebook/prizebook/Expiry;", .null)])))) := ⟨_, rfl⟩
  rw [← eV3] at X3
  have i3_0 := (eV3 ▸ oSetGet i2_0 : V3[i]? = some (a, (.inl ("com/example/prizebook/prizebook/Answer", [("com/example/prizebook/prizebook/Answer", "outcome", "Lcom/example/prizebook/prizebook/Answer$Outcome;", (.ref b)), ("com/example/prizebook/prizebook/Answer", "number", "Ljava/lang/String;", sv), ("com/example/prizebook/prizebook/Answer", "payment", "Lcom/example/prizebook/prizebook/Payment;", .null), ("com/example/prizebook/prizebook/Answer", "voiding", "Lcom/example/prizebook/prizebook/Voiding;", .null), ("com/example/prizebook/prizebook/Answer", "expiry", "Lcom/example/prizebook/prizebook/Expiry;", .null)]))))
  refine gAloadN E X3 d9_14 rfl rfl (q := 15) rfl ?_
  refine gAloadN E X3 d9_15 rfl rfl (q := 16) rfl ?_
  refine gPutF E X3 d9_16 (hw _ (List.mem_of_getElem? (i := 56) rfl)) Via.refl (i := i) i3_0 (j := 2) rfl (Or.inr ⟨(hw _ (List.mem_of_getElem? (i := 57) rfl)), rfl, rfl⟩) (hw _ (List.mem_of_getElem? (i := 42) rfl)) (ty := (.object "com/example/prizebook/prizebook/Payment")) (by decide) rfl rfl (V' := (V3.set i (a, (.inl ("com/example/prizebook/prizebook/Answer", [("com/example/prizebook/prizebook/Answer", "outcome", "Lcom/example/prizebook/prizebook/Answer$Outcome;", (.ref b)), ("com/example/prizebook/prizebook/Answer", "number", "Ljava/lang/String;", sv), ("com/example/prizebook/prizebook/Answer", "payment", "Lcom/example/prizebook/prizebook/Payment;", .null), ("com/example/prizebook/prizebook/Answer", "voiding", "Lcom/example/prizebook/prizebook/Voiding;", .null), ("com/example/prizebook/prizebook/Answer", "expiry", "Lcom/example/prizebook/prizebook/Expiry;", .null)]))))) rfl (q := 19) rfl ?_
  intro T4 X4
  obtain ⟨V4, eV4⟩ : ∃ z, z = (V3.set i (a, (.inl ("com/example/prizebook/prizebook/Answer", [("com/example/prizebook/prizebook/Answer", "outcome", "Lcom/example/prizebook/prizebook/Answer$Outcome;", (.ref b)), ("com/example/prizebook/prizebook/Answer", "number", "Ljava/lang/String;", sv), ("com/example/prizebook/prizebook/Answer", "payment", "Lcom/example/prizebook/prizebook/Payment;", .null), ("com/example/prizebook/prizebook/Answer", "voiding", "Lcom/example/prizebook/prizebook/Voiding;", .null), ("com/example/prizebook/prizebook/Answer", "expiry", "Lcom/example/prizebook/prizebook/Expiry;", .null)])))) := ⟨_, rfl⟩
  rw [← eV4] at X4
  have i4_0 := (eV4 ▸ oSetGet i3_0 : V4[i]? = some (a, (.inl ("com/example/prizebook/prizebook/Answer", [("com/example/prizebook/prizebook/Answer", "outcome", "Lcom/example/prizebook/prizebook/Answer$Outcome;", (.ref b)), ("com/example/prizebook/prizebook/Answer", "number", "Ljava/lang/String;", sv), ("com/example/prizebook/prizebook/Answer", "payment", "Lcom/example/prizebook/prizebook/Payment;", .null), ("com/example/prizebook/prizebook/Answer", "voiding", "Lcom/example/prizebook/prizebook/Voiding;", .null), ("com/example/prizebook/prizebook/Answer", "expiry", "Lcom/example/prizebook/prizebook/Expiry;", .null)]))))
  refine gAloadN E X4 d9_19 rfl rfl (q := 20) rfl ?_
  refine gAload E X4 d9_20 rfl rfl (q := 22) rfl ?_
  refine gPutF E X4 d9_22 (hw _ (List.mem_of_getElem? (i := 58) rfl)) Via.refl (i := i) i4_0 (j := 3) rfl (Or.inr ⟨(hw _ (List.mem_of_getElem? (i := 59) rfl)), rfl, rfl⟩) (hw _ (List.mem_of_getElem? (i := 42) rfl)) (ty := (.object "com/example/prizebook/prizebook/Voiding")) (by decide) rfl rfl (V' := (V4.set i (a, (.inl ("com/example/prizebook/prizebook/Answer", [("com/example/prizebook/prizebook/Answer", "outcome", "Lcom/example/prizebook/prizebook/Answer$Outcome;", (.ref b)), ("com/example/prizebook/prizebook/Answer", "number", "Ljava/lang/String;", sv), ("com/example/prizebook/prizebook/Answer", "payment", "Lcom/example/prizebook/prizebook/Payment;", .null), ("com/example/prizebook/prizebook/Answer", "voiding", "Lcom/example/prizebook/prizebook/Voiding;", .null), ("com/example/prizebook/prizebook/Answer", "expiry", "Lcom/example/prizebook/prizebook/Expiry;", .null)]))))) rfl (q := 25) rfl ?_
  intro T5 X5
  obtain ⟨V5, eV5⟩ : ∃ z, z = (V4.set i (a, (.inl ("com/example/prizebook/prizebook/Answer", [("com/example/prizebook/prizebook/Answer", "outcome", "Lcom/example/prizebook/prizebook/Answer$Outcome;", (.ref b)), ("com/example/prizebook/prizebook/Answer", "number", "Ljava/lang/String;", sv), ("com/example/prizebook/prizebook/Answer", "payment", "Lcom/example/prizebook/prizebook/Payment;", .null), ("com/example/prizebook/prizebook/Answer", "voiding", "Lcom/example/prizebook/prizebook/Voiding;", .null), ("com/example/prizebook/prizebook/Answer", "expiry", "Lcom/example/prizebook/prizebook/Expiry;", .null)])))) := ⟨_, rfl⟩
  rw [← eV5] at X5
  have i5_0 := (eV5 ▸ oSetGet i4_0 : V5[i]? = some (a, (.inl ("com/example/prizebook/prizebook/Answer", [("com/example/prizebook/prizebook/Answer", "outcome", "Lcom/example/prizebook/prizebook/Answer$Outcome;", (.ref b)), ("com/example/prizebook/prizebook/Answer", "number", "Ljava/lang/String;", sv), ("com/example/prizebook/prizebook/Answer", "payment", "Lcom/example/prizebook/prizebook/Payment;", .null), ("com/example/prizebook/prizebook/Answer", "voiding", "Lcom/example/prizebook/prizebook/Voiding;", .null), ("com/example/prizebook/prizebook/Answer", "expiry", "Lcom/example/prizebook/prizebook/Expiry;", .null)]))))
  refine gAloadN E X5 d9_25 rfl rfl (q := 26) rfl ?_
  refine gAload E X5 d9_26 rfl rfl (q := 28) rfl ?_
  refine gPutF E X5 d9_28 (hw _ (List.mem_of_getElem? (i := 60) rfl)) Via.refl (i := i) i5_0 (j := 4) rfl (Or.inr ⟨(hw _ (List.mem_of_getElem? (i := 61) rfl)), rfl, rfl⟩) (hw _ (List.mem_of_getElem? (i := 42) rfl)) (ty := (.object "com/example/prizebook/prizebook/Expiry")) (by decide) rfl rfl (V' := (V5.set i (a, (.inl ("com/example/prizebook/prizebook/Answer", [("com/example/prizebook/prizebook/Answer", "outcome", "Lcom/example/prizebook/prizebook/Answer$Outcome;", (.ref b)), ("com/example/prizebook/prizebook/Answer", "number", "Ljava/lang/String;", sv), ("com/example/prizebook/prizebook/Answer", "payment", "Lcom/example/prizebook/prizebook/Payment;", .null), ("com/example/prizebook/prizebook/Answer", "voiding", "Lcom/example/prizebook/prizebook/Voiding;", .null), ("com/example/prizebook/prizebook/Answer", "expiry", "Lcom/example/prizebook/prizebook/Expiry;", .null)]))))) rfl (q := 31) rfl ?_
  intro T6 X6
  obtain ⟨V6, eV6⟩ : ∃ z, z = (V5.set i (a, (.inl ("com/example/prizebook/prizebook/Answer", [("com/example/prizebook/prizebook/Answer", "outcome", "Lcom/example/prizebook/prizebook/Answer$Outcome;", (.ref b)), ("com/example/prizebook/prizebook/Answer", "number", "Ljava/lang/String;", sv), ("com/example/prizebook/prizebook/Answer", "payment", "Lcom/example/prizebook/prizebook/Payment;", .null), ("com/example/prizebook/prizebook/Answer", "voiding", "Lcom/example/prizebook/prizebook/Voiding;", .null), ("com/example/prizebook/prizebook/Answer", "expiry", "Lcom/example/prizebook/prizebook/Expiry;", .null)])))) := ⟨_, rfl⟩
  rw [← eV6] at X6
  have i6_0 := (eV6 ▸ oSetGet i5_0 : V6[i]? = some (a, (.inl ("com/example/prizebook/prizebook/Answer", [("com/example/prizebook/prizebook/Answer", "outcome", "Lcom/example/prizebook/prizebook/Answer$Outcome;", (.ref b)), ("com/example/prizebook/prizebook/Answer", "number", "Ljava/lang/String;", sv), ("com/example/prizebook/prizebook/Answer", "payment", "Lcom/example/prizebook/prizebook/Payment;", .null), ("com/example/prizebook/prizebook/Answer", "voiding", "Lcom/example/prizebook/prizebook/Voiding;", .null), ("com/example/prizebook/prizebook/Answer", "expiry", "Lcom/example/prizebook/prizebook/Expiry;", .null)]))))
  exact gRetV E X6 d9_31 (by decide) (by decide) (by decide) (⟨rfl, by simp only [eV6, eV5, eV4, eV3, eV2, List.set_set]⟩)
theorem lay_Answer (Z : State) (a0 : Array Value) (hw : ∀ d ∈ tables_1, d.before a0 Z = true) : oLay Z a0 "com/example/prizebook/prizebook/Answer" [("com/example/prizebook/prizebook/Answer", "outcome", "Lcom/example/prizebook/prizebook/Answer$Outcome;", .null), ("com/example/prizebook/prizebook/Answer", "number", "Ljava/lang/String;", .null), ("com/example/prizebook/prizebook/Answer", "payment", "Lcom/example/prizebook/prizebook/Payment;", .null), ("com/example/prizebook/prizebook/Answer", "voiding", "Lcom/example/prizebook/prizebook/Voiding;", .null), ("com/example/prizebook/prizebook/Answer", "expiry", "Lcom/example/prizebook/prizebook/Expiry;", .null)] := oLay.of (by decide) ⟨⟨Or.inr (hw _ (List.mem_of_getElem? (i := 53) rfl)), (.object "com/example/prizebook/prizebook/Answer$Outcome"), by decide, rfl⟩, ⟨Or.inr (hw _ (List.mem_of_getElem? (i := 55) rfl)), (.object "java/lang/String"), by decide, rfl⟩, ⟨Or.inr (hw _ (List.mem_of_getElem? (i := 57) rfl)), (.object "com/example/prizebook/prizebook/Payment"), by decide, rfl⟩, ⟨Or.inr (hw _ (List.mem_of_getElem? (i := 59) rfl)), (.object "com/example/prizebook/prizebook/Voiding"), by decide, rfl⟩, ⟨Or.inr (hw _ (List.mem_of_getElem? (i := 61) rfl)), (.object "com/example/prizebook/prizebook/Expiry"), by decide, rfl⟩, trivial⟩
theorem pd_5 : parseMethodDescriptor "(Lcom/example/prizebook/prizebook/Answer$Outcome;Ljava/lang/String;Lcom/example/prizebook/prizebook/Payment;Lcom/example/prizebook/prizebook/Voiding;Lcom/example/prizebook/prizebook/Expiry;)V" = some ⟨[(.object "com/example/prizebook/prizebook/Answer$Outcome"), (.object "java/lang/String"), (.object "com/example/prizebook/prizebook/Payment"), (.object "com/example/prizebook/prizebook/Voiding"), (.object "com/example/prizebook/prizebook/Expiry")], none⟩ := by decide +kernel
theorem d8_0 : decode prog_1_method_2_code 0 = .ok (.new 8, 3) := by decide +kernel
theorem d8_3 : decode prog_1_method_2_code 3 = .ok (.dup, 1) := by decide +kernel
theorem d8_4 : decode prog_1_method_2_code 4 = .ok (.aload_n 0, 1) := by decide +kernel
theorem d8_5 : decode prog_1_method_2_code 5 = .ok (.aload_n 1, 1) := by decide +kernel
theorem d8_6 : decode prog_1_method_2_code 6 = .ok (.aconst_null, 1) := by decide +kernel
theorem d8_7 : decode prog_1_method_2_code 7 = .ok (.aconst_null, 1) := by decide +kernel
theorem d8_8 : decode prog_1_method_2_code 8 = .ok (.aconst_null, 1) := by decide +kernel
theorem d8_9 : decode prog_1_method_2_code 9 = .ok (.invokespecial 29, 3) := by decide +kernel
theorem d8_12 : decode prog_1_method_2_code 12 = .ok (.areturn, 1) := by decide +kernel
set_option maxRecDepth 65536 in
set_option maxHeartbeats 40000000 in
theorem cO (l : Launch) (Z : State) (a0 : Array Value) (hw : ∀ d ∈ tables_1, d.before a0 Z = true) {V : oVw} (b : Addr) (sv : Value)  (hsv : sv.isRef = true) :
    oCon false l Z (⟨"com/example/prizebook/prizebook/Answer", "of", "(Lcom/example/prizebook/prizebook/Answer$Outcome;Ljava/lang/String;)Lcom/example/prizebook/prizebook/Answer;"⟩ : MethodName) prog_1_method_2_code 2 (some (.object "com/example/prizebook/prizebook/Answer")) ({ frames := 3, cells := 1, slots := 5, locals := 42 } : Room) #[(.ref b), sv] V (fun v V' => ∃ (q : Addr) (n : Nat), v = some (.ref q) ∧ V'[n]? = some ((q, (.inl ("com/example/prizebook/prizebook/Answer", [("com/example/prizebook/prizebook/Answer", "outcome", "Lcom/example/prizebook/prizebook/Answer$Outcome;", (.ref b)), ("com/example/prizebook/prizebook/Answer", "number", "Ljava/lang/String;", sv), ("com/example/prizebook/prizebook/Answer", "payment", "Lcom/example/prizebook/prizebook/Payment;", .null), ("com/example/prizebook/prizebook/Answer", "voiding", "Lcom/example/prizebook/prizebook/Voiding;", .null), ("com/example/prizebook/prizebook/Answer", "expiry", "Lcom/example/prizebook/prizebook/Expiry;", .null)]))) : Addr × oOb)) := by
  refine oEnter (plainFor_of_name pn_com_example_prizebook_prizebook_Answer) (Ls := #[.val (.ref b), .val sv]) (fun m => by cases sv <;> first | (simp [entryFrame, mkF, argsToLocals, Value.category]; done) | (simp [Value.isRef] at hsv; done)) ?_
  intro p e s m below meth c T E X
  refine gNew E X (c2 := 1) (s2 := 5) d8_0 (hw _ (List.mem_of_getElem? (i := 41) rfl)) (hw _ (List.mem_of_getElem? (i := 42) rfl)) (hw _ (List.mem_of_getElem? (i := 39) rfl)) (lay_Answer Z a0 hw) (by decide) (by decide) (by decide) (by decide) (q := 3) rfl ?_
  intro T1 a1 X1
  obtain ⟨V1, eV1⟩ : ∃ z, z = V ++ [(a1, (.inl ("com/example/prizebook/prizebook/Answer", [("com/example/prizebook/prizebook/Answer", "outcome", "Lcom/example/prizebook/prizebook/Answer$Outcome;", .null), ("com/example/prizebook/prizebook/Answer", "number", "Ljava/lang/String;", .null), ("com/example/prizebook/prizebook/Answer", "payment", "Lcom/example/prizebook/prizebook/Payment;", .null), ("com/example/prizebook/prizebook/Answer", "voiding", "Lcom/example/prizebook/prizebook/Voiding;", .null), ("com/example/prizebook/prizebook/Answer", "expiry", "Lcom/example/prizebook/prizebook/Expiry;", .null)])))] := ⟨_, rfl⟩
  rw [← eV1] at X1
  have i1_0 := (eV1 ▸ oAppLast : V1[V.length]? = some (a1, (.inl ("com/example/prizebook/prizebook/Answer", [("com/example/prizebook/prizebook/Answer", "outcome", "Lcom/example/prizebook/prizebook/Answer$Outcome;", .null), ("com/example/prizebook/prizebook/Answer", "number", "Ljava/lang/String;", .null), ("com/example/prizebook/prizebook/Answer", "payment", "Lcom/example/prizebook/prizebook/Payment;", .null), ("com/example/prizebook/prizebook/Answer", "voiding", "Lcom/example/prizebook/prizebook/Voiding;", .null), ("com/example/prizebook/prizebook/Answer", "expiry", "Lcom/example/prizebook/prizebook/Expiry;", .null)]))))
  refine gDup E X1 d8_3 rfl (q := 4) rfl ?_
  refine gAloadN E X1 d8_4 rfl rfl (q := 5) rfl ?_
  refine gAloadN E X1 d8_5 rfl hsv (q := 6) rfl ?_
  refine gNull E X1 d8_6 (q := 7) rfl ?_
  refine gNull E X1 d8_7 (q := 8) rfl ?_
  refine gNull E X1 d8_8 (q := 9) rfl ?_
  refine gCallI E X1 (W := 1) (c2 := 1) (s2 := 5) (a := a1) [(.ref b), sv, .null, .null, .null] [(.ref a1)] d8_9 rfl (hw _ (List.mem_of_getElem? (i := 43) rfl)) (hw _ (List.mem_of_getElem? (i := 44) rfl)) (hw _ (List.mem_of_getElem? (i := 39) rfl)) (hw _ (List.mem_of_getElem? (i := 45) rfl)) (by decide) (cI l Z a0 hw a1 b sv (i := V.length) i1_0 hsv) pd_5 rfl rfl rfl (by decide) (Nat.le_of_eq rfl) (by decide) (by decide) (by decide) (by decide) (by decide) (by decide) (q := 12) rfl ?_
  intro T2 v2 V2 R2 X2
  obtain ⟨rfl, eV2⟩ := R2
  have i2_0 := (eV2 ▸ oSetGet i1_0 : V2[V.length]? = some (a1, (.inl ("com/example/prizebook/prizebook/Answer", [("com/example/prizebook/prizebook/Answer", "outcome", "Lcom/example/prizebook/prizebook/Answer$Outcome;", (.ref b)), ("com/example/prizebook/prizebook/Answer", "number", "Ljava/lang/String;", sv), ("com/example/prizebook/prizebook/Answer", "payment", "Lcom/example/prizebook/prizebook/Payment;", .null), ("com/example/prizebook/prizebook/Answer", "voiding", "Lcom/example/prizebook/prizebook/Voiding;", .null), ("com/example/prizebook/prizebook/Answer", "expiry", "Lcom/example/prizebook/prizebook/Expiry;", .null)]))))
  show oG false p e below s Z ({ frames := 3, cells := 1, slots := 5, locals := 42 } : Room) (fun v V' => ∃ (q : Addr) (n : Nat), v = some (.ref q) ∧ V'[n]? = some ((q, (.inl ("com/example/prizebook/prizebook/Answer", [("com/example/prizebook/prizebook/Answer", "outcome", "Lcom/example/prizebook/prizebook/Answer$Outcome;", (.ref b)), ("com/example/prizebook/prizebook/Answer", "number", "Ljava/lang/String;", sv), ("com/example/prizebook/prizebook/Answer", "payment", "Lcom/example/prizebook/prizebook/Payment;", .null), ("com/example/prizebook/prizebook/Answer", "voiding", "Lcom/example/prizebook/prizebook/Voiding;", .null), ("com/example/prizebook/prizebook/Answer", "expiry", "Lcom/example/prizebook/prizebook/Expiry;", .null)]))) : Addr × oOb)) T2 (mkF m 12 #[.val (.ref b), .val sv] [(.ref a1)])
  exact gRetA E X2 rfl d8_12 (by decide) (by decide) (by decide) rfl rfl (⟨a1, _, rfl, i2_0⟩)
theorem d11_0 : decode prog_1_method_9_code 0 = .ok (.aload_n 0, 1) := by decide +kernel
theorem d11_1 : decode prog_1_method_9_code 1 = .ok (.getfield 7, 3) := by decide +kernel
theorem d11_4 : decode prog_1_method_9_code 4 = .ok (.areturn, 1) := by decide +kernel
set_option maxRecDepth 65536 in
set_option maxHeartbeats 40000000 in
theorem cF0 (l : Launch) (Z : State) (a0 : Array Value) (hw : ∀ d ∈ tables_1, d.before a0 Z = true) {V : oVw} (a : Addr) (b : Addr) (sv : Value) {i : Nat} (hi : V[i]? = some (a, (.inl ("com/example/prizebook/prizebook/Answer", [("com/example/prizebook/prizebook/Answer", "outcome", "Lcom/example/prizebook/prizebook/Answer$Outcome;", (.ref b)), ("com/example/prizebook/prizebook/Answer", "number", "Ljava/lang/String;", sv), ("com/example/prizebook/prizebook/Answer", "payment", "Lcom/example/prizebook/prizebook/Payment;", .null), ("com/example/prizebook/prizebook/Answer", "voiding", "Lcom/example/prizebook/prizebook/Voiding;", .null), ("com/example/prizebook/prizebook/Answer", "expiry", "Lcom/example/prizebook/prizebook/Expiry;", .null)])))) (hsv : sv.isRef = true) :
    oCon false l Z (⟨"com/example/prizebook/prizebook/Answer", "outcome", "()Lcom/example/prizebook/prizebook/Answer$Outcome;"⟩ : MethodName) prog_1_method_9_code 1 (some (.object "com/example/prizebook/prizebook/Answer$Outcome")) ({ frames := 0, cells := 0, slots := 0, locals := 0 } : Room) #[(.ref a)] V (fun v V' => v = some (.ref b) ∧ V' = V) := by
  refine oEnter (plainFor_of_name pn_com_example_prizebook_prizebook_Answer) (Ls := #[.val (.ref a)]) (fun m => by first | (simp [entryFrame, mkF, argsToLocals, Value.category]; done) | rfl) ?_
  intro p e s m below meth c T E X
  refine gAloadN E X d11_0 rfl rfl (q := 1) rfl ?_
  refine gGetF E X d11_1 (hw _ (List.mem_of_getElem? (i := 52) rfl)) Via.refl (i := i) hi (j := 0) rfl (q := 4) rfl ?_
  intro T1 X1
  exact gRetA E X1 rfl d11_4 (by decide) (by decide) (by decide) rfl rfl (⟨rfl, rfl⟩)
theorem d12_0 : decode prog_1_method_10_code 0 = .ok (.aload_n 0, 1) := by decide +kernel
theorem d12_1 : decode prog_1_method_10_code 1 = .ok (.getfield 13, 3) := by decide +kernel
theorem d12_4 : decode prog_1_method_10_code 4 = .ok (.areturn, 1) := by decide +kernel
set_option maxRecDepth 65536 in
set_option maxHeartbeats 40000000 in
theorem cF1 (l : Launch) (Z : State) (a0 : Array Value) (hw : ∀ d ∈ tables_1, d.before a0 Z = true) {V : oVw} (a : Addr) (b : Addr) (sv : Value) {i : Nat} (hi : V[i]? = some (a, (.inl ("com/example/prizebook/prizebook/Answer", [("com/example/prizebook/prizebook/Answer", "outcome", "Lcom/example/prizebook/prizebook/Answer$Outcome;", (.ref b)), ("com/example/prizebook/prizebook/Answer", "number", "Ljava/lang/String;", sv), ("com/example/prizebook/prizebook/Answer", "payment", "Lcom/example/prizebook/prizebook/Payment;", .null), ("com/example/prizebook/prizebook/Answer", "voiding", "Lcom/example/prizebook/prizebook/Voiding;", .null), ("com/example/prizebook/prizebook/Answer", "expiry", "Lcom/example/prizebook/prizebook/Expiry;", .null)])))) (hsv : sv.isRef = true) :
    oCon false l Z (⟨"com/example/prizebook/prizebook/Answer", "number", "()Ljava/lang/String;"⟩ : MethodName) prog_1_method_10_code 1 (some (.object "java/lang/String")) ({ frames := 0, cells := 0, slots := 0, locals := 0 } : Room) #[(.ref a)] V (fun v V' => v = some (sv) ∧ V' = V) := by
  refine oEnter (plainFor_of_name pn_com_example_prizebook_prizebook_Answer) (Ls := #[.val (.ref a)]) (fun m => by first | (simp [entryFrame, mkF, argsToLocals, Value.category]; done) | rfl) ?_
  intro p e s m below meth c T E X
  refine gAloadN E X d12_0 rfl rfl (q := 1) rfl ?_
  refine gGetF E X d12_1 (hw _ (List.mem_of_getElem? (i := 54) rfl)) Via.refl (i := i) hi (j := 1) rfl (q := 4) rfl ?_
  intro T1 X1
  exact gRetA E X1 rfl d12_4 (by decide) (by decide) (by decide) hsv (oNarR hsv) (⟨rfl, rfl⟩)
theorem d13_0 : decode prog_1_method_11_code 0 = .ok (.aload_n 0, 1) := by decide +kernel
theorem d13_1 : decode prog_1_method_11_code 1 = .ok (.getfield 17, 3) := by decide +kernel
theorem d13_4 : decode prog_1_method_11_code 4 = .ok (.areturn, 1) := by decide +kernel
set_option maxRecDepth 65536 in
set_option maxHeartbeats 40000000 in
theorem cF2 (l : Launch) (Z : State) (a0 : Array Value) (hw : ∀ d ∈ tables_1, d.before a0 Z = true) {V : oVw} (a : Addr) (b : Addr) (sv : Value) {i : Nat} (hi : V[i]? = some (a, (.inl ("com/example/prizebook/prizebook/Answer", [("com/example/prizebook/prizebook/Answer", "outcome", "Lcom/example/prizebook/prizebook/Answer$Outcome;", (.ref b)), ("com/example/prizebook/prizebook/Answer", "number", "Ljava/lang/String;", sv), ("com/example/prizebook/prizebook/Answer", "payment", "Lcom/example/prizebook/prizebook/Payment;", .null), ("com/example/prizebook/prizebook/Answer", "voiding", "Lcom/example/prizebook/prizebook/Voiding;", .null), ("com/example/prizebook/prizebook/Answer", "expiry", "Lcom/example/prizebook/prizebook/Expiry;", .null)])))) (hsv : sv.isRef = true) :
    oCon false l Z (⟨"com/example/prizebook/prizebook/Answer", "payment", "()Lcom/example/prizebook/prizebook/Payment;"⟩ : MethodName) prog_1_method_11_code 1 (some (.object "com/example/prizebook/prizebook/Payment")) ({ frames := 0, cells := 0, slots := 0, locals := 0 } : Room) #[(.ref a)] V (fun v V' => v = some (.null) ∧ V' = V) := by
  refine oEnter (plainFor_of_name pn_com_example_prizebook_prizebook_Answer) (Ls := #[.val (.ref a)]) (fun m => by first | (simp [entryFrame, mkF, argsToLocals, Value.category]; done) | rfl) ?_
  intro p e s m below meth c T E X
  refine gAloadN E X d13_0 rfl rfl (q := 1) rfl ?_
  refine gGetF E X d13_1 (hw _ (List.mem_of_getElem? (i := 56) rfl)) Via.refl (i := i) hi (j := 2) rfl (q := 4) rfl ?_
  intro T1 X1
  exact gRetA E X1 rfl d13_4 (by decide) (by decide) (by decide) rfl rfl (⟨rfl, rfl⟩)
theorem d14_0 : decode prog_1_method_12_code 0 = .ok (.aload_n 0, 1) := by decide +kernel
theorem d14_1 : decode prog_1_method_12_code 1 = .ok (.getfield 21, 3) := by decide +kernel
theorem d14_4 : decode prog_1_method_12_code 4 = .ok (.areturn, 1) := by decide +kernel
set_option maxRecDepth 65536 in
set_option maxHeartbeats 40000000 in
theorem cF3 (l : Launch) (Z : State) (a0 : Array Value) (hw : ∀ d ∈ tables_1, d.before a0 Z = true) {V : oVw} (a : Addr) (b : Addr) (sv : Value) {i : Nat} (hi : V[i]? = some (a, (.inl ("com/example/prizebook/prizebook/Answer", [("com/example/prizebook/prizebook/Answer", "outcome", "Lcom/example/prizebook/prizebook/Answer$Outcome;", (.ref b)), ("com/example/prizebook/prizebook/Answer", "number", "Ljava/lang/String;", sv), ("com/example/prizebook/prizebook/Answer", "payment", "Lcom/example/prizebook/prizebook/Payment;", .null), ("com/example/prizebook/prizebook/Answer", "voiding", "Lcom/example/prizebook/prizebook/Voiding;", .null), ("com/example/prizebook/prizebook/Answer", "expiry", "Lcom/example/prizebook/prizebook/Expiry;", .null)])))) (hsv : sv.isRef = true) :
    oCon false l Z (⟨"com/example/prizebook/prizebook/Answer", "voiding", "()Lcom/example/prizebook/prizebook/Voiding;"⟩ : MethodName) prog_1_method_12_code 1 (some (.object "com/example/prizebook/prizebook/Voiding")) ({ frames := 0, cells := 0, slots := 0, locals := 0 } : Room) #[(.ref a)] V (fun v V' => v = some (.null) ∧ V' = V) := by
  refine oEnter (plainFor_of_name pn_com_example_prizebook_prizebook_Answer) (Ls := #[.val (.ref a)]) (fun m => by first | (simp [entryFrame, mkF, argsToLocals, Value.category]; done) | rfl) ?_
  intro p e s m below meth c T E X
  refine gAloadN E X d14_0 rfl rfl (q := 1) rfl ?_
  refine gGetF E X d14_1 (hw _ (List.mem_of_getElem? (i := 58) rfl)) Via.refl (i := i) hi (j := 3) rfl (q := 4) rfl ?_
  intro T1 X1
  exact gRetA E X1 rfl d14_4 (by decide) (by decide) (by decide) rfl rfl (⟨rfl, rfl⟩)
theorem d15_0 : decode prog_1_method_13_code 0 = .ok (.aload_n 0, 1) := by decide +kernel
theorem d15_1 : decode prog_1_method_13_code 1 = .ok (.getfield 25, 3) := by decide +kernel
theorem d15_4 : decode prog_1_method_13_code 4 = .ok (.areturn, 1) := by decide +kernel
set_option maxRecDepth 65536 in
set_option maxHeartbeats 40000000 in
theorem cF4 (l : Launch) (Z : State) (a0 : Array Value) (hw : ∀ d ∈ tables_1, d.before a0 Z = true) {V : oVw} (a : Addr) (b : Addr) (sv : Value) {i : Nat} (hi : V[i]? = some (a, (.inl ("com/example/prizebook/prizebook/Answer", [("com/example/prizebook/prizebook/Answer", "outcome", "Lcom/example/prizebook/prizebook/Answer$Outcome;", (.ref b)), ("com/example/prizebook/prizebook/Answer", "number", "Ljava/lang/String;", sv), ("com/example/prizebook/prizebook/Answer", "payment", "Lcom/example/prizebook/prizebook/Payment;", .null), ("com/example/prizebook/prizebook/Answer", "voiding", "Lcom/example/prizebook/prizebook/Voiding;", .null), ("com/example/prizebook/prizebook/Answer", "expiry", "Lcom/example/prizebook/prizebook/Expiry;", .null)])))) (hsv : sv.isRef = true) :
    oCon false l Z (⟨"com/example/prizebook/prizebook/Answer", "expiry", "()Lcom/example/prizebook/prizebook/Expiry;"⟩ : MethodName) prog_1_method_13_code 1 (some (.object "com/example/prizebook/prizebook/Expiry")) ({ frames := 0, cells := 0, slots := 0, locals := 0 } : Room) #[(.ref a)] V (fun v V' => v = some (.null) ∧ V' = V) := by
  refine oEnter (plainFor_of_name pn_com_example_prizebook_prizebook_Answer) (Ls := #[.val (.ref a)]) (fun m => by first | (simp [entryFrame, mkF, argsToLocals, Value.category]; done) | rfl) ?_
  intro p e s m below meth c T E X
  refine gAloadN E X d15_0 rfl rfl (q := 1) rfl ?_
  refine gGetF E X d15_1 (hw _ (List.mem_of_getElem? (i := 60) rfl)) Via.refl (i := i) hi (j := 4) rfl (q := 4) rfl ?_
  intro T1 X1
  exact gRetA E X1 rfl d15_4 (by decide) (by decide) (by decide) rfl rfl (⟨rfl, rfl⟩)
theorem d17_0 : decode jdk_43_method_3_code 0 = .ok (.iload_n 0, 1) := by decide +kernel
theorem d17_1 : decode jdk_43_method_3_code 1 = .ok (.sipush 255, 3) := by decide +kernel
theorem d17_4 : decode jdk_43_method_3_code 4 = .ok (.if_icmp .gt 7, 3) := by decide +kernel
theorem d17_7 : decode jdk_43_method_3_code 7 = .ok (.iconst 1, 1) := by decide +kernel
theorem d17_8 : decode jdk_43_method_3_code 8 = .ok (.goto 4, 3) := by decide +kernel
theorem d17_12 : decode jdk_43_method_3_code 12 = .ok (.ireturn, 1) := by decide +kernel
theorem pn_java_lang_StringLatin1 : plainName "java/lang/StringLatin1" = true := by first | (simp [plainName, overriddenIn]; done) | decide +kernel
set_option maxRecDepth 65536 in
set_option maxHeartbeats 40000000 in
theorem cCE (l : Launch) (Z : State) (a0 : Array Value) (hw : ∀ d ∈ tables_1, d.before a0 Z = true) {V : oVw} (y0 : Int32)  (g : 0 ≤ y0.toInt ∧ y0.toInt ≤ 255) :
    oCon false l Z (⟨"java/lang/StringLatin1", "canEncode", "(C)Z"⟩ : MethodName) jdk_43_method_3_code 1 (some .boolean) ({ frames := 0, cells := 0, slots := 0, locals := 0 } : Room) #[(.int y0)] V (fun v V' => v = some (.int 1) ∧ V' = V) := by
  refine oEnter (plainFor_of_name pn_java_lang_StringLatin1) (Ls := #[.val (.int y0)]) (fun m => by first | (simp [entryFrame, mkF, argsToLocals, Value.category]; done) | rfl) ?_
  intro p e s m below meth c T E X
  refine gIloadN E X d17_0 rfl (q := 1) rfl ?_
  refine gSipush E X d17_1 (v := (255 : Int32)) (by decide) (q := 4) rfl ?_
  refine gIc_gt E X d17_4 (by decide) (q := 11) (by decide) (q' := 7) rfl (fun h4 => by exfalso; exact own_le g h4) (fun h4 => ?_)
  refine gIconst E X d17_7 (v := (1 : Int32)) (by decide) (q := 8) rfl ?_
  refine gGoto E X d17_8 (by decide) (q := 12) (by decide) ?_
  exact gRetN E X (by simp) d17_12 (by decide) (by decide) (by decide) (⟨by decide, rfl⟩)
theorem d18_0 : decode jdk_43_method_46_code 0 = .ok (.iconst 1, 1) := by decide +kernel
theorem d18_1 : decode jdk_43_method_46_code 1 = .ok (.newarray .byte, 2) := by decide +kernel
theorem d18_3 : decode jdk_43_method_46_code 3 = .ok (.dup, 1) := by decide +kernel
theorem d18_4 : decode jdk_43_method_46_code 4 = .ok (.iconst 0, 1) := by decide +kernel
theorem d18_5 : decode jdk_43_method_46_code 5 = .ok (.iload_n 0, 1) := by decide +kernel
theorem d18_6 : decode jdk_43_method_46_code 6 = .ok (.i2b, 1) := by decide +kernel
theorem d18_7 : decode jdk_43_method_46_code 7 = .ok (.bastore, 1) := by decide +kernel
theorem d18_8 : decode jdk_43_method_46_code 8 = .ok (.areturn, 1) := by decide +kernel
set_option maxRecDepth 65536 in
set_option maxHeartbeats 40000000 in
theorem cTB (l : Launch) (Z : State) (a0 : Array Value) (hw : ∀ d ∈ tables_1, d.before a0 Z = true) {V : oVw} (y0 : Int32)   :
    oCon false l Z (⟨"java/lang/StringLatin1", "toBytes", "(C)[B"⟩ : MethodName) jdk_43_method_46_code 1 (some (.array .byte)) ({ frames := 0, cells := 1, slots := 1, locals := 0 } : Room) #[(.int y0)] V (fun v V' => ∃ b, v = some (.ref b) ∧ V' = V ++ [(b, .inr (.byte, [.int (y0.toInt8.toInt32)]))]) := by
  refine oEnter (plainFor_of_name pn_java_lang_StringLatin1) (Ls := #[.val (.int y0)]) (fun m => by first | (simp [entryFrame, mkF, argsToLocals, Value.category]; done) | rfl) ?_
  intro p e s m below meth c T E X
  refine gIconst E X d18_0 (v := (1 : Int32)) (by decide) (q := 1) rfl ?_
  refine gNewA E X (c2 := 1) (s2 := 1) (cap := 1) (vs := [(.int (0 : Int32))]) (ty := .byte) rfl d18_1 (hw _ (List.mem_of_getElem? (i := 26) rfl)) (by decide) (by decide) (by decide) rfl (by decide) (by decide) (by decide) (by decide) (q := 3) rfl ?_
  intro T1 a1 X1
  obtain ⟨V1, eV1⟩ : ∃ z, z = V ++ [(a1, (.inr (.byte, [(.int (0 : Int32))])))] := ⟨_, rfl⟩
  rw [← eV1] at X1
  have i1_0 := (eV1 ▸ oAppLast : V1[V.length]? = some (a1, (.inr (.byte, [(.int (0 : Int32))]))))
  refine gDup E X1 d18_3 rfl (q := 4) rfl ?_
  refine gIconst E X1 d18_4 (v := (0 : Int32)) (by decide) (q := 5) rfl ?_
  refine gIloadN E X1 d18_5 rfl (q := 6) rfl ?_
  refine gI2b E X1 d18_6 (z := y0.toInt8.toInt32) rfl (q := 7) rfl ?_
  refine gBastore E X1 (i := V.length) (jn := 0) (x' := y0.toInt8.toInt32) (V' := (V1.set V.length (a1, (.inr (.byte, [(.int y0.toInt8.toInt32)]))))) d18_7 i1_0 (by decide) rfl (by show 0 < 1; decide) (oB8 _) rfl (q := 8) rfl ?_
  intro T2 X2
  obtain ⟨V2, eV2⟩ : ∃ z, z = (V1.set V.length (a1, (.inr (.byte, [(.int y0.toInt8.toInt32)])))) := ⟨_, rfl⟩
  rw [← eV2] at X2
  have i2_0 := (eV2 ▸ oSetGet i1_0 : V2[V.length]? = some (a1, (.inr (.byte, [(.int y0.toInt8.toInt32)]))))
  exact gRetA E X2 rfl d18_8 (by decide) (by decide) (by decide) rfl rfl (⟨a1, rfl, by rw [eV2, eV1, oAppSetLast]⟩)
theorem d19_0 : decode jdk_42_method_151_code 0 = .ok (.aload_n 0, 1) := by decide +kernel
theorem d19_1 : decode jdk_42_method_151_code 1 = .ok (.invokespecial 1, 3) := by decide +kernel
theorem d19_4 : decode jdk_42_method_151_code 4 = .ok (.aload_n 0, 1) := by decide +kernel
theorem d19_5 : decode jdk_42_method_151_code 5 = .ok (.aload_n 1, 1) := by decide +kernel
theorem d19_6 : decode jdk_42_method_151_code 6 = .ok (.putfield 9, 3) := by decide +kernel
theorem d19_9 : decode jdk_42_method_151_code 9 = .ok (.aload_n 0, 1) := by decide +kernel
theorem d19_10 : decode jdk_42_method_151_code 10 = .ok (.iload_n 2, 1) := by decide +kernel
theorem d19_11 : decode jdk_42_method_151_code 11 = .ok (.putfield 15, 3) := by decide +kernel
theorem d19_14 : decode jdk_42_method_151_code 14 = .ok (.return_, 1) := by decide +kernel
set_option maxRecDepth 65536 in
set_option maxHeartbeats 40000000 in
theorem cSB (l : Launch) (Z : State) (a0 : Array Value) (hw : ∀ d ∈ tables_1, d.before a0 Z = true) {V : oVw} (a : Addr) (b : Addr) {i : Nat} (hi : V[i]? = some (a, (.inl ("java/lang/String", [("java/lang/String", "coder", "B", (.int (0 : Int32))), ("java/lang/String", "value", "[B", .null)]))))  :
    oCon false l Z (⟨"java/lang/String", "<init>", "([BB)V"⟩ : MethodName) jdk_42_method_151_code 3 none ({ frames := 1, cells := 0, slots := 0, locals := 12 } : Room) #[(.ref a), (.ref b), (.int (0 : Int32))] V (fun v V' => v = none ∧ V' = V.set i (a, (.inl ("java/lang/String", [("java/lang/String", "coder", "B", (.int (0 : Int32))), ("java/lang/String", "value", "[B", (.ref b))])))) := by
  refine oEnter (plainFor_of_name pn_java_lang_String) (Ls := #[.val (.ref a), .val (.ref b), .val (.int (0 : Int32))]) (fun m => by first | (simp [entryFrame, mkF, argsToLocals, Value.category]; done) | rfl) ?_
  intro p e s m below meth c T E X
  refine gAloadN E X d19_0 rfl rfl (q := 1) rfl ?_
  refine gInitO E X (W := 0) d19_1 (hw _ (List.mem_of_getElem? (i := 18) rfl)) (hw _ (List.mem_of_getElem? (i := 19) rfl)) (hw _ (List.mem_of_getElem? (i := 20) rfl)) rfl (by decide) (Nat.le_of_eq rfl) (by decide) (q := 4) rfl ?_
  intro T1 X1
  refine gAloadN E X1 d19_4 rfl rfl (q := 5) rfl ?_
  refine gAloadN E X1 d19_5 rfl rfl (q := 6) rfl ?_
  refine gPutF E X1 d19_6 (hw _ (List.mem_of_getElem? (i := 35) rfl)) Via.refl (i := i) hi (j := 1) rfl (Or.inr ⟨(hw _ (List.mem_of_getElem? (i := 36) rfl)), rfl, rfl⟩) (hw _ (List.mem_of_getElem? (i := 9) rfl)) (ty := (.array .byte)) (by decide) rfl rfl (V' := (V.set i (a, (.inl ("java/lang/String", [("java/lang/String", "coder", "B", (.int (0 : Int32))), ("java/lang/String", "value", "[B", (.ref b))]))))) rfl (q := 9) rfl ?_
  intro T2 X2
  obtain ⟨V2, eV2⟩ : ∃ z, z = (V.set i (a, (.inl ("java/lang/String", [("java/lang/String", "coder", "B", (.int (0 : Int32))), ("java/lang/String", "value", "[B", (.ref b))])))) := ⟨_, rfl⟩
  rw [← eV2] at X2
  have i2_0 := (eV2 ▸ oSetGet hi : V2[i]? = some (a, (.inl ("java/lang/String", [("java/lang/String", "coder", "B", (.int (0 : Int32))), ("java/lang/String", "value", "[B", (.ref b))]))))
  refine gAloadN E X2 d19_9 rfl rfl (q := 10) rfl ?_
  refine gIloadN E X2 d19_10 rfl (q := 11) rfl ?_
  refine gPutF E X2 d19_11 (hw _ (List.mem_of_getElem? (i := 33) rfl)) Via.refl (i := i) i2_0 (j := 0) rfl (Or.inr ⟨(hw _ (List.mem_of_getElem? (i := 34) rfl)), rfl, rfl⟩) (hw _ (List.mem_of_getElem? (i := 9) rfl)) (ty := .byte) (by decide) rfl rfl (V' := (V2.set i (a, (.inl ("java/lang/String", [("java/lang/String", "coder", "B", (.int (0 : Int32))), ("java/lang/String", "value", "[B", (.ref b))]))))) rfl (q := 14) rfl ?_
  intro T3 X3
  obtain ⟨V3, eV3⟩ : ∃ z, z = (V2.set i (a, (.inl ("java/lang/String", [("java/lang/String", "coder", "B", (.int (0 : Int32))), ("java/lang/String", "value", "[B", (.ref b))])))) := ⟨_, rfl⟩
  rw [← eV3] at X3
  have i3_0 := (eV3 ▸ oSetGet i2_0 : V3[i]? = some (a, (.inl ("java/lang/String", [("java/lang/String", "coder", "B", (.int (0 : Int32))), ("java/lang/String", "value", "[B", (.ref b))]))))
  exact gRetV E X3 d19_14 (by decide) (by decide) (by decide) (⟨rfl, by simp only [eV3, eV2, List.set_set]⟩)
theorem pd_6 : parseMethodDescriptor "(C)Z" = some ⟨[.char], some .boolean⟩ := by decide +kernel
theorem lay_String (Z : State) (a0 : Array Value) (hw : ∀ d ∈ tables_1, d.before a0 Z = true) : oLay Z a0 "java/lang/String" [("java/lang/String", "coder", "B", (.int (0 : Int32))), ("java/lang/String", "value", "[B", .null)] := oLay.of (by decide) ⟨⟨Or.inr (hw _ (List.mem_of_getElem? (i := 34) rfl)), .byte, by decide, rfl⟩, ⟨Or.inr (hw _ (List.mem_of_getElem? (i := 36) rfl)), (.array .byte), by decide, rfl⟩, trivial⟩
theorem pd_7 : parseMethodDescriptor "(C)[B" = some ⟨[.char], some (.array .byte)⟩ := by decide +kernel
theorem pd_8 : parseMethodDescriptor "([BB)V" = some ⟨[(.array .byte), .byte], none⟩ := by decide +kernel
theorem d16_0 : decode jdk_42_method_139_code 0 = .ok (.getstatic 38, 3) := by decide +kernel
theorem d16_3 : decode jdk_42_method_139_code 3 = .ok (.ifCond .eq 23, 3) := by decide +kernel
theorem d16_6 : decode jdk_42_method_139_code 6 = .ok (.iload_n 0, 1) := by decide +kernel
theorem d16_7 : decode jdk_42_method_139_code 7 = .ok (.invokestatic 1015, 3) := by decide +kernel
theorem d16_10 : decode jdk_42_method_139_code 10 = .ok (.ifCond .eq 16, 3) := by decide +kernel
theorem d16_13 : decode jdk_42_method_139_code 13 = .ok (.new 10, 3) := by decide +kernel
theorem d16_16 : decode jdk_42_method_139_code 16 = .ok (.dup, 1) := by decide +kernel
theorem d16_17 : decode jdk_42_method_139_code 17 = .ok (.iload_n 0, 1) := by decide +kernel
theorem d16_18 : decode jdk_42_method_139_code 18 = .ok (.invokestatic 1018, 3) := by decide +kernel
theorem d16_21 : decode jdk_42_method_139_code 21 = .ok (.iconst 0, 1) := by decide +kernel
theorem d16_22 : decode jdk_42_method_139_code 22 = .ok (.invokespecial 209, 3) := by decide +kernel
theorem d16_25 : decode jdk_42_method_139_code 25 = .ok (.areturn, 1) := by decide +kernel
set_option maxRecDepth 65536 in
set_option maxHeartbeats 40000000 in
theorem cV (l : Launch) (Z : State) (a0 : Array Value) (hw : ∀ d ∈ tables_1, d.before a0 Z = true) {V : oVw} (y0 : Int32) (cs : Int32)  (SC : Sta Z Z.heap "java/lang/String" "COMPACT_STRINGS" "Z" (.int cs)) (hcs : ¬ cs = 0) (g : 0 ≤ y0.toInt ∧ y0.toInt ≤ 255) :
    oCon false l Z (⟨"java/lang/String", "valueOf", "(C)Ljava/lang/String;"⟩ : MethodName) jdk_42_method_139_code 1 (some (.object "java/lang/String")) ({ frames := 2, cells := 2, slots := 5, locals := 27 } : Room) #[(.int y0)] V (fun v V' => ∃ a : Addr, v = some (.ref a)) := by
  refine oEnter (plainFor_of_name pn_java_lang_String) (Ls := #[.val (.int y0)]) (fun m => by first | (simp [entryFrame, mkF, argsToLocals, Value.category]; done) | rfl) ?_
  intro p e s m below meth c T E X
  refine gGetS E X d16_0 (hw _ (List.mem_of_getElem? (i := 21) rfl)) Via.refl SC (q := 3) rfl ?_
  intro T1 X1
  refine gIf_eq E X1 d16_3 (by decide) (q := 26) (by decide) (q' := 6) rfl (fun h3 => by exfalso; exact hcs h3) (fun h3 => ?_)
  refine gIloadN E X1 d16_6 rfl (q := 7) rfl ?_
  refine gCallS E X1 (W := 0) (c2 := 0) (s2 := 0) [(.int y0)] [] d16_7 (hw _ (List.mem_of_getElem? (i := 96) rfl)) (hw _ (List.mem_of_getElem? (i := 97) rfl)) (hw _ (List.mem_of_getElem? (i := 98) rfl)) (hw _ (List.mem_of_getElem? (i := 99) rfl)) (by decide) (cCE l Z a0 hw y0 g) pd_6 rfl rfl rfl (by decide) (Nat.le_of_eq rfl) (by decide) (by decide) (by decide) (by decide) (by decide) (by decide) (q := 10) rfl ?_
  intro T2 v2 V2 R2 X2
  obtain ⟨rfl, eQ2⟩ := R2
  rw [eQ2] at X2
  show oG false p e below s Z ({ frames := 2, cells := 2, slots := 5, locals := 27 } : Room) (fun v V' => ∃ a : Addr, v = some (.ref a)) T2 (mkF m 10 #[.val (.int y0)] [(.int (1 : Int32))])
  refine gIf_eq E X2 d16_10 (by decide) (q := 26) (by decide) (q' := 13) rfl (fun h10 => by exfalso; exact absurd h10 (by decide)) (fun h10 => ?_)
  refine gNew E X2 (c2 := 1) (s2 := 4) d16_13 (hw _ (List.mem_of_getElem? (i := 100) rfl)) (hw _ (List.mem_of_getElem? (i := 9) rfl)) (hw _ (List.mem_of_getElem? (i := 10) rfl)) (lay_String Z a0 hw) (by decide) (by decide) (by decide) (by decide) (q := 16) rfl ?_
  intro T3 a3 X3
  obtain ⟨V3, eV3⟩ : ∃ z, z = V ++ [(a3, (.inl ("java/lang/String", [("java/lang/String", "coder", "B", (.int (0 : Int32))), ("java/lang/String", "value", "[B", .null)])))] := ⟨_, rfl⟩
  rw [← eV3] at X3
  have i3_0 := (eV3 ▸ oAppLast : V3[V.length]? = some (a3, (.inl ("java/lang/String", [("java/lang/String", "coder", "B", (.int (0 : Int32))), ("java/lang/String", "value", "[B", .null)]))))
  refine gDup E X3 d16_16 rfl (q := 17) rfl ?_
  refine gIloadN E X3 d16_17 rfl (q := 18) rfl ?_
  refine gCallS E X3 (W := 2) (c2 := 2) (s2 := 5) [(.int y0)] [(.ref a3), (.ref a3)] d16_18 (hw _ (List.mem_of_getElem? (i := 101) rfl)) (hw _ (List.mem_of_getElem? (i := 102) rfl)) (hw _ (List.mem_of_getElem? (i := 98) rfl)) (hw _ (List.mem_of_getElem? (i := 103) rfl)) (by decide) (cTB l Z a0 hw y0) pd_7 rfl rfl rfl (by decide) (Nat.le_of_eq rfl) (by decide) (by decide) (by decide) (by decide) (by decide) (by decide) (q := 21) rfl ?_
  intro T4 v4 V4 R4 X4
  obtain ⟨b4', rfl, eV4⟩ := R4
  have i4_0 := (eV4 ▸ oAppGet i3_0 : V4[V.length]? = some (a3, (.inl ("java/lang/String", [("java/lang/String", "coder", "B", (.int (0 : Int32))), ("java/lang/String", "value", "[B", .null)]))))
  have i4_1 := (eV4 ▸ oAppLast : V4[V3.length]? = some (b4', (.inr (.byte, [(.int y0.toInt8.toInt32)]))))
  show oG false p e below s Z ({ frames := 2, cells := 2, slots := 5, locals := 27 } : Room) (fun v V' => ∃ a : Addr, v = some (.ref a)) T4 (mkF m 21 #[.val (.int y0)] [(.ref b4'), (.ref a3), (.ref a3)])
  refine gIconst E X4 d16_21 (v := (0 : Int32)) (by decide) (q := 22) rfl ?_
  refine gCallI E X4 (W := 1) (c2 := 2) (s2 := 5) (a := a3) [(.ref b4'), (.int (0 : Int32))] [(.ref a3)] d16_22 rfl (hw _ (List.mem_of_getElem? (i := 104) rfl)) (hw _ (List.mem_of_getElem? (i := 105) rfl)) (hw _ (List.mem_of_getElem? (i := 10) rfl)) (hw _ (List.mem_of_getElem? (i := 106) rfl)) (by decide) (cSB l Z a0 hw a3 b4' (i := V.length) i4_0) pd_8 rfl rfl rfl (by decide) (Nat.le_of_eq rfl) (by decide) (by decide) (by decide) (by decide) (by decide) (by decide) (q := 25) rfl ?_
  intro T5 v5 V5 R5 X5
  obtain ⟨rfl, eV5⟩ := R5
  have i5_0 := (eV5 ▸ oSetGet i4_0 : V5[V.length]? = some (a3, (.inl ("java/lang/String", [("java/lang/String", "coder", "B", (.int (0 : Int32))), ("java/lang/String", "value", "[B", (.ref b4'))]))))
  have i5_1 := (eV5 ▸ oSetNe (Nat.ne_of_lt (oLt i3_0)) i4_1 : V5[V3.length]? = some (b4', (.inr (.byte, [(.int y0.toInt8.toInt32)]))))
  show oG false p e below s Z ({ frames := 2, cells := 2, slots := 5, locals := 27 } : Room) (fun v V' => ∃ a : Addr, v = some (.ref a)) T5 (mkF m 25 #[.val (.int y0)] [(.ref a3)])
  exact gRetA E X5 rfl d16_25 (by decide) (by decide) (by decide) rfl rfl (⟨_, rfl⟩)
theorem own_cs {s : State} {args : Array Value} {cs : Int32} {t : Term} (h : t.eval args s none [] s = some (.int cs)) (w : (Jvm.Cond.not (.eq t (.int 0))).before args s = true) : ¬ cs = 0 := by
  intro q
  subst q
  simp [Cond.before, Cond.holds, Cond.value, h, Term.eval] at w
theorem pd_9 : parseMethodDescriptor "(I)Lcom/example/prizebook/prizebook/Answer$Outcome;" = some ⟨[.int], some (.object "com/example/prizebook/prizebook/Answer$Outcome")⟩ := by decide +kernel
theorem pd_10 : parseMethodDescriptor "([C)V" = some ⟨[(.array .char)], none⟩ := by decide +kernel
theorem pd_11 : parseMethodDescriptor "(Lcom/example/prizebook/prizebook/Answer$Outcome;Ljava/lang/String;)Lcom/example/prizebook/prizebook/Answer;" = some ⟨[(.object "com/example/prizebook/prizebook/Answer$Outcome"), (.object "java/lang/String")], some (.object "com/example/prizebook/prizebook/Answer")⟩ := by decide +kernel
theorem pd_12 : parseMethodDescriptor "()Lcom/example/prizebook/prizebook/Answer$Outcome;" = some ⟨[], some (.object "com/example/prizebook/prizebook/Answer$Outcome")⟩ := by decide +kernel
theorem pd_13 : parseMethodDescriptor "()Ljava/lang/String;" = some ⟨[], some (.object "java/lang/String")⟩ := by decide +kernel
theorem pd_14 : parseMethodDescriptor "()Lcom/example/prizebook/prizebook/Payment;" = some ⟨[], some (.object "com/example/prizebook/prizebook/Payment")⟩ := by decide +kernel
theorem pd_15 : parseMethodDescriptor "()Lcom/example/prizebook/prizebook/Voiding;" = some ⟨[], some (.object "com/example/prizebook/prizebook/Voiding")⟩ := by decide +kernel
theorem pd_16 : parseMethodDescriptor "()Lcom/example/prizebook/prizebook/Expiry;" = some ⟨[], some (.object "com/example/prizebook/prizebook/Expiry")⟩ := by decide +kernel
theorem pd_17 : parseMethodDescriptor "(C)Ljava/lang/String;" = some ⟨[.char], some (.object "java/lang/String")⟩ := by decide +kernel
set_option maxRecDepth 65536 in
set_option maxHeartbeats 40000000 in
theorem rm0 (l : Launch) (Z : State) (a0 : Array Value) (hw : ∀ d ∈ tables_1, d.before a0 Z = true) {V : oVw} (u0 : Int32) (u1 : Int32) (u2 : Int32) (u3 : Int32) (cs : Int32) (p0 : Addr) (p1 : Addr) (p2 : Addr) (p3 : Addr) (p4 : Addr) (p5 : Addr) (p6 : Addr) (p7 : Addr)  (SC : Sta Z Z.heap "java/lang/String" "COMPACT_STRINGS" "Z" (.int cs)) (hcs : ¬ cs = 0) (hh : Jvm.Lit.constHeld Z "java/lang/String" 7) (hcw : Jvm.Lit.compactW.before a0 Z = true) (S0 : Sta Z Z.heap "com/example/prizebook/prizebook/Answer$Outcome" "PAID" "Lcom/example/prizebook/prizebook/Answer$Outcome;" (.ref p0)) (S1 : Sta Z Z.heap "com/example/prizebook/prizebook/Answer$Outcome" "ALREADY_PAID" "Lcom/example/prizebook/prizebook/Answer$Outcome;" (.ref p1)) (S2 : Sta Z Z.heap "com/example/prizebook/prizebook/Answer$Outcome" "VOIDED" "Lcom/example/prizebook/prizebook/Answer$Outcome;" (.ref p2)) (S3 : Sta Z Z.heap "com/example/prizebook/prizebook/Answer$Outcome" "ALREADY_VOID" "Lcom/example/prizebook/prizebook/Answer$Outcome;" (.ref p3)) (S4 : Sta Z Z.heap "com/example/prizebook/prizebook/Answer$Outcome" "EXPIRED" "Lcom/example/prizebook/prizebook/Answer$Outcome;" (.ref p4)) (S5 : Sta Z Z.heap "com/example/prizebook/prizebook/Answer$Outcome" "NO_PRIZE" "Lcom/example/prizebook/prizebook/Answer$Outcome;" (.ref p5)) (S6 : Sta Z Z.heap "com/example/prizebook/prizebook/Answer$Outcome" "UNKNOWN" "Lcom/example/prizebook/prizebook/Answer$Outcome;" (.ref p6)) (S7 : Sta Z Z.heap "com/example/prizebook/prizebook/Answer$Outcome" "INVALID" "Lcom/example/prizebook/prizebook/Answer$Outcome;" (.ref p7)) :
    oCon true l Z x code maxLocals ret room_1 #[(.int u0), (.int u1), (.int u2), (.int u3)] V (fun v _ => v = some (.int 1)) := by
  refine oEnter (plainFor_of_name pn_com_example_prizebook_prizebook_AnswerOfPinLaw) (Ls := #[.val (.int u0), .val (.int u1), .val (.int u2), .val (.int u3), .unset, .unset, .unset, .unset, .unset, .unset]) (fun m => by first | (simp [entryFrame, mkF, argsToLocals, Value.category, maxLocals]; done) | rfl) ?_
  intro p e s m below meth c T E X
  refine gIloadN E X at_0 rfl (q := 1) rfl ?_
  refine gBipush E X at_1 (v := (7 : Int32)) (by decide) (q := 3) rfl ?_
  refine gIand E X at_3 (z := (u0 &&& (7 : Int32))) rfl (q := 4) rfl ?_
  refine gCallS E X (W := 0) (c2 := 0) (s2 := 0) [(.int (u0 &&& (7 : Int32)))] [] at_4 (hw _ (List.mem_of_getElem? (i := 0) rfl)) (hw _ (List.mem_of_getElem? (i := 1) rfl)) (hw _ (List.mem_of_getElem? (i := 2) rfl)) (hw _ (List.mem_of_getElem? (i := 3) rfl)) (by decide) (cP l Z a0 hw (u0 &&& (7 : Int32)) p0 p1 p2 p3 p4 p5 p6 p7 S0 S1 S2 S3 S4 S5 S6 S7) pd_9 rfl rfl rfl (by decide) (Nat.le_of_eq rfl) (by decide) (by decide) (by decide) (by decide) (by decide) (by decide) (q := 7) rfl ?_
  intro T1 v1 V1 R1 X1
  obtain ⟨w1, rfl, eQ1⟩ := R1
  rw [eQ1] at X1
  show oG true p e below s Z room_1 (fun v _ => v = some (.int 1)) T1 (mkF m 7 #[.val (.int u0), .val (.int u1), .val (.int u2), .val (.int u3), .unset, .unset, .unset, .unset, .unset, .unset] [(.ref w1)])
  refine gAstore E X1 at_7 rfl (l' := #[.val (.int u0), .val (.int u1), .val (.int u2), .val (.int u3), .val (.ref w1), .unset, .unset, .unset, .unset, .unset]) rfl (q := 9) rfl ?_
  refine gIconst E X1 at_9 (v := (2 : Int32)) (by decide) (q := 10) rfl ?_
  refine gNewA E X1 (c2 := 1) (s2 := 2) (cap := 2) (vs := [(.int (0 : Int32)), (.int (0 : Int32))]) (ty := .char) rfl at_10 (hw _ (List.mem_of_getElem? (i := 7) rfl)) (by decide) (by decide) (by decide) rfl (by decide) (by decide) (by decide) (by decide) (q := 12) rfl ?_
  intro T2 a2 X2
  obtain ⟨V2, eV2⟩ : ∃ z, z = V ++ [(a2, (.inr (.char, [(.int (0 : Int32)), (.int (0 : Int32))])))] := ⟨_, rfl⟩
  rw [← eV2] at X2
  have i2_0 := (eV2 ▸ oAppLast : V2[V.length]? = some (a2, (.inr (.char, [(.int (0 : Int32)), (.int (0 : Int32))]))))
  refine gAstore E X2 at_12 rfl (l' := #[.val (.int u0), .val (.int u1), .val (.int u2), .val (.int u3), .val (.ref w1), .val (.ref a2), .unset, .unset, .unset, .unset]) rfl (q := 14) rfl ?_
  refine gAload E X2 at_14 rfl rfl (q := 16) rfl ?_
  refine gIconst E X2 at_16 (v := (0 : Int32)) (by decide) (q := 17) rfl ?_
  refine gIloadN E X2 at_17 rfl (q := 18) rfl ?_
  refine gSipush E X2 at_18 (v := (255 : Int32)) (by decide) (q := 21) rfl ?_
  refine gIand E X2 at_21 (z := (u2 &&& (255 : Int32))) rfl (q := 22) rfl ?_
  refine gI2c E X2 at_22 (z := (u2 &&& (255 : Int32))) (own_ch (own_ff _)) (q := 23) rfl ?_
  refine gCastore E X2 (i := V.length) (jn := 0) (x' := (u2 &&& (255 : Int32))) (V' := (V2.set V.length (a2, (.inr (.char, [(.int (u2 &&& (255 : Int32))), (.int (0 : Int32))]))))) at_23 i2_0 (by decide) rfl (by show 0 < 2; decide) (own_nc (own_ff _)) rfl (q := 24) rfl ?_
  intro T3 X3
  obtain ⟨V3, eV3⟩ : ∃ z, z = (V2.set V.length (a2, (.inr (.char, [(.int (u2 &&& (255 : Int32))), (.int (0 : Int32))])))) := ⟨_, rfl⟩
  rw [← eV3] at X3
  have i3_0 := (eV3 ▸ oSetGet i2_0 : V3[V.length]? = some (a2, (.inr (.char, [(.int (u2 &&& (255 : Int32))), (.int (0 : Int32))]))))
  refine gAload E X3 at_24 rfl rfl (q := 26) rfl ?_
  refine gIconst E X3 at_26 (v := (1 : Int32)) (by decide) (q := 27) rfl ?_
  refine gIloadN E X3 at_27 rfl (q := 28) rfl ?_
  refine gSipush E X3 at_28 (v := (255 : Int32)) (by decide) (q := 31) rfl ?_
  refine gIand E X3 at_31 (z := (u3 &&& (255 : Int32))) rfl (q := 32) rfl ?_
  refine gI2c E X3 at_32 (z := (u3 &&& (255 : Int32))) (own_ch (own_ff _)) (q := 33) rfl ?_
  refine gCastore E X3 (i := V.length) (jn := 1) (x' := (u3 &&& (255 : Int32))) (V' := (V3.set V.length (a2, (.inr (.char, [(.int (u2 &&& (255 : Int32))), (.int (u3 &&& (255 : Int32)))]))))) at_33 i3_0 (by decide) rfl (by show 1 < 2; decide) (own_nc (own_ff _)) rfl (q := 34) rfl ?_
  intro T4 X4
  obtain ⟨V4, eV4⟩ : ∃ z, z = (V3.set V.length (a2, (.inr (.char, [(.int (u2 &&& (255 : Int32))), (.int (u3 &&& (255 : Int32)))])))) := ⟨_, rfl⟩
  rw [← eV4] at X4
  have i4_0 := (eV4 ▸ oSetGet i3_0 : V4[V.length]? = some (a2, (.inr (.char, [(.int (u2 &&& (255 : Int32))), (.int (u3 &&& (255 : Int32)))]))))
  refine gIconst E X4 at_34 (v := (0 : Int32)) (by decide) (q := 35) rfl ?_
  refine gNewA E X4 (c2 := 2) (s2 := 2) (cap := 0) (vs := []) (ty := .char) rfl at_35 (hw _ (List.mem_of_getElem? (i := 7) rfl)) (by decide) (by decide) (by decide) rfl (by decide) (by decide) (by decide) (by decide) (q := 37) rfl ?_
  intro T5 a5 X5
  obtain ⟨V5, eV5⟩ : ∃ z, z = V4 ++ [(a5, (.inr (.char, [])))] := ⟨_, rfl⟩
  rw [← eV5] at X5
  have i5_0 := (eV5 ▸ oAppGet i4_0 : V5[V.length]? = some (a2, (.inr (.char, [(.int (u2 &&& (255 : Int32))), (.int (u3 &&& (255 : Int32)))]))))
  have i5_1 := (eV5 ▸ oAppLast : V5[V4.length]? = some (a5, (.inr (.char, []))))
  refine gAstore E X5 at_37 rfl (l' := #[.val (.int u0), .val (.int u1), .val (.int u2), .val (.int u3), .val (.ref w1), .val (.ref a2), .val (.ref a5), .unset, .unset, .unset]) rfl (q := 39) rfl ?_
  refine gIloadN E X5 at_39 rfl (q := 40) rfl ?_
  refine gIconst E X5 at_40 (v := (3 : Int32)) (by decide) (q := 41) rfl ?_
  refine gIand E X5 at_41 (z := (u1 &&& (3 : Int32))) rfl (q := 42) rfl ?_
  refine gIstore E X5 at_42 (l' := #[.val (.int u0), .val (.int u1), .val (.int u2), .val (.int u3), .val (.ref w1), .val (.ref a2), .val (.ref a5), .val (.int (u1 &&& (3 : Int32))), .unset, .unset]) rfl (q := 44) rfl ?_
  refine gIload E X5 at_44 rfl (q := 46) rfl ?_
  refine gIf_ne E X5 at_46 (by decide) (q := 55) (by decide) (q' := 49) rfl (fun h46 => ?_) (fun h46 => ?_)
  · refine gIload E X5 at_55 rfl (q := 57) rfl ?_
    refine gIconst E X5 at_57 (v := (1 : Int32)) (by decide) (q := 58) rfl ?_
    refine gIc_ne E X5 at_58 (by decide) (q := 75) (by decide) (q' := 61) rfl (fun h58 => ?_) (fun h58 => ?_)
    · refine gIload E X5 at_75 rfl (q := 77) rfl ?_
      refine gIconst E X5 at_77 (v := (2 : Int32)) (by decide) (q := 78) rfl ?_
      refine gIc_ne E X5 at_78 (by decide) (q := 93) (by decide) (q' := 81) rfl (fun h78 => ?_) (fun h78 => ?_)
      · refine gNew E X5 (c2 := 3) (s2 := 6) at_93 (hw _ (List.mem_of_getElem? (i := 8) rfl)) (hw _ (List.mem_of_getElem? (i := 9) rfl)) (hw _ (List.mem_of_getElem? (i := 10) rfl)) (lay_String Z a0 hw) (by decide) (by decide) (by decide) (by decide) (q := 96) rfl ?_
        intro T6 a6 X6
        obtain ⟨V6, eV6⟩ : ∃ z, z = V5 ++ [(a6, (.inl ("java/lang/String", [("java/lang/String", "coder", "B", (.int (0 : Int32))), ("java/lang/String", "value", "[B", .null)])))] := ⟨_, rfl⟩
        rw [← eV6] at X6
        have i6_0 := (eV6 ▸ oAppGet i5_0 : V6[V.length]? = some (a2, (.inr (.char, [(.int (u2 &&& (255 : Int32))), (.int (u3 &&& (255 : Int32)))]))))
        have i6_1 := (eV6 ▸ oAppGet i5_1 : V6[V4.length]? = some (a5, (.inr (.char, []))))
        have i6_2 := (eV6 ▸ oAppLast : V6[V5.length]? = some (a6, (.inl ("java/lang/String", [("java/lang/String", "coder", "B", (.int (0 : Int32))), ("java/lang/String", "value", "[B", .null)]))))
        refine gDup E X6 at_96 rfl (q := 97) rfl ?_
        refine gAload E X6 at_97 rfl rfl (q := 99) rfl ?_
        refine gCallI E X6 (W := 1) (c2 := 5) (s2 := 10) (a := a6) [(.ref a2)] [(.ref a6)] at_99 rfl (hw _ (List.mem_of_getElem? (i := 11) rfl)) (hw _ (List.mem_of_getElem? (i := 12) rfl)) (hw _ (List.mem_of_getElem? (i := 10) rfl)) (hw _ (List.mem_of_getElem? (i := 13) rfl)) (by decide) (cN2 l Z a0 hw a6 a2 (u2 &&& (255 : Int32)) (u3 &&& (255 : Int32)) cs (i := V5.length) i6_2 (k := V.length) i6_0 (Nat.ne_of_lt (oLt i5_0)) SC hcs (own_ff _) (own_ff _)) pd_10 rfl rfl rfl (by decide) (Nat.le_of_eq rfl) (by decide) (by decide) (by decide) (by decide) (by decide) (by decide) (q := 102) rfl ?_
        intro T7 v7 V7 R7 X7
        obtain ⟨b7', rfl, eV7⟩ := R7
        have i7_0 := (eV7 ▸ oAppGet (oSetNe (Ne.symm (Nat.ne_of_lt (oLt i5_0))) i6_0) : V7[V.length]? = some (a2, (.inr (.char, [(.int (u2 &&& (255 : Int32))), (.int (u3 &&& (255 : Int32)))]))))
        have i7_1 := (eV7 ▸ oAppGet (oSetNe (Ne.symm (Nat.ne_of_lt (oLt i5_1))) i6_1) : V7[V4.length]? = some (a5, (.inr (.char, []))))
        have i7_2 := (eV7 ▸ oAppGet (oSetGet i6_2) : V7[V5.length]? = some (a6, (.inl ("java/lang/String", [("java/lang/String", "coder", "B", (.int (0 : Int32))), ("java/lang/String", "value", "[B", (.ref b7'))]))))
        show oG true p e below s Z room_1 (fun v _ => v = some (.int 1)) T7 (mkF m 102 #[.val (.int u0), .val (.int u1), .val (.int u2), .val (.int u3), .val (.ref w1), .val (.ref a2), .val (.ref a5), .val (.int (u1 &&& (3 : Int32))), .unset, .unset] [(.ref a6)])
        refine gAstore E X7 at_102 rfl (l' := #[.val (.int u0), .val (.int u1), .val (.int u2), .val (.int u3), .val (.ref w1), .val (.ref a2), .val (.ref a5), .val (.int (u1 &&& (3 : Int32))), .val (.ref a6), .unset]) rfl (q := 104) rfl ?_
        refine gAload E X7 at_104 rfl rfl (q := 106) rfl ?_
        refine gAload E X7 at_106 rfl rfl (q := 108) rfl ?_
        refine gCallS E X7 (W := 0) (c2 := 6) (s2 := 15) [(.ref w1), (.ref a6)] [] at_108 (hw _ (List.mem_of_getElem? (i := 37) rfl)) (hw _ (List.mem_of_getElem? (i := 38) rfl)) (hw _ (List.mem_of_getElem? (i := 39) rfl)) (hw _ (List.mem_of_getElem? (i := 40) rfl)) (by decide) (cO l Z a0 hw w1 (.ref a6) rfl) pd_11 rfl rfl rfl (by decide) (Nat.le_of_eq rfl) (by decide) (by decide) (by decide) (by decide) (by decide) (by decide) (q := 111) rfl ?_
        intro T8 v8 V8 R8 X8
        obtain ⟨q8, n8, rfl, hq8⟩ := R8
        show oG true p e below s Z room_1 (fun v _ => v = some (.int 1)) T8 (mkF m 111 #[.val (.int u0), .val (.int u1), .val (.int u2), .val (.int u3), .val (.ref w1), .val (.ref a2), .val (.ref a5), .val (.int (u1 &&& (3 : Int32))), .val (.ref a6), .unset] [(.ref q8)])
        refine gAstore E X8 at_111 rfl (l' := #[.val (.int u0), .val (.int u1), .val (.int u2), .val (.int u3), .val (.ref w1), .val (.ref a2), .val (.ref a5), .val (.int (u1 &&& (3 : Int32))), .val (.ref a6), .val (.ref q8)]) rfl (q := 113) rfl ?_
        refine gAload E X8 at_113 rfl rfl (q := 115) rfl ?_
        refine gNull_n E X8 rfl at_115 (by decide) (q := 120) (by decide) (q' := 118) rfl (fun h115 => ?_) (fun h115 => by exfalso; cases h115)
        refine gAload E X8 at_120 rfl rfl (q := 122) rfl ?_
        refine gCallV E X8 (W := 0) (c2 := 6) (s2 := 15) (i := n8) (a := q8) [] [] at_122 hq8 (hw _ (List.mem_of_getElem? (i := 62) rfl)) (hw _ (List.mem_of_getElem? (i := 63) rfl)) (hw _ (List.mem_of_getElem? (i := 65) rfl)) (hw _ (List.mem_of_getElem? (i := 65) rfl)) (hw _ (List.mem_of_getElem? (i := 64) rfl)) (hw _ (List.mem_of_getElem? (i := 39) rfl)) (hw _ (List.mem_of_getElem? (i := 66) rfl)) (by decide) (cF0 l Z a0 hw q8 w1 (.ref a6) (i := n8) hq8 rfl) pd_12 rfl rfl rfl (by decide) (Nat.le_of_eq rfl) (by decide) (by decide) (by decide) (by decide) (by decide) (by decide) (q := 125) rfl ?_
        intro T9 v9 V9 R9 X9
        obtain ⟨rfl, eQ9⟩ := R9
        rw [eQ9] at X9
        show oG true p e below s Z room_1 (fun v _ => v = some (.int 1)) T9 (mkF m 125 #[.val (.int u0), .val (.int u1), .val (.int u2), .val (.int u3), .val (.ref w1), .val (.ref a2), .val (.ref a5), .val (.int (u1 &&& (3 : Int32))), .val (.ref a6), .val (.ref q8)] [(.ref w1)])
        refine gAload E X9 at_125 rfl rfl (q := 127) rfl ?_
        refine gAc_eq E X9 rfl rfl at_127 (by decide) (q := 132) (by decide) (q' := 130) rfl (fun h127 => ?_) (fun h127 => by exfalso; exact h127 rfl)
        refine gAload E X9 at_132 rfl rfl (q := 134) rfl ?_
        refine gCallV E X9 (W := 0) (c2 := 6) (s2 := 15) (i := n8) (a := q8) [] [] at_134 hq8 (hw _ (List.mem_of_getElem? (i := 67) rfl)) (hw _ (List.mem_of_getElem? (i := 68) rfl)) (hw _ (List.mem_of_getElem? (i := 70) rfl)) (hw _ (List.mem_of_getElem? (i := 70) rfl)) (hw _ (List.mem_of_getElem? (i := 69) rfl)) (hw _ (List.mem_of_getElem? (i := 39) rfl)) (hw _ (List.mem_of_getElem? (i := 71) rfl)) (by decide) (cF1 l Z a0 hw q8 w1 (.ref a6) (i := n8) hq8 rfl) pd_13 rfl rfl rfl (by decide) (Nat.le_of_eq rfl) (by decide) (by decide) (by decide) (by decide) (by decide) (by decide) (q := 137) rfl ?_
        intro T10 v10 V10 R10 X10
        obtain ⟨rfl, eQ10⟩ := R10
        rw [eQ10] at X10
        show oG true p e below s Z room_1 (fun v _ => v = some (.int 1)) T10 (mkF m 137 #[.val (.int u0), .val (.int u1), .val (.int u2), .val (.int u3), .val (.ref w1), .val (.ref a2), .val (.ref a5), .val (.int (u1 &&& (3 : Int32))), .val (.ref a6), .val (.ref q8)] [(.ref a6)])
        refine gAload E X10 at_137 rfl rfl (q := 139) rfl ?_
        refine gAc_eq E X10 rfl rfl at_139 (by decide) (q := 144) (by decide) (q' := 142) rfl (fun h139 => ?_) (fun h139 => by exfalso; exact h139 rfl)
        refine gAload E X10 at_144 rfl rfl (q := 146) rfl ?_
        refine gCallV E X10 (W := 0) (c2 := 6) (s2 := 15) (i := n8) (a := q8) [] [] at_146 hq8 (hw _ (List.mem_of_getElem? (i := 72) rfl)) (hw _ (List.mem_of_getElem? (i := 73) rfl)) (hw _ (List.mem_of_getElem? (i := 75) rfl)) (hw _ (List.mem_of_getElem? (i := 75) rfl)) (hw _ (List.mem_of_getElem? (i := 74) rfl)) (hw _ (List.mem_of_getElem? (i := 39) rfl)) (hw _ (List.mem_of_getElem? (i := 76) rfl)) (by decide) (cF2 l Z a0 hw q8 w1 (.ref a6) (i := n8) hq8 rfl) pd_14 rfl rfl rfl (by decide) (Nat.le_of_eq rfl) (by decide) (by decide) (by decide) (by decide) (by decide) (by decide) (q := 149) rfl ?_
        intro T11 v11 V11 R11 X11
        obtain ⟨rfl, eQ11⟩ := R11
        rw [eQ11] at X11
        show oG true p e below s Z room_1 (fun v _ => v = some (.int 1)) T11 (mkF m 149 #[.val (.int u0), .val (.int u1), .val (.int u2), .val (.int u3), .val (.ref w1), .val (.ref a2), .val (.ref a5), .val (.int (u1 &&& (3 : Int32))), .val (.ref a6), .val (.ref q8)] [.null])
        refine gNull_y E X11 rfl at_149 (by decide) (q := 154) (by decide) (q' := 152) rfl (fun h149 => ?_) (fun h149 => by exfalso; exact h149 rfl)
        refine gAload E X11 at_154 rfl rfl (q := 156) rfl ?_
        refine gCallV E X11 (W := 0) (c2 := 6) (s2 := 15) (i := n8) (a := q8) [] [] at_156 hq8 (hw _ (List.mem_of_getElem? (i := 77) rfl)) (hw _ (List.mem_of_getElem? (i := 78) rfl)) (hw _ (List.mem_of_getElem? (i := 80) rfl)) (hw _ (List.mem_of_getElem? (i := 80) rfl)) (hw _ (List.mem_of_getElem? (i := 79) rfl)) (hw _ (List.mem_of_getElem? (i := 39) rfl)) (hw _ (List.mem_of_getElem? (i := 81) rfl)) (by decide) (cF3 l Z a0 hw q8 w1 (.ref a6) (i := n8) hq8 rfl) pd_15 rfl rfl rfl (by decide) (Nat.le_of_eq rfl) (by decide) (by decide) (by decide) (by decide) (by decide) (by decide) (q := 159) rfl ?_
        intro T12 v12 V12 R12 X12
        obtain ⟨rfl, eQ12⟩ := R12
        rw [eQ12] at X12
        show oG true p e below s Z room_1 (fun v _ => v = some (.int 1)) T12 (mkF m 159 #[.val (.int u0), .val (.int u1), .val (.int u2), .val (.int u3), .val (.ref w1), .val (.ref a2), .val (.ref a5), .val (.int (u1 &&& (3 : Int32))), .val (.ref a6), .val (.ref q8)] [.null])
        refine gNull_y E X12 rfl at_159 (by decide) (q := 164) (by decide) (q' := 162) rfl (fun h159 => ?_) (fun h159 => by exfalso; exact h159 rfl)
        refine gAload E X12 at_164 rfl rfl (q := 166) rfl ?_
        refine gCallV E X12 (W := 0) (c2 := 6) (s2 := 15) (i := n8) (a := q8) [] [] at_166 hq8 (hw _ (List.mem_of_getElem? (i := 82) rfl)) (hw _ (List.mem_of_getElem? (i := 83) rfl)) (hw _ (List.mem_of_getElem? (i := 85) rfl)) (hw _ (List.mem_of_getElem? (i := 85) rfl)) (hw _ (List.mem_of_getElem? (i := 84) rfl)) (hw _ (List.mem_of_getElem? (i := 39) rfl)) (hw _ (List.mem_of_getElem? (i := 86) rfl)) (by decide) (cF4 l Z a0 hw q8 w1 (.ref a6) (i := n8) hq8 rfl) pd_16 rfl rfl rfl (by decide) (Nat.le_of_eq rfl) (by decide) (by decide) (by decide) (by decide) (by decide) (by decide) (q := 169) rfl ?_
        intro T13 v13 V13 R13 X13
        obtain ⟨rfl, eQ13⟩ := R13
        rw [eQ13] at X13
        show oG true p e below s Z room_1 (fun v _ => v = some (.int 1)) T13 (mkF m 169 #[.val (.int u0), .val (.int u1), .val (.int u2), .val (.int u3), .val (.ref w1), .val (.ref a2), .val (.ref a5), .val (.int (u1 &&& (3 : Int32))), .val (.ref a6), .val (.ref q8)] [.null])
        refine gNull_y E X13 rfl at_169 (by decide) (q := 174) (by decide) (q' := 172) rfl (fun h169 => ?_) (fun h169 => by exfalso; exact h169 rfl)
        refine gIconst E X13 at_174 (v := (1 : Int32)) (by decide) (q := 175) rfl ?_
        exact gRetN E X13 (by simp) at_175 (by decide) (by decide) (by decide) (rfl)
      · refine gAload E X5 at_81 rfl rfl (q := 83) rfl ?_
        refine gIconst E X5 at_83 (v := (0 : Int32)) (by decide) (q := 84) rfl ?_
        refine gCaload E X5 (i := V.length) (v := (.int (u2 &&& (255 : Int32)))) at_84 i5_0 (by decide) rfl (q := 85) rfl ?_
        refine gCallS E X5 (W := 0) (c2 := 4) (s2 := 7) [(.int (u2 &&& (255 : Int32)))] [] at_85 (hw _ (List.mem_of_getElem? (i := 93) rfl)) (hw _ (List.mem_of_getElem? (i := 94) rfl)) (hw _ (List.mem_of_getElem? (i := 10) rfl)) (hw _ (List.mem_of_getElem? (i := 95) rfl)) (by decide) (cV l Z a0 hw (u2 &&& (255 : Int32)) cs SC hcs (own_ff _)) pd_17 rfl rfl rfl (by decide) (Nat.le_of_eq rfl) (by decide) (by decide) (by decide) (by decide) (by decide) (by decide) (q := 88) rfl ?_
        intro T14 v14 V14 R14 X14
        obtain ⟨a14, rfl⟩ := R14
        show oG true p e below s Z room_1 (fun v _ => v = some (.int 1)) T14 (mkF m 88 #[.val (.int u0), .val (.int u1), .val (.int u2), .val (.int u3), .val (.ref w1), .val (.ref a2), .val (.ref a5), .val (.int (u1 &&& (3 : Int32))), .unset, .unset] [(.ref a14)])
        refine gAstore E X14 at_88 rfl (l' := #[.val (.int u0), .val (.int u1), .val (.int u2), .val (.int u3), .val (.ref w1), .val (.ref a2), .val (.ref a5), .val (.int (u1 &&& (3 : Int32))), .val (.ref a14), .unset]) rfl (q := 90) rfl ?_
        refine gGoto E X14 at_90 (by decide) (q := 104) (by decide) ?_
        refine gAload E X14 at_104 rfl rfl (q := 106) rfl ?_
        refine gAload E X14 at_106 rfl rfl (q := 108) rfl ?_
        refine gCallS E X14 (W := 0) (c2 := 5) (s2 := 12) [(.ref w1), (.ref a14)] [] at_108 (hw _ (List.mem_of_getElem? (i := 37) rfl)) (hw _ (List.mem_of_getElem? (i := 38) rfl)) (hw _ (List.mem_of_getElem? (i := 39) rfl)) (hw _ (List.mem_of_getElem? (i := 40) rfl)) (by decide) (cO l Z a0 hw w1 (.ref a14) rfl) pd_11 rfl rfl rfl (by decide) (Nat.le_of_eq rfl) (by decide) (by decide) (by decide) (by decide) (by decide) (by decide) (q := 111) rfl ?_
        intro T15 v15 V15 R15 X15
        obtain ⟨q15, n15, rfl, hq15⟩ := R15
        show oG true p e below s Z room_1 (fun v _ => v = some (.int 1)) T15 (mkF m 111 #[.val (.int u0), .val (.int u1), .val (.int u2), .val (.int u3), .val (.ref w1), .val (.ref a2), .val (.ref a5), .val (.int (u1 &&& (3 : Int32))), .val (.ref a14), .unset] [(.ref q15)])
        refine gAstore E X15 at_111 rfl (l' := #[.val (.int u0), .val (.int u1), .val (.int u2), .val (.int u3), .val (.ref w1), .val (.ref a2), .val (.ref a5), .val (.int (u1 &&& (3 : Int32))), .val (.ref a14), .val (.ref q15)]) rfl (q := 113) rfl ?_
        refine gAload E X15 at_113 rfl rfl (q := 115) rfl ?_
        refine gNull_n E X15 rfl at_115 (by decide) (q := 120) (by decide) (q' := 118) rfl (fun h115 => ?_) (fun h115 => by exfalso; cases h115)
        refine gAload E X15 at_120 rfl rfl (q := 122) rfl ?_
        refine gCallV E X15 (W := 0) (c2 := 5) (s2 := 12) (i := n15) (a := q15) [] [] at_122 hq15 (hw _ (List.mem_of_getElem? (i := 62) rfl)) (hw _ (List.mem_of_getElem? (i := 63) rfl)) (hw _ (List.mem_of_getElem? (i := 65) rfl)) (hw _ (List.mem_of_getElem? (i := 65) rfl)) (hw _ (List.mem_of_getElem? (i := 64) rfl)) (hw _ (List.mem_of_getElem? (i := 39) rfl)) (hw _ (List.mem_of_getElem? (i := 66) rfl)) (by decide) (cF0 l Z a0 hw q15 w1 (.ref a14) (i := n15) hq15 rfl) pd_12 rfl rfl rfl (by decide) (Nat.le_of_eq rfl) (by decide) (by decide) (by decide) (by decide) (by decide) (by decide) (q := 125) rfl ?_
        intro T16 v16 V16 R16 X16
        obtain ⟨rfl, eQ16⟩ := R16
        rw [eQ16] at X16
        show oG true p e below s Z room_1 (fun v _ => v = some (.int 1)) T16 (mkF m 125 #[.val (.int u0), .val (.int u1), .val (.int u2), .val (.int u3), .val (.ref w1), .val (.ref a2), .val (.ref a5), .val (.int (u1 &&& (3 : Int32))), .val (.ref a14), .val (.ref q15)] [(.ref w1)])
        refine gAload E X16 at_125 rfl rfl (q := 127) rfl ?_
        refine gAc_eq E X16 rfl rfl at_127 (by decide) (q := 132) (by decide) (q' := 130) rfl (fun h127 => ?_) (fun h127 => by exfalso; exact h127 rfl)
        refine gAload E X16 at_132 rfl rfl (q := 134) rfl ?_
        refine gCallV E X16 (W := 0) (c2 := 5) (s2 := 12) (i := n15) (a := q15) [] [] at_134 hq15 (hw _ (List.mem_of_getElem? (i := 67) rfl)) (hw _ (List.mem_of_getElem? (i := 68) rfl)) (hw _ (List.mem_of_getElem? (i := 70) rfl)) (hw _ (List.mem_of_getElem? (i := 70) rfl)) (hw _ (List.mem_of_getElem? (i := 69) rfl)) (hw _ (List.mem_of_getElem? (i := 39) rfl)) (hw _ (List.mem_of_getElem? (i := 71) rfl)) (by decide) (cF1 l Z a0 hw q15 w1 (.ref a14) (i := n15) hq15 rfl) pd_13 rfl rfl rfl (by decide) (Nat.le_of_eq rfl) (by decide) (by decide) (by decide) (by decide) (by decide) (by decide) (q := 137) rfl ?_
        intro T17 v17 V17 R17 X17
        obtain ⟨rfl, eQ17⟩ := R17
        rw [eQ17] at X17
        show oG true p e below s Z room_1 (fun v _ => v = some (.int 1)) T17 (mkF m 137 #[.val (.int u0), .val (.int u1), .val (.int u2), .val (.int u3), .val (.ref w1), .val (.ref a2), .val (.ref a5), .val (.int (u1 &&& (3 : Int32))), .val (.ref a14), .val (.ref q15)] [(.ref a14)])
        refine gAload E X17 at_137 rfl rfl (q := 139) rfl ?_
        refine gAc_eq E X17 rfl rfl at_139 (by decide) (q := 144) (by decide) (q' := 142) rfl (fun h139 => ?_) (fun h139 => by exfalso; exact h139 rfl)
        refine gAload E X17 at_144 rfl rfl (q := 146) rfl ?_
        refine gCallV E X17 (W := 0) (c2 := 5) (s2 := 12) (i := n15) (a := q15) [] [] at_146 hq15 (hw _ (List.mem_of_getElem? (i := 72) rfl)) (hw _ (List.mem_of_getElem? (i := 73) rfl)) (hw _ (List.mem_of_getElem? (i := 75) rfl)) (hw _ (List.mem_of_getElem? (i := 75) rfl)) (hw _ (List.mem_of_getElem? (i := 74) rfl)) (hw _ (List.mem_of_getElem? (i := 39) rfl)) (hw _ (List.mem_of_getElem? (i := 76) rfl)) (by decide) (cF2 l Z a0 hw q15 w1 (.ref a14) (i := n15) hq15 rfl) pd_14 rfl rfl rfl (by decide) (Nat.le_of_eq rfl) (by decide) (by decide) (by decide) (by decide) (by decide) (by decide) (q := 149) rfl ?_
        intro T18 v18 V18 R18 X18
        obtain ⟨rfl, eQ18⟩ := R18
        rw [eQ18] at X18
        show oG true p e below s Z room_1 (fun v _ => v = some (.int 1)) T18 (mkF m 149 #[.val (.int u0), .val (.int u1), .val (.int u2), .val (.int u3), .val (.ref w1), .val (.ref a2), .val (.ref a5), .val (.int (u1 &&& (3 : Int32))), .val (.ref a14), .val (.ref q15)] [.null])
        refine gNull_y E X18 rfl at_149 (by decide) (q := 154) (by decide) (q' := 152) rfl (fun h149 => ?_) (fun h149 => by exfalso; exact h149 rfl)
        refine gAload E X18 at_154 rfl rfl (q := 156) rfl ?_
        refine gCallV E X18 (W := 0) (c2 := 5) (s2 := 12) (i := n15) (a := q15) [] [] at_156 hq15 (hw _ (List.mem_of_getElem? (i := 77) rfl)) (hw _ (List.mem_of_getElem? (i := 78) rfl)) (hw _ (List.mem_of_getElem? (i := 80) rfl)) (hw _ (List.mem_of_getElem? (i := 80) rfl)) (hw _ (List.mem_of_getElem? (i := 79) rfl)) (hw _ (List.mem_of_getElem? (i := 39) rfl)) (hw _ (List.mem_of_getElem? (i := 81) rfl)) (by decide) (cF3 l Z a0 hw q15 w1 (.ref a14) (i := n15) hq15 rfl) pd_15 rfl rfl rfl (by decide) (Nat.le_of_eq rfl) (by decide) (by decide) (by decide) (by decide) (by decide) (by decide) (q := 159) rfl ?_
        intro T19 v19 V19 R19 X19
        obtain ⟨rfl, eQ19⟩ := R19
        rw [eQ19] at X19
        show oG true p e below s Z room_1 (fun v _ => v = some (.int 1)) T19 (mkF m 159 #[.val (.int u0), .val (.int u1), .val (.int u2), .val (.int u3), .val (.ref w1), .val (.ref a2), .val (.ref a5), .val (.int (u1 &&& (3 : Int32))), .val (.ref a14), .val (.ref q15)] [.null])
        refine gNull_y E X19 rfl at_159 (by decide) (q := 164) (by decide) (q' := 162) rfl (fun h159 => ?_) (fun h159 => by exfalso; exact h159 rfl)
        refine gAload E X19 at_164 rfl rfl (q := 166) rfl ?_
        refine gCallV E X19 (W := 0) (c2 := 5) (s2 := 12) (i := n15) (a := q15) [] [] at_166 hq15 (hw _ (List.mem_of_getElem? (i := 82) rfl)) (hw _ (List.mem_of_getElem? (i := 83) rfl)) (hw _ (List.mem_of_getElem? (i := 85) rfl)) (hw _ (List.mem_of_getElem? (i := 85) rfl)) (hw _ (List.mem_of_getElem? (i := 84) rfl)) (hw _ (List.mem_of_getElem? (i := 39) rfl)) (hw _ (List.mem_of_getElem? (i := 86) rfl)) (by decide) (cF4 l Z a0 hw q15 w1 (.ref a14) (i := n15) hq15 rfl) pd_16 rfl rfl rfl (by decide) (Nat.le_of_eq rfl) (by decide) (by decide) (by decide) (by decide) (by decide) (by decide) (q := 169) rfl ?_
        intro T20 v20 V20 R20 X20
        obtain ⟨rfl, eQ20⟩ := R20
        rw [eQ20] at X20
        show oG true p e below s Z room_1 (fun v _ => v = some (.int 1)) T20 (mkF m 169 #[.val (.int u0), .val (.int u1), .val (.int u2), .val (.int u3), .val (.ref w1), .val (.ref a2), .val (.ref a5), .val (.int (u1 &&& (3 : Int32))), .val (.ref a14), .val (.ref q15)] [.null])
        refine gNull_y E X20 rfl at_169 (by decide) (q := 174) (by decide) (q' := 172) rfl (fun h169 => ?_) (fun h169 => by exfalso; exact h169 rfl)
        refine gIconst E X20 at_174 (v := (1 : Int32)) (by decide) (q := 175) rfl ?_
        exact gRetN E X20 (by simp) at_175 (by decide) (by decide) (by decide) (rfl)
    · refine gNew E X5 (c2 := 3) (s2 := 6) at_61 (hw _ (List.mem_of_getElem? (i := 8) rfl)) (hw _ (List.mem_of_getElem? (i := 9) rfl)) (hw _ (List.mem_of_getElem? (i := 10) rfl)) (lay_String Z a0 hw) (by decide) (by decide) (by decide) (by decide) (q := 64) rfl ?_
      intro T21 a21 X21
      obtain ⟨V21, eV21⟩ : ∃ z, z = V5 ++ [(a21, (.inl ("java/lang/String", [("java/lang/String", "coder", "B", (.int (0 : Int32))), ("java/lang/String", "value", "[B", .null)])))] := ⟨_, rfl⟩
      rw [← eV21] at X21
      have i21_0 := (eV21 ▸ oAppGet i5_0 : V21[V.length]? = some (a2, (.inr (.char, [(.int (u2 &&& (255 : Int32))), (.int (u3 &&& (255 : Int32)))]))))
      have i21_1 := (eV21 ▸ oAppGet i5_1 : V21[V4.length]? = some (a5, (.inr (.char, []))))
      have i21_2 := (eV21 ▸ oAppLast : V21[V5.length]? = some (a21, (.inl ("java/lang/String", [("java/lang/String", "coder", "B", (.int (0 : Int32))), ("java/lang/String", "value", "[B", .null)]))))
      refine gDup E X21 at_64 rfl (q := 65) rfl ?_
      refine gAload E X21 at_65 rfl rfl (q := 67) rfl ?_
      refine gCallI E X21 (W := 1) (c2 := 5) (s2 := 10) (a := a21) [(.ref a5)] [(.ref a21)] at_67 rfl (hw _ (List.mem_of_getElem? (i := 11) rfl)) (hw _ (List.mem_of_getElem? (i := 12) rfl)) (hw _ (List.mem_of_getElem? (i := 10) rfl)) (hw _ (List.mem_of_getElem? (i := 13) rfl)) (by decide) (cN0 l Z a0 hw a21 a5 (i := V5.length) i21_2 (k := V4.length) i21_1 (Nat.ne_of_lt (oLt i5_1)) hh hcw) pd_10 rfl rfl rfl (by decide) (Nat.le_of_eq rfl) (by decide) (by decide) (by decide) (by decide) (by decide) (by decide) (q := 70) rfl ?_
      intro T22 v22 V22 R22 X22
      obtain ⟨b22', rfl, eV22⟩ := R22
      have i22_0 := (eV22 ▸ (oSetNe (Ne.symm (Nat.ne_of_lt (oLt i5_0))) i21_0) : V22[V.length]? = some (a2, (.inr (.char, [(.int (u2 &&& (255 : Int32))), (.int (u3 &&& (255 : Int32)))]))))
      have i22_1 := (eV22 ▸ (oSetNe (Ne.symm (Nat.ne_of_lt (oLt i5_1))) i21_1) : V22[V4.length]? = some (a5, (.inr (.char, []))))
      have i22_2 := (eV22 ▸ (oSetGet i21_2) : V22[V5.length]? = some (a21, (.inl ("java/lang/String", [("java/lang/String", "coder", "B", (.int (0 : Int32))), ("java/lang/String", "value", "[B", (.ref b22'))]))))
      show oG true p e below s Z room_1 (fun v _ => v = some (.int 1)) T22 (mkF m 70 #[.val (.int u0), .val (.int u1), .val (.int u2), .val (.int u3), .val (.ref w1), .val (.ref a2), .val (.ref a5), .val (.int (u1 &&& (3 : Int32))), .unset, .unset] [(.ref a21)])
      refine gAstore E X22 at_70 rfl (l' := #[.val (.int u0), .val (.int u1), .val (.int u2), .val (.int u3), .val (.ref w1), .val (.ref a2), .val (.ref a5), .val (.int (u1 &&& (3 : Int32))), .val (.ref a21), .unset]) rfl (q := 72) rfl ?_
      refine gGoto E X22 at_72 (by decide) (q := 104) (by decide) ?_
      refine gAload E X22 at_104 rfl rfl (q := 106) rfl ?_
      refine gAload E X22 at_106 rfl rfl (q := 108) rfl ?_
      refine gCallS E X22 (W := 0) (c2 := 6) (s2 := 15) [(.ref w1), (.ref a21)] [] at_108 (hw _ (List.mem_of_getElem? (i := 37) rfl)) (hw _ (List.mem_of_getElem? (i := 38) rfl)) (hw _ (List.mem_of_getElem? (i := 39) rfl)) (hw _ (List.mem_of_getElem? (i := 40) rfl)) (by decide) (cO l Z a0 hw w1 (.ref a21) rfl) pd_11 rfl rfl rfl (by decide) (Nat.le_of_eq rfl) (by decide) (by decide) (by decide) (by decide) (by decide) (by decide) (q := 111) rfl ?_
      intro T23 v23 V23 R23 X23
      obtain ⟨q23, n23, rfl, hq23⟩ := R23
      show oG true p e below s Z room_1 (fun v _ => v = some (.int 1)) T23 (mkF m 111 #[.val (.int u0), .val (.int u1), .val (.int u2), .val (.int u3), .val (.ref w1), .val (.ref a2), .val (.ref a5), .val (.int (u1 &&& (3 : Int32))), .val (.ref a21), .unset] [(.ref q23)])
      refine gAstore E X23 at_111 rfl (l' := #[.val (.int u0), .val (.int u1), .val (.int u2), .val (.int u3), .val (.ref w1), .val (.ref a2), .val (.ref a5), .val (.int (u1 &&& (3 : Int32))), .val (.ref a21), .val (.ref q23)]) rfl (q := 113) rfl ?_
      refine gAload E X23 at_113 rfl rfl (q := 115) rfl ?_
      refine gNull_n E X23 rfl at_115 (by decide) (q := 120) (by decide) (q' := 118) rfl (fun h115 => ?_) (fun h115 => by exfalso; cases h115)
      refine gAload E X23 at_120 rfl rfl (q := 122) rfl ?_
      refine gCallV E X23 (W := 0) (c2 := 6) (s2 := 15) (i := n23) (a := q23) [] [] at_122 hq23 (hw _ (List.mem_of_getElem? (i := 62) rfl)) (hw _ (List.mem_of_getElem? (i := 63) rfl)) (hw _ (List.mem_of_getElem? (i := 65) rfl)) (hw _ (List.mem_of_getElem? (i := 65) rfl)) (hw _ (List.mem_of_getElem? (i := 64) rfl)) (hw _ (List.mem_of_getElem? (i := 39) rfl)) (hw _ (List.mem_of_getElem? (i := 66) rfl)) (by decide) (cF0 l Z a0 hw q23 w1 (.ref a21) (i := n23) hq23 rfl) pd_12 rfl rfl rfl (by decide) (Nat.le_of_eq rfl) (by decide) (by decide) (by decide) (by decide) (by decide) (by decide) (q := 125) rfl ?_
      intro T24 v24 V24 R24 X24
      obtain ⟨rfl, eQ24⟩ := R24
      rw [eQ24] at X24
      show oG true p e below s Z room_1 (fun v _ => v = some (.int 1)) T24 (mkF m 125 #[.val (.int u0), .val (.int u1), .val (.int u2), .val (.int u3), .val (.ref w1), .val (.ref a2), .val (.ref a5), .val (.int (u1 &&& (3 : Int32))), .val (.ref a21), .val (.ref q23)] [(.ref w1)])
      refine gAload E X24 at_125 rfl rfl (q := 127) rfl ?_
      refine gAc_eq E X24 rfl rfl at_127 (by decide) (q := 132) (by decide) (q' := 130) rfl (fun h127 => ?_) (fun h127 => by exfalso; exact h127 rfl)
      refine gAload E X24 at_132 rfl rfl (q := 134) rfl ?_
      refine gCallV E X24 (W := 0) (c2 := 6) (s2 := 15) (i := n23) (a := q23) [] [] at_134 hq23 (hw _ (List.mem_of_getElem? (i := 67) rfl)) (hw _ (List.mem_of_getElem? (i := 68) rfl)) (hw _ (List.mem_of_getElem? (i := 70) rfl)) (hw _ (List.mem_of_getElem? (i := 70) rfl)) (hw _ (List.mem_of_getElem? (i := 69) rfl)) (hw _ (List.mem_of_getElem? (i := 39) rfl)) (hw _ (List.mem_of_getElem? (i := 71) rfl)) (by decide) (cF1 l Z a0 hw q23 w1 (.ref a21) (i := n23) hq23 rfl) pd_13 rfl rfl rfl (by decide) (Nat.le_of_eq rfl) (by decide) (by decide) (by decide) (by decide) (by decide) (by decide) (q := 137) rfl ?_
      intro T25 v25 V25 R25 X25
      obtain ⟨rfl, eQ25⟩ := R25
      rw [eQ25] at X25
      show oG true p e below s Z room_1 (fun v _ => v = some (.int 1)) T25 (mkF m 137 #[.val (.int u0), .val (.int u1), .val (.int u2), .val (.int u3), .val (.ref w1), .val (.ref a2), .val (.ref a5), .val (.int (u1 &&& (3 : Int32))), .val (.ref a21), .val (.ref q23)] [(.ref a21)])
      refine gAload E X25 at_137 rfl rfl (q := 139) rfl ?_
      refine gAc_eq E X25 rfl rfl at_139 (by decide) (q := 144) (by decide) (q' := 142) rfl (fun h139 => ?_) (fun h139 => by exfalso; exact h139 rfl)
      refine gAload E X25 at_144 rfl rfl (q := 146) rfl ?_
      refine gCallV E X25 (W := 0) (c2 := 6) (s2 := 15) (i := n23) (a := q23) [] [] at_146 hq23 (hw _ (List.mem_of_getElem? (i := 72) rfl)) (hw _ (List.mem_of_getElem? (i := 73) rfl)) (hw _ (List.mem_of_getElem? (i := 75) rfl)) (hw _ (List.mem_of_getElem? (i := 75) rfl)) (hw _ (List.mem_of_getElem? (i := 74) rfl)) (hw _ (List.mem_of_getElem? (i := 39) rfl)) (hw _ (List.mem_of_getElem? (i := 76) rfl)) (by decide) (cF2 l Z a0 hw q23 w1 (.ref a21) (i := n23) hq23 rfl) pd_14 rfl rfl rfl (by decide) (Nat.le_of_eq rfl) (by decide) (by decide) (by decide) (by decide) (by decide) (by decide) (q := 149) rfl ?_
      intro T26 v26 V26 R26 X26
      obtain ⟨rfl, eQ26⟩ := R26
      rw [eQ26] at X26
      show oG true p e below s Z room_1 (fun v _ => v = some (.int 1)) T26 (mkF m 149 #[.val (.int u0), .val (.int u1), .val (.int u2), .val (.int u3), .val (.ref w1), .val (.ref a2), .val (.ref a5), .val (.int (u1 &&& (3 : Int32))), .val (.ref a21), .val (.ref q23)] [.null])
      refine gNull_y E X26 rfl at_149 (by decide) (q := 154) (by decide) (q' := 152) rfl (fun h149 => ?_) (fun h149 => by exfalso; exact h149 rfl)
      refine gAload E X26 at_154 rfl rfl (q := 156) rfl ?_
      refine gCallV E X26 (W := 0) (c2 := 6) (s2 := 15) (i := n23) (a := q23) [] [] at_156 hq23 (hw _ (List.mem_of_getElem? (i := 77) rfl)) (hw _ (List.mem_of_getElem? (i := 78) rfl)) (hw _ (List.mem_of_getElem? (i := 80) rfl)) (hw _ (List.mem_of_getElem? (i := 80) rfl)) (hw _ (List.mem_of_getElem? (i := 79) rfl)) (hw _ (List.mem_of_getElem? (i := 39) rfl)) (hw _ (List.mem_of_getElem? (i := 81) rfl)) (by decide) (cF3 l Z a0 hw q23 w1 (.ref a21) (i := n23) hq23 rfl) pd_15 rfl rfl rfl (by decide) (Nat.le_of_eq rfl) (by decide) (by decide) (by decide) (by decide) (by decide) (by decide) (q := 159) rfl ?_
      intro T27 v27 V27 R27 X27
      obtain ⟨rfl, eQ27⟩ := R27
      rw [eQ27] at X27
      show oG true p e below s Z room_1 (fun v _ => v = some (.int 1)) T27 (mkF m 159 #[.val (.int u0), .val (.int u1), .val (.int u2), .val (.int u3), .val (.ref w1), .val (.ref a2), .val (.ref a5), .val (.int (u1 &&& (3 : Int32))), .val (.ref a21), .val (.ref q23)] [.null])
      refine gNull_y E X27 rfl at_159 (by decide) (q := 164) (by decide) (q' := 162) rfl (fun h159 => ?_) (fun h159 => by exfalso; exact h159 rfl)
      refine gAload E X27 at_164 rfl rfl (q := 166) rfl ?_
      refine gCallV E X27 (W := 0) (c2 := 6) (s2 := 15) (i := n23) (a := q23) [] [] at_166 hq23 (hw _ (List.mem_of_getElem? (i := 82) rfl)) (hw _ (List.mem_of_getElem? (i := 83) rfl)) (hw _ (List.mem_of_getElem? (i := 85) rfl)) (hw _ (List.mem_of_getElem? (i := 85) rfl)) (hw _ (List.mem_of_getElem? (i := 84) rfl)) (hw _ (List.mem_of_getElem? (i := 39) rfl)) (hw _ (List.mem_of_getElem? (i := 86) rfl)) (by decide) (cF4 l Z a0 hw q23 w1 (.ref a21) (i := n23) hq23 rfl) pd_16 rfl rfl rfl (by decide) (Nat.le_of_eq rfl) (by decide) (by decide) (by decide) (by decide) (by decide) (by decide) (q := 169) rfl ?_
      intro T28 v28 V28 R28 X28
      obtain ⟨rfl, eQ28⟩ := R28
      rw [eQ28] at X28
      show oG true p e below s Z room_1 (fun v _ => v = some (.int 1)) T28 (mkF m 169 #[.val (.int u0), .val (.int u1), .val (.int u2), .val (.int u3), .val (.ref w1), .val (.ref a2), .val (.ref a5), .val (.int (u1 &&& (3 : Int32))), .val (.ref a21), .val (.ref q23)] [.null])
      refine gNull_y E X28 rfl at_169 (by decide) (q := 174) (by decide) (q' := 172) rfl (fun h169 => ?_) (fun h169 => by exfalso; exact h169 rfl)
      refine gIconst E X28 at_174 (v := (1 : Int32)) (by decide) (q := 175) rfl ?_
      exact gRetN E X28 (by simp) at_175 (by decide) (by decide) (by decide) (rfl)
  · refine gNull E X5 at_49 (q := 50) rfl ?_
    refine gAstore E X5 at_50 rfl (l' := #[.val (.int u0), .val (.int u1), .val (.int u2), .val (.int u3), .val (.ref w1), .val (.ref a2), .val (.ref a5), .val (.int (u1 &&& (3 : Int32))), .val .null, .unset]) rfl (q := 52) rfl ?_
    refine gGoto E X5 at_52 (by decide) (q := 104) (by decide) ?_
    refine gAload E X5 at_104 rfl rfl (q := 106) rfl ?_
    refine gAload E X5 at_106 rfl rfl (q := 108) rfl ?_
    refine gCallS E X5 (W := 0) (c2 := 3) (s2 := 7) [(.ref w1), .null] [] at_108 (hw _ (List.mem_of_getElem? (i := 37) rfl)) (hw _ (List.mem_of_getElem? (i := 38) rfl)) (hw _ (List.mem_of_getElem? (i := 39) rfl)) (hw _ (List.mem_of_getElem? (i := 40) rfl)) (by decide) (cO l Z a0 hw w1 .null rfl) pd_11 rfl rfl rfl (by decide) (Nat.le_of_eq rfl) (by decide) (by decide) (by decide) (by decide) (by decide) (by decide) (q := 111) rfl ?_
    intro T29 v29 V29 R29 X29
    obtain ⟨q29, n29, rfl, hq29⟩ := R29
    show oG true p e below s Z room_1 (fun v _ => v = some (.int 1)) T29 (mkF m 111 #[.val (.int u0), .val (.int u1), .val (.int u2), .val (.int u3), .val (.ref w1), .val (.ref a2), .val (.ref a5), .val (.int (u1 &&& (3 : Int32))), .val .null, .unset] [(.ref q29)])
    refine gAstore E X29 at_111 rfl (l' := #[.val (.int u0), .val (.int u1), .val (.int u2), .val (.int u3), .val (.ref w1), .val (.ref a2), .val (.ref a5), .val (.int (u1 &&& (3 : Int32))), .val .null, .val (.ref q29)]) rfl (q := 113) rfl ?_
    refine gAload E X29 at_113 rfl rfl (q := 115) rfl ?_
    refine gNull_n E X29 rfl at_115 (by decide) (q := 120) (by decide) (q' := 118) rfl (fun h115 => ?_) (fun h115 => by exfalso; cases h115)
    refine gAload E X29 at_120 rfl rfl (q := 122) rfl ?_
    refine gCallV E X29 (W := 0) (c2 := 3) (s2 := 7) (i := n29) (a := q29) [] [] at_122 hq29 (hw _ (List.mem_of_getElem? (i := 62) rfl)) (hw _ (List.mem_of_getElem? (i := 63) rfl)) (hw _ (List.mem_of_getElem? (i := 65) rfl)) (hw _ (List.mem_of_getElem? (i := 65) rfl)) (hw _ (List.mem_of_getElem? (i := 64) rfl)) (hw _ (List.mem_of_getElem? (i := 39) rfl)) (hw _ (List.mem_of_getElem? (i := 66) rfl)) (by decide) (cF0 l Z a0 hw q29 w1 .null (i := n29) hq29 rfl) pd_12 rfl rfl rfl (by decide) (Nat.le_of_eq rfl) (by decide) (by decide) (by decide) (by decide) (by decide) (by decide) (q := 125) rfl ?_
    intro T30 v30 V30 R30 X30
    obtain ⟨rfl, eQ30⟩ := R30
    rw [eQ30] at X30
    show oG true p e below s Z room_1 (fun v _ => v = some (.int 1)) T30 (mkF m 125 #[.val (.int u0), .val (.int u1), .val (.int u2), .val (.int u3), .val (.ref w1), .val (.ref a2), .val (.ref a5), .val (.int (u1 &&& (3 : Int32))), .val .null, .val (.ref q29)] [(.ref w1)])
    refine gAload E X30 at_125 rfl rfl (q := 127) rfl ?_
    refine gAc_eq E X30 rfl rfl at_127 (by decide) (q := 132) (by decide) (q' := 130) rfl (fun h127 => ?_) (fun h127 => by exfalso; exact h127 rfl)
    refine gAload E X30 at_132 rfl rfl (q := 134) rfl ?_
    refine gCallV E X30 (W := 0) (c2 := 3) (s2 := 7) (i := n29) (a := q29) [] [] at_134 hq29 (hw _ (List.mem_of_getElem? (i := 67) rfl)) (hw _ (List.mem_of_getElem? (i := 68) rfl)) (hw _ (List.mem_of_getElem? (i := 70) rfl)) (hw _ (List.mem_of_getElem? (i := 70) rfl)) (hw _ (List.mem_of_getElem? (i := 69) rfl)) (hw _ (List.mem_of_getElem? (i := 39) rfl)) (hw _ (List.mem_of_getElem? (i := 71) rfl)) (by decide) (cF1 l Z a0 hw q29 w1 .null (i := n29) hq29 rfl) pd_13 rfl rfl rfl (by decide) (Nat.le_of_eq rfl) (by decide) (by decide) (by decide) (by decide) (by decide) (by decide) (q := 137) rfl ?_
    intro T31 v31 V31 R31 X31
    obtain ⟨rfl, eQ31⟩ := R31
    rw [eQ31] at X31
    show oG true p e below s Z room_1 (fun v _ => v = some (.int 1)) T31 (mkF m 137 #[.val (.int u0), .val (.int u1), .val (.int u2), .val (.int u3), .val (.ref w1), .val (.ref a2), .val (.ref a5), .val (.int (u1 &&& (3 : Int32))), .val .null, .val (.ref q29)] [.null])
    refine gAload E X31 at_137 rfl rfl (q := 139) rfl ?_
    refine gAc_eq E X31 rfl rfl at_139 (by decide) (q := 144) (by decide) (q' := 142) rfl (fun h139 => ?_) (fun h139 => by exfalso; exact h139 rfl)
    refine gAload E X31 at_144 rfl rfl (q := 146) rfl ?_
    refine gCallV E X31 (W := 0) (c2 := 3) (s2 := 7) (i := n29) (a := q29) [] [] at_146 hq29 (hw _ (List.mem_of_getElem? (i := 72) rfl)) (hw _ (List.mem_of_getElem? (i := 73) rfl)) (hw _ (List.mem_of_getElem? (i := 75) rfl)) (hw _ (List.mem_of_getElem? (i := 75) rfl)) (hw _ (List.mem_of_getElem? (i := 74) rfl)) (hw _ (List.mem_of_getElem? (i := 39) rfl)) (hw _ (List.mem_of_getElem? (i := 76) rfl)) (by decide) (cF2 l Z a0 hw q29 w1 .null (i := n29) hq29 rfl) pd_14 rfl rfl rfl (by decide) (Nat.le_of_eq rfl) (by decide) (by decide) (by decide) (by decide) (by decide) (by decide) (q := 149) rfl ?_
    intro T32 v32 V32 R32 X32
    obtain ⟨rfl, eQ32⟩ := R32
    rw [eQ32] at X32
    show oG true p e below s Z room_1 (fun v _ => v = some (.int 1)) T32 (mkF m 149 #[.val (.int u0), .val (.int u1), .val (.int u2), .val (.int u3), .val (.ref w1), .val (.ref a2), .val (.ref a5), .val (.int (u1 &&& (3 : Int32))), .val .null, .val (.ref q29)] [.null])
    refine gNull_y E X32 rfl at_149 (by decide) (q := 154) (by decide) (q' := 152) rfl (fun h149 => ?_) (fun h149 => by exfalso; exact h149 rfl)
    refine gAload E X32 at_154 rfl rfl (q := 156) rfl ?_
    refine gCallV E X32 (W := 0) (c2 := 3) (s2 := 7) (i := n29) (a := q29) [] [] at_156 hq29 (hw _ (List.mem_of_getElem? (i := 77) rfl)) (hw _ (List.mem_of_getElem? (i := 78) rfl)) (hw _ (List.mem_of_getElem? (i := 80) rfl)) (hw _ (List.mem_of_getElem? (i := 80) rfl)) (hw _ (List.mem_of_getElem? (i := 79) rfl)) (hw _ (List.mem_of_getElem? (i := 39) rfl)) (hw _ (List.mem_of_getElem? (i := 81) rfl)) (by decide) (cF3 l Z a0 hw q29 w1 .null (i := n29) hq29 rfl) pd_15 rfl rfl rfl (by decide) (Nat.le_of_eq rfl) (by decide) (by decide) (by decide) (by decide) (by decide) (by decide) (q := 159) rfl ?_
    intro T33 v33 V33 R33 X33
    obtain ⟨rfl, eQ33⟩ := R33
    rw [eQ33] at X33
    show oG true p e below s Z room_1 (fun v _ => v = some (.int 1)) T33 (mkF m 159 #[.val (.int u0), .val (.int u1), .val (.int u2), .val (.int u3), .val (.ref w1), .val (.ref a2), .val (.ref a5), .val (.int (u1 &&& (3 : Int32))), .val .null, .val (.ref q29)] [.null])
    refine gNull_y E X33 rfl at_159 (by decide) (q := 164) (by decide) (q' := 162) rfl (fun h159 => ?_) (fun h159 => by exfalso; exact h159 rfl)
    refine gAload E X33 at_164 rfl rfl (q := 166) rfl ?_
    refine gCallV E X33 (W := 0) (c2 := 3) (s2 := 7) (i := n29) (a := q29) [] [] at_166 hq29 (hw _ (List.mem_of_getElem? (i := 82) rfl)) (hw _ (List.mem_of_getElem? (i := 83) rfl)) (hw _ (List.mem_of_getElem? (i := 85) rfl)) (hw _ (List.mem_of_getElem? (i := 85) rfl)) (hw _ (List.mem_of_getElem? (i := 84) rfl)) (hw _ (List.mem_of_getElem? (i := 39) rfl)) (hw _ (List.mem_of_getElem? (i := 86) rfl)) (by decide) (cF4 l Z a0 hw q29 w1 .null (i := n29) hq29 rfl) pd_16 rfl rfl rfl (by decide) (Nat.le_of_eq rfl) (by decide) (by decide) (by decide) (by decide) (by decide) (by decide) (q := 169) rfl ?_
    intro T34 v34 V34 R34 X34
    obtain ⟨rfl, eQ34⟩ := R34
    rw [eQ34] at X34
    show oG true p e below s Z room_1 (fun v _ => v = some (.int 1)) T34 (mkF m 169 #[.val (.int u0), .val (.int u1), .val (.int u2), .val (.int u3), .val (.ref w1), .val (.ref a2), .val (.ref a5), .val (.int (u1 &&& (3 : Int32))), .val .null, .val (.ref q29)] [.null])
    refine gNull_y E X34 rfl at_169 (by decide) (q := 174) (by decide) (q' := 172) rfl (fun h169 => ?_) (fun h169 => by exfalso; exact h169 rfl)
    refine gIconst E X34 at_174 (v := (1 : Int32)) (by decide) (q := 175) rfl ?_
    exact gRetN E X34 (by simp) at_175 (by decide) (by decide) (by decide) (rfl)
set_option maxRecDepth 65536 in
set_option maxHeartbeats 40000000 in
theorem comes_1 {Post : Tables → Env → Array Value → State → Outcome → State → Prop} (hpost : ∀ tb e args s v u, (limb_1_1.after args s (.returned v) u = true ∧ limb_1_2.after args s (.returned v) u = true ∧ True) → ReturnedEndW s (.returned v) u (Jvm.fieldLocs frame_1_writes args s ++ Jvm.arrayLocs frame_1_arrays args s ++ Jvm.staticLocs frame_1_statics s) 24 1152 → Post tb e args s (.returned v) u) :
    ArmFor flags0 classFile x code maxLocals ret World_1 tables_1 room_1 Calls_1 rest_1 Pre_1 Post := by
  intro l hfl _ _ p e ha hc hk s m args below hf hA hF happ hP
  obtain ⟨hcalls, hrest, hpre⟩ := hP
  obtain ⟨-, -, -, hnamed, -, -, -, hat⟩ := (Spec.applies_iff hf).mp happ
  obtain ⟨hg, hn⟩ := and_e (Cond.before_iff.mp (show (Jvm.Cond.and given_1 narrow_1).before args s = true from hpre))
  obtain ⟨h1, hg0⟩ := and_e hg
  obtain ⟨g0, hg1⟩ := and_e hg0
  obtain ⟨g1, hg2⟩ := and_e hg1
  obtain ⟨g2, hg3⟩ := and_e hg2
  obtain ⟨w0, w1, w2, w3, rfl⟩ : ∃ w0 w1 w2 w3 : Value, args = #[w0, w1, w2, w3] := by
    have hs : args.size = 4 := by simpa [Cond.value, given_1] using h1
    obtain ⟨L⟩ := args
    match L, hs with
    | [w0, w1, w2, w3], _ => exact ⟨w0, w1, w2, w3, rfl⟩
  have hw := fun d (hd : d ∈ tables_1) => atoms_spec (ws := Jvm.Cond.code x code maxLocals ret :: tables_1) hat d (List.mem_cons_of_mem _ hd)
  have hfit : Fit s := fun {y c} hc i hi => by
    obtain ⟨ha, rfl⟩ := Array.getElem?_eq_some_iff.mp hc
    have q := List.all_eq_true.mp ((Array.all_eq_true_iff_forall_mem.mp hF) _ (Array.getElem_mem ha)) i (List.mem_range.mpr hi)
    simpa [Array.getElem?_eq_getElem hi] using q
  obtain ⟨i0, e0⟩ := is_v g0
  obtain rfl : w0 = (.int i0) := Option.some.inj e0
  obtain ⟨i1, e1⟩ := is_v g1
  obtain rfl : w1 = (.int i1) := Option.some.inj e1
  obtain ⟨i2, e2⟩ := is_v g2
  obtain rfl : w2 = (.int i2) := Option.some.inj e2
  obtain ⟨i3, e3⟩ := is_v hg3
  obtain rfl : w3 = (.int i3) := Option.some.inj e3
  have hs := (atoms_of jdkStatics_1 (show (jdkStatics_1.foldr Jvm.Cond.and restOwn_1).before _ s = true from hrest)).1
  obtain ⟨cs, vcs⟩ := is_v (Cond.before_iff.mp (hs _ (List.mem_of_getElem? (i := 1) rfl)))
  have SC := Sta.start vcs (Or.inl (hs _ (List.mem_of_getElem? (i := 0) rfl)))
  have hcw : Jvm.Lit.compactW.before _ s = true := (hs _ (List.mem_of_getElem? (i := 2) rfl))
  have hcs : ¬ cs = 0 := own_cs vcs (hs _ (List.mem_of_getElem? (i := 2) rfl))
  have hh : Jvm.Lit.constHeld s "java/lang/String" 7 := (hcalls.1 : constsHeld consts_1 s) ("java/lang/String", 7) (List.mem_cons_self ..)
  obtain ⟨z0, hn⟩ := and_e hn
  obtain ⟨z1, hn⟩ := and_e hn
  obtain ⟨z2, hn⟩ := and_e hn
  obtain ⟨z3, hn⟩ := and_e hn
  obtain ⟨z4, hn⟩ := and_e hn
  obtain ⟨z5, hn⟩ := and_e hn
  obtain ⟨z6, z7⟩ := and_e hn
  obtain ⟨p0, v0⟩ := exa_v z0
  have S0 := Sta.start v0 (Or.inr ⟨(hw _ (List.mem_of_getElem? (i := 5) rfl)), hw _ (List.mem_of_getElem? (i := 6) rfl)⟩)
  obtain ⟨p4, v4⟩ := exa_v z1
  have S4 := Sta.start v4 (Or.inr ⟨(hw _ (List.mem_of_getElem? (i := 5) rfl)), hw _ (List.mem_of_getElem? (i := 88) rfl)⟩)
  obtain ⟨p7, v7⟩ := exa_v z2
  have S7 := Sta.start v7 (Or.inr ⟨(hw _ (List.mem_of_getElem? (i := 5) rfl)), hw _ (List.mem_of_getElem? (i := 90) rfl)⟩)
  obtain ⟨p2, v2⟩ := exa_v z3
  have S2 := Sta.start v2 (Or.inr ⟨(hw _ (List.mem_of_getElem? (i := 5) rfl)), hw _ (List.mem_of_getElem? (i := 92) rfl)⟩)
  obtain ⟨p1, v1⟩ := exa_v z4
  have S1 := Sta.start v1 (Or.inr ⟨(hw _ (List.mem_of_getElem? (i := 5) rfl)), hw _ (List.mem_of_getElem? (i := 108) rfl)⟩)
  obtain ⟨p3, v3⟩ := exa_v z5
  have S3 := Sta.start v3 (Or.inr ⟨(hw _ (List.mem_of_getElem? (i := 5) rfl)), hw _ (List.mem_of_getElem? (i := 113) rfl)⟩)
  obtain ⟨p5, v5⟩ := exa_v z6
  have S5 := Sta.start v5 (Or.inr ⟨(hw _ (List.mem_of_getElem? (i := 5) rfl)), hw _ (List.mem_of_getElem? (i := 115) rfl)⟩)
  obtain ⟨p6, v6⟩ := exa_v z7
  have S6 := Sta.start v6 (Or.inr ⟨(hw _ (List.mem_of_getElem? (i := 5) rfl)), hw _ (List.mem_of_getElem? (i := 117) rfl)⟩)
  obtain ⟨n, o, h1, h2, h3, v, L, rfl, ⟨N, V', rfl, -⟩, hq, -⟩ := rm0 l s _ hw i0 i1 i2 i3 cs p0 p1 p2 p3 p4 p5 p6 p7 SC hcs hh hcw S0 S1 S2 S3 S4 S5 S6 S7 tables_1 s.heap (oHv.nil s) p e ha hc hk s m _ below hf ((Spec.applies_iff_loose hf).mp happ).1 ⟨rfl, State.Warmed39.refl s, rfl, fun _ => rfl⟩ trivial
  refine ⟨n, _, h1, h2, h3, hpost _ _ _ _ _ _ ⟨Cond.after_iff.mpr rfl, Cond.after_iff.mpr (eq_i res_at (Term.int_eval (1)) rfl), trivial⟩ ⟨hq.1, hq.2.1, hq.2.2.1, (hq.2.2.2.sift fun y hy => Or.inr (N y hy)).mono (by decide) (by decide)⟩⟩
theorem main_1_1 : Claimed_1_1 := comes_1 fun _ _ _ _ _ _ h hF => ⟨h.1, hF⟩
theorem main_1_2 : Claimed_1_2 := comes_1 fun _ _ _ _ _ _ h hF => ⟨h.2.1, hF⟩
end Jvm.Pilot.@@N@@
namespace Jvm.Pilot.@@N@@
open Jvm Jvm.ClassFile Sem Op Lib Jvm.Free Jvm.Stand Jvm.Pilot.@@N@@.Jvm.D
/-! MADE BY PROGRAM (witnessworld.py) out of the Statement's table words and the real class files: 23 classes; the members and pool entries that the words name. The judged class is class 1, her method 2. -/
namespace start1
open Jvm.ClassFile
def u (s : String) : CpInfo := .utf8 (stringToUtf16 s)
/-- a pool by its gaps: so many unusable entries, then the entry; so many at the end -/
def gap : Nat → List CpInfo → List CpInfo
  | 0, r => r
  | n + 1, r => .unusable :: gap n r
def poolList (es : List (Nat × CpInfo)) (last : Nat) : List CpInfo := es.foldr (fun e r => gap e.1 (e.2 :: r)) (gap last [])
def pool (es : List (Nat × CpInfo)) (last : Nat) : Array CpInfo := ⟨poolList es last⟩
def fileOf (pool : Array CpInfo) (this : Nat) (attrs : Array Attribute := #[]) (ms : Array MethodInfo := #[]) (fl : Nat := 33) (sup : Nat := 0) (ifs : Array Nat := #[]) (fds : Array FieldInfo := #[]) : ClassFile where
  minorVersion := 0
  majorVersion := 65
  constantPool := pool
  accessFlags := fl
  thisClass := this
  superClass := sup
  interfaces := ifs
  fields := fds
  methods := ms
  attributes := attrs
def plain (name : String) (sup : Option ClassId) : Class where
  name := name
  kind := .ordinary
  loader := none
  accessFlags := 33
  super := sup
  interfaces := #[]
  cf := none
  fields := #[]
  methods := #[]
  instanceTypes := #[]
  staticTypes := #[]
  resolved := #[]
  callSites := []
  init := .initialized
  statics := none
  mirror := none

def pool0 : Array CpInfo := pool [(5, u "<init>"), (0, u "()V"), (1, .class_ 10), (1, u "java/lang/Object")] 113

def k0c0 : Code := { maxStack := 0, maxLocals := 1, code := object_method_1_code, exceptionTable := #[], attributes := #[] }
def k0m0 : Method := { name := "<init>", desc := "()V", sig := { parameters := [], returnType := none }, accessFlags := 1, code := some k0c0 }
/-- java/lang/Object -/
def k0 : Class := { plain "java/lang/Object" none with
  accessFlags := 33
  interfaces := #[]
  cf := some (fileOf pool0 8 #[] #[{ accessFlags := 1, nameIndex := 5, descriptorIndex := 6, attributes := #[] }] 33 0 #[] #[])
  fields := #[]
  methods := #[k0m0]
  instanceTypes := #[]
  staticTypes := #[]
  resolved := Array.replicate 124 none
  statics := none }

def pool1 : Array CpInfo := pool [(2, .class_ 4), (1, u "java/lang/Object"), (0, u "<init>"), (0, u "()V"), (0, .fieldref 8 9), (0, .class_ 10), (0, .nameAndType 11 12), (0, u "com/example/prizebook/prizebook/Answer$Outcome"), (0, u "PAID"), (0, u "Lcom/example/prizebook/prizebook/Answer$Outcome;"), (0, .fieldref 8 14), (0, .nameAndType 15 12), (0, u "ALREADY_PAID"), (0, .fieldref 8 17), (0, .nameAndType 18 12), (0, u "VOIDED"), (0, .fieldref 8 20), (0, .nameAndType 21 12), (0, u "ALREADY_VOID"), (0, .fieldref 8 23), (0, .nameAndType 24 12), (0, u "EXPIRED"), (0, .fieldref 8 26), (0, .nameAndType 27 12), (0, u "NO_PRIZE"), (0, .fieldref 8 29), (0, .nameAndType 30 12), (0, u "UNKNOWN"), (0, .fieldref 8 32), (0, .nameAndType 33 12), (0, u "INVALID"), (0, .methodref 35 36), (0, .class_ 37), (0, .nameAndType 38 39), (0, u "com/example/prizebook/prizebook/AnswerOfPinLaw"), (0, u "pick"), (0, u "(I)Lcom/example/prizebook/prizebook/Answer$Outcome;"), (0, .class_ 41), (0, u "java/lang/String"), (0, .methodref 40 43), (0, .nameAndType 5 44), (0, u "([C)V"), (0, .methodref 40 46), (0, .nameAndType 47 48), (0, u "valueOf"), (0, u "(C)Ljava/lang/String;"), (0, .methodref 50 51), (0, .class_ 52), (0, .nameAndType 53 54), (0, u "com/example/prizebook/prizebook/Answer"), (0, u "of"), (0, u "(Lcom/example/prizebook/prizebook/Answer$Outcome;Ljava/lang/String;)Lcom/example/prizebook/prizebook/Answer;"), (0, .methodref 50 56), (0, .nameAndType 57 58), (0, u "outcome"), (0, u "()Lcom/example/prizebook/prizebook/Answer$Outcome;"), (0, .methodref 50 60), (0, .nameAndType 61 62), (0, u "number"), (0, u "()Ljava/lang/String;"), (0, .methodref 50 64), (0, .nameAndType 65 66), (0, u "payment"), (0, u "()Lcom/example/prizebook/prizebook/Payment;"), (0, .methodref 50 68), (0, .nameAndType 69 70), (0, u "voiding"), (0, u "()Lcom/example/prizebook/prizebook/Voiding;"), (0, .methodref 50 72), (0, .nameAndType 73 74), (0, u "expiry"), (0, u "()Lcom/example/prizebook/prizebook/Expiry;"), (3, u "law"), (0, u "(IIII)Z")] 6

def k1m0 : Method := { name := "<init>", desc := "()V", sig := { parameters := [], returnType := none }, accessFlags := 1, code := none }
def k1c1 : Code := { maxStack := 2, maxLocals := 1, code := method_2_code, exceptionTable := #[], attributes := #[] }
def k1m1 : Method := { name := "pick", desc := "(I)Lcom/example/prizebook/prizebook/Answer$Outcome;", sig := { parameters := [.int], returnType := some (.object "com/example/prizebook/prizebook/Answer$Outcome") }, accessFlags := 10, code := some k1c1 }
def k1c2 : Code := { maxStack := 4, maxLocals := 10, code := code, exceptionTable := #[], attributes := #[] }
def k1m2 : Method := { name := "law", desc := "(IIII)Z", sig := { parameters := [.int, .int, .int, .int], returnType := some .boolean }, accessFlags := 9, code := some k1c2 }
/-- com/example/prizebook/prizebook/AnswerOfPinLaw -/
def k1 : Class := { plain "com/example/prizebook/prizebook/AnswerOfPinLaw" (some 0) with
  accessFlags := 49
  interfaces := #[]
  cf := some (fileOf pool1 35 #[] #[{ accessFlags := 1, nameIndex := 5, descriptorIndex := 6, attributes := #[] }, { accessFlags := 10, nameIndex := 38, descriptorIndex := 39, attributes := #[] }, { accessFlags := 9, nameIndex := 78, descriptorIndex := 79, attributes := #[] }] 49 2 #[] #[])
  fields := #[]
  methods := #[k1m0, k1m1, k1m2]
  instanceTypes := #[]
  staticTypes := #[]
  resolved := Array.replicate 86 none
  statics := none }

def pool2 : Array CpInfo := pool [(1, .class_ 2), (0, u "java/lang/constant/Constable"), (0, .class_ 4), (0, u "java/lang/Object")] 6

/-- java/lang/constant/Constable -/
def k2 : Class := { plain "java/lang/constant/Constable" (some 0) with
  accessFlags := 1537
  interfaces := #[]
  cf := some (fileOf pool2 1 #[] #[] 1537 3 #[] #[])
  fields := #[]
  methods := #[]
  instanceTypes := #[]
  staticTypes := #[]
  resolved := Array.replicate 11 none
  statics := none }

def pool3 : Array CpInfo := pool [(1, .class_ 2), (0, u "java/lang/Comparable"), (0, .class_ 4), (0, u "java/lang/Object")] 7

/-- java/lang/Comparable -/
def k3 : Class := { plain "java/lang/Comparable" (some 0) with
  accessFlags := 1537
  interfaces := #[]
  cf := some (fileOf pool3 1 #[] #[] 1537 3 #[] #[])
  fields := #[]
  methods := #[]
  instanceTypes := #[]
  staticTypes := #[]
  resolved := Array.replicate 12 none
  statics := none }

def pool4 : Array CpInfo := pool [(1, .class_ 2), (0, u "java/io/Serializable"), (0, .class_ 4), (0, u "java/lang/Object")] 2

/-- java/io/Serializable -/
def k4 : Class := { plain "java/io/Serializable" (some 0) with
  accessFlags := 1537
  interfaces := #[]
  cf := some (fileOf pool4 1 #[] #[] 1537 3 #[] #[])
  fields := #[]
  methods := #[]
  instanceTypes := #[]
  staticTypes := #[]
  resolved := Array.replicate 7 none
  statics := none }

def pool5 : Array CpInfo := pool [(2, .class_ 4), (1, u "java/lang/Enum"), (0, u "name"), (0, u "Ljava/lang/String;"), (2, u "ordinal"), (0, u "I"), (1, .class_ 14), (1, u "java/lang/Object"), (4, u "hash"), (86, .class_ 108), (1, u "java/lang/Enum$EnumDesc"), (2, .class_ 112), (0, u "java/lang/constant/Constable"), (0, .class_ 114), (0, u "java/lang/Comparable"), (0, .class_ 116), (0, u "java/io/Serializable")] 87

/-- java/lang/Enum -/
def k5 : Class := { plain "java/lang/Enum" (some 0) with
  accessFlags := 1057
  interfaces := #[2, 3, 4]
  cf := some (fileOf pool5 2 #[.nestMembers #[106]] #[] 1057 12 #[111, 113, 115] #[{ accessFlags := 18, nameIndex := 5, descriptorIndex := 6, attributes := #[] }, { accessFlags := 18, nameIndex := 9, descriptorIndex := 10, attributes := #[] }, { accessFlags := 2, nameIndex := 19, descriptorIndex := 10, attributes := #[] }])
  fields := #[{ name := "name", type := (.object "java/lang/String"), accessFlags := 18, slot := 0, constantValue := 0 }, { name := "ordinal", type := .int, accessFlags := 18, slot := 1, constantValue := 0 }, { name := "hash", type := .int, accessFlags := 2, slot := 2, constantValue := 0 }]
  methods := #[]
  instanceTypes := #[(.object "java/lang/String"), .int, .int]
  staticTypes := #[]
  resolved := Array.replicate 204 none
  statics := none }

def pool6 : Array CpInfo := pool [(1, .class_ 2), (0, u "com/example/prizebook/prizebook/Answer$Outcome"), (2, u "PAID"), (0, u "Lcom/example/prizebook/prizebook/Answer$Outcome;"), (2, u "ALREADY_PAID"), (2, u "VOIDED"), (2, u "ALREADY_VOID"), (2, u "EXPIRED"), (2, u "NO_PRIZE"), (2, u "UNKNOWN"), (2, u "INVALID"), (2, u "$VALUES"), (0, u "[Lcom/example/prizebook/prizebook/Answer$Outcome;"), (6, .class_ 40), (1, u "java/lang/Enum"), (31, .class_ 73), (0, u "com/example/prizebook/prizebook/Answer")] 2

/-- com/example/prizebook/prizebook/Answer$Outcome -/
def k6 : Class := { plain "com/example/prizebook/prizebook/Answer$Outcome" (some 5) with
  accessFlags := 16433
  interfaces := #[]
  cf := some (fileOf pool6 1 #[.nestHost 72] #[] 16433 38 #[] #[{ accessFlags := 16409, nameIndex := 5, descriptorIndex := 6, attributes := #[] }, { accessFlags := 16409, nameIndex := 9, descriptorIndex := 6, attributes := #[] }, { accessFlags := 16409, nameIndex := 12, descriptorIndex := 6, attributes := #[] }, { accessFlags := 16409, nameIndex := 15, descriptorIndex := 6, attributes := #[] }, { accessFlags := 16409, nameIndex := 18, descriptorIndex := 6, attributes := #[] }, { accessFlags := 16409, nameIndex := 21, descriptorIndex := 6, attributes := #[] }, { accessFlags := 16409, nameIndex := 24, descriptorIndex := 6, attributes := #[] }, { accessFlags := 16409, nameIndex := 27, descriptorIndex := 6, attributes := #[] }, { accessFlags := 4122, nameIndex := 30, descriptorIndex := 31, attributes := #[] }])
  fields := #[{ name := "PAID", type := (.object "com/example/prizebook/prizebook/Answer$Outcome"), accessFlags := 16409, slot := 0, constantValue := 0 }, { name := "ALREADY_PAID", type := (.object "com/example/prizebook/prizebook/Answer$Outcome"), accessFlags := 16409, slot := 1, constantValue := 0 }, { name := "VOIDED", type := (.object "com/example/prizebook/prizebook/Answer$Outcome"), accessFlags := 16409, slot := 2, constantValue := 0 }, { name := "ALREADY_VOID", type := (.object "com/example/prizebook/prizebook/Answer$Outcome"), accessFlags := 16409, slot := 3, constantValue := 0 }, { name := "EXPIRED", type := (.object "com/example/prizebook/prizebook/Answer$Outcome"), accessFlags := 16409, slot := 4, constantValue := 0 }, { name := "NO_PRIZE", type := (.object "com/example/prizebook/prizebook/Answer$Outcome"), accessFlags := 16409, slot := 5, constantValue := 0 }, { name := "UNKNOWN", type := (.object "com/example/prizebook/prizebook/Answer$Outcome"), accessFlags := 16409, slot := 6, constantValue := 0 }, { name := "INVALID", type := (.object "com/example/prizebook/prizebook/Answer$Outcome"), accessFlags := 16409, slot := 7, constantValue := 0 }, { name := "$VALUES", type := (.array (.object "com/example/prizebook/prizebook/Answer$Outcome")), accessFlags := 4122, slot := 8, constantValue := 0 }]
  methods := #[]
  instanceTypes := #[(.object "java/lang/String"), .int, .int]
  staticTypes := #[(.object "com/example/prizebook/prizebook/Answer$Outcome"), (.object "com/example/prizebook/prizebook/Answer$Outcome"), (.object "com/example/prizebook/prizebook/Answer$Outcome"), (.object "com/example/prizebook/prizebook/Answer$Outcome"), (.object "com/example/prizebook/prizebook/Answer$Outcome"), (.object "com/example/prizebook/prizebook/Answer$Outcome"), (.object "com/example/prizebook/prizebook/Answer$Outcome"), (.object "com/example/prizebook/prizebook/Answer$Outcome"), (.array (.object "com/example/prizebook/prizebook/Answer$Outcome"))]
  resolved := Array.replicate 76 none
  statics := some 0 }

def pool7 : Array CpInfo := pool [(2, .class_ 4), (1, u "java/lang/CharSequence"), (42, .class_ 48), (0, u "java/lang/CharSequence$1CodePointIterator"), (10, .class_ 60), (0, u "java/lang/CharSequence$1CharIterator"), (5, .class_ 67), (0, u "java/lang/Object")] 63

/-- java/lang/CharSequence -/
def k7 : Class := { plain "java/lang/CharSequence" (some 0) with
  accessFlags := 1537
  interfaces := #[]
  cf := some (fileOf pool7 2 #[.nestMembers #[47, 59]] #[] 1537 66 #[] #[])
  fields := #[]
  methods := #[]
  instanceTypes := #[]
  staticTypes := #[]
  resolved := Array.replicate 131 none
  statics := none }

def pool8 : Array CpInfo := pool [(1, .class_ 2), (0, u "java/lang/constant/ConstantDesc"), (0, .class_ 4), (0, u "java/lang/Object")] 32

/-- java/lang/constant/ConstantDesc -/
def k8 : Class := { plain "java/lang/constant/ConstantDesc" (some 0) with
  accessFlags := 1537
  interfaces := #[]
  cf := some (fileOf pool8 1 #[] #[] 1537 3 #[] #[])
  fields := #[]
  methods := #[]
  instanceTypes := #[]
  staticTypes := #[]
  resolved := Array.replicate 37 none
  statics := none }

def pool9 : Array CpInfo := pool [(1, .methodref 2 3), (0, .class_ 4), (0, .nameAndType 5 6), (0, u "java/lang/Object"), (0, u "<init>"), (0, u "()V"), (0, .string 8), (0, u ""), (0, .fieldref 10 11), (0, .class_ 12), (0, .nameAndType 13 14), (0, u "java/lang/String"), (0, u "value"), (0, u "[B"), (0, .fieldref 10 16), (0, .nameAndType 17 18), (0, u "coder"), (0, u "B"), (2, u "hash"), (0, u "I"), (2, u "hashIsZero"), (0, u "Z"), (0, .methodref 10 28), (0, .nameAndType 5 29), (0, u "([CIILjava/lang/Void;)V"), (8, .fieldref 10 39), (0, .nameAndType 40 26), (0, u "COMPACT_STRINGS"), (1, .class_ 44), (1, u "java/lang/StringUTF16"), (0, u "compress"), (1, .methodref 42 48), (0, .nameAndType 49 50), (0, u "coderFromArrayLen"), (0, u "([BI)B"), (2, u "toBytes"), (53, .class_ 109), (1, u "java/lang/StringLatin1"), (67, .methodref 42 178), (0, .nameAndType 45 179), (0, u "([CII)[B"), (29, .methodref 10 210), (0, .nameAndType 5 211), (0, u "([BB)V"), (157, u "(C)Z"), (205, .class_ 576), (0, u "java/lang/CharSequence"), (22, u "CASE_INSENSITIVE_ORDER"), (0, u "Ljava/util/Comparator;"), (181, u "valueOf"), (0, u "(C)Ljava/lang/String;"), (226, u "([C)V"), (4, .methodref 107 1016), (0, .nameAndType 1017 369), (0, u "canEncode"), (0, .methodref 107 1019), (0, .nameAndType 53 1020), (0, u "(C)[B"), (80, u "serialPersistentFields"), (0, u "[Ljava/io/ObjectStreamField;"), (0, .class_ 1104), (0, u "java/lang/String$CaseInsensitiveComparator"), (1, .class_ 1107), (0, u "java/io/Serializable"), (0, .class_ 1109), (0, u "java/lang/Comparable"), (0, .class_ 1111), (0, u "java/lang/constant/Constable"), (0, .class_ 1113), (0, u "java/lang/constant/ConstantDesc"), (2, u "serialVersionUID"), (0, u "J"), (3, u "REPL"), (0, u "C"), (2, u "LATIN1"), (1, u "UTF16")] 323

def k9m0 : Method := { name := "<init>", desc := "()V", sig := { parameters := [], returnType := none }, accessFlags := 1, code := none }
def k9c1 : Code := { maxStack := 5, maxLocals := 2, code := jdk_42_method_3_code, exceptionTable := #[], attributes := #[] }
def k9m1 : Method := { name := "<init>", desc := "([C)V", sig := { parameters := [(.array .char)], returnType := none }, accessFlags := 1, code := some k9c1 }
def k9c2 : Code := { maxStack := 4, maxLocals := 1, code := jdk_42_method_139_code, exceptionTable := #[], attributes := #[] }
def k9m2 : Method := { name := "valueOf", desc := "(C)Ljava/lang/String;", sig := { parameters := [.char], returnType := some (.object "java/lang/String") }, accessFlags := 9, code := some k9c2 }
def k9c3 : Code := { maxStack := 4, maxLocals := 6, code := jdk_42_method_149_code, exceptionTable := #[], attributes := #[] }
def k9m3 : Method := { name := "<init>", desc := "([CIILjava/lang/Void;)V", sig := { parameters := [(.array .char), .int, .int, (.object "java/lang/Void")], returnType := none }, accessFlags := 2, code := some k9c3 }
def k9c4 : Code := { maxStack := 2, maxLocals := 3, code := jdk_42_method_151_code, exceptionTable := #[], attributes := #[] }
def k9m4 : Method := { name := "<init>", desc := "([BB)V", sig := { parameters := [(.array .byte), .byte], returnType := none }, accessFlags := 0, code := some k9c4 }
/-- java/lang/String -/
def k9 : Class := { plain "java/lang/String" (some 0) with
  accessFlags := 49
  interfaces := #[4, 3, 7, 2, 8]
  cf := some (fileOf pool9 10 #[.nestMembers #[1103]] #[{ accessFlags := 1, nameIndex := 5, descriptorIndex := 6, attributes := #[] }, { accessFlags := 1, nameIndex := 5, descriptorIndex := 1010, attributes := #[] }, { accessFlags := 9, nameIndex := 782, descriptorIndex := 783, attributes := #[] }, { accessFlags := 2, nameIndex := 5, descriptorIndex := 29, attributes := #[] }, { accessFlags := 0, nameIndex := 5, descriptorIndex := 211, attributes := #[] }] 49 2 #[1106, 1108, 575, 1110, 1112] #[{ accessFlags := 18, nameIndex := 13, descriptorIndex := 14, attributes := #[] }, { accessFlags := 18, nameIndex := 17, descriptorIndex := 18, attributes := #[] }, { accessFlags := 2, nameIndex := 21, descriptorIndex := 22, attributes := #[] }, { accessFlags := 2, nameIndex := 25, descriptorIndex := 26, attributes := #[] }, { accessFlags := 26, nameIndex := 1116, descriptorIndex := 1117, attributes := #[] }, { accessFlags := 24, nameIndex := 40, descriptorIndex := 26, attributes := #[] }, { accessFlags := 26, nameIndex := 1101, descriptorIndex := 1102, attributes := #[] }, { accessFlags := 26, nameIndex := 1121, descriptorIndex := 1122, attributes := #[] }, { accessFlags := 25, nameIndex := 599, descriptorIndex := 600, attributes := #[] }, { accessFlags := 24, nameIndex := 1125, descriptorIndex := 18, attributes := #[] }, { accessFlags := 24, nameIndex := 1127, descriptorIndex := 18, attributes := #[] }])
  fields := #[{ name := "value", type := (.array .byte), accessFlags := 18, slot := 0, constantValue := 0 }, { name := "coder", type := .byte, accessFlags := 18, slot := 1, constantValue := 0 }, { name := "hash", type := .int, accessFlags := 2, slot := 2, constantValue := 0 }, { name := "hashIsZero", type := .boolean, accessFlags := 2, slot := 3, constantValue := 0 }, { name := "serialVersionUID", type := .long, accessFlags := 26, slot := 0, constantValue := 0 }, { name := "COMPACT_STRINGS", type := .boolean, accessFlags := 24, slot := 1, constantValue := 0 }, { name := "serialPersistentFields", type := (.array (.object "java/io/ObjectStreamField")), accessFlags := 26, slot := 2, constantValue := 0 }, { name := "REPL", type := .char, accessFlags := 26, slot := 3, constantValue := 0 }, { name := "CASE_INSENSITIVE_ORDER", type := (.object "java/util/Comparator"), accessFlags := 25, slot := 4, constantValue := 0 }, { name := "LATIN1", type := .byte, accessFlags := 24, slot := 5, constantValue := 0 }, { name := "UTF16", type := .byte, accessFlags := 24, slot := 6, constantValue := 0 }]
  methods := #[k9m0, k9m1, k9m2, k9m3, k9m4]
  instanceTypes := #[(.array .byte), .byte, .int, .boolean]
  staticTypes := #[.long, .boolean, (.array (.object "java/io/ObjectStreamField")), .char, (.object "java/util/Comparator"), .byte, .byte]
  resolved := Array.replicate 1451 none
  statics := some 1 }

def pool10 : Array CpInfo := pool [(6, .class_ 8), (1, u "java/lang/Object"), (0, u "<init>"), (0, u "()V"), (1, .class_ 14), (1, u "java/lang/StringUTF16"), (31, u "$assertionsDisabled"), (0, u "Z"), (13, u "HI_BYTE_SHIFT"), (0, u "I"), (2, u "LO_BYTE_SHIFT"), (49, .methodref 12 116), (0, .nameAndType 117 118), (0, u "compress"), (0, u "([CI[BII)I"), (3, u "([CII)[B"), (138, u "coderFromArrayLen"), (0, u "([BI)B"), (106, .class_ 371), (1, u "java/lang/StringUTF16$LinesSpliterator"), (58, u "MAX_LENGTH"), (196, .class_ 628), (0, u "java/lang/StringUTF16$CodePointsSpliterator"), (0, .class_ 630), (0, u "java/lang/StringUTF16$CharsSpliterator")] 4

def k10m0 : Method := { name := "<init>", desc := "()V", sig := { parameters := [], returnType := none }, accessFlags := 0, code := none }
def k10c1 : Code := { maxStack := 2, maxLocals := 2, code := jdk_52_method_15_code, exceptionTable := #[], attributes := #[] }
def k10m1 : Method := { name := "coderFromArrayLen", desc := "([BI)B", sig := { parameters := [(.array .byte), .int], returnType := some .byte }, accessFlags := 8, code := some k10c1 }
def k10c2 : Code := { maxStack := 5, maxLocals := 6, code := jdk_52_method_16_code, exceptionTable := #[], attributes := #[] }
def k10m2 : Method := { name := "compress", desc := "([CII)[B", sig := { parameters := [(.array .char), .int, .int], returnType := some (.array .byte) }, accessFlags := 9, code := some k10c2 }
def k10c3 : Code := { maxStack := 3, maxLocals := 7, code := jdk_52_method_21_code, exceptionTable := #[], attributes := #[] }
def k10m3 : Method := { name := "compress", desc := "([CI[BII)I", sig := { parameters := [(.array .char), .int, (.array .byte), .int, .int], returnType := some .int }, accessFlags := 9, code := some k10c3 }
/-- java/lang/StringUTF16 -/
def k10 : Class := { plain "java/lang/StringUTF16" (some 0) with
  accessFlags := 48
  interfaces := #[]
  cf := some (fileOf pool10 12 #[.nestMembers #[627, 629, 369]] #[{ accessFlags := 0, nameIndex := 9, descriptorIndex := 10, attributes := #[] }, { accessFlags := 8, nameIndex := 261, descriptorIndex := 262, attributes := #[] }, { accessFlags := 9, nameIndex := 117, descriptorIndex := 122, attributes := #[] }, { accessFlags := 9, nameIndex := 117, descriptorIndex := 118, attributes := #[] }] 48 6 #[] #[{ accessFlags := 26, nameIndex := 61, descriptorIndex := 62, attributes := #[] }, { accessFlags := 26, nameIndex := 65, descriptorIndex := 62, attributes := #[] }, { accessFlags := 24, nameIndex := 430, descriptorIndex := 62, attributes := #[] }, { accessFlags := 4120, nameIndex := 46, descriptorIndex := 47, attributes := #[] }])
  fields := #[{ name := "HI_BYTE_SHIFT", type := .int, accessFlags := 26, slot := 0, constantValue := 0 }, { name := "LO_BYTE_SHIFT", type := .int, accessFlags := 26, slot := 1, constantValue := 0 }, { name := "MAX_LENGTH", type := .int, accessFlags := 24, slot := 2, constantValue := 0 }, { name := "$assertionsDisabled", type := .boolean, accessFlags := 4120, slot := 3, constantValue := 0 }]
  methods := #[k10m0, k10m1, k10m2, k10m3]
  instanceTypes := #[]
  staticTypes := #[.int, .int, .int, .boolean]
  resolved := Array.replicate 635 none
  statics := none }

def pool11 : Array CpInfo := pool [(1, .methodref 2 3), (0, .class_ 4), (0, .nameAndType 5 6), (0, u "java/lang/Object"), (0, u "<init>"), (0, u "()V"), (0, .class_ 8), (0, u "java/lang/Record")] 13

def k11c0 : Code := { maxStack := 1, maxLocals := 1, code := jdk_30_method_1_code, exceptionTable := #[], attributes := #[] }
def k11m0 : Method := { name := "<init>", desc := "()V", sig := { parameters := [], returnType := none }, accessFlags := 4, code := some k11c0 }
/-- java/lang/Record -/
def k11 : Class := { plain "java/lang/Record" (some 0) with
  accessFlags := 1057
  interfaces := #[]
  cf := some (fileOf pool11 7 #[] #[{ accessFlags := 4, nameIndex := 5, descriptorIndex := 6, attributes := #[] }] 1057 2 #[] #[])
  fields := #[]
  methods := #[k11m0]
  instanceTypes := #[]
  staticTypes := #[]
  resolved := Array.replicate 22 none
  statics := none }

def pool12 : Array CpInfo := pool [(1, .methodref 2 3), (0, .class_ 4), (0, .nameAndType 5 6), (0, u "java/lang/Record"), (0, u "<init>"), (0, u "()V"), (0, .fieldref 8 9), (0, .class_ 10), (0, .nameAndType 11 12), (0, u "com/example/prizebook/prizebook/Answer"), (0, u "outcome"), (0, u "Lcom/example/prizebook/prizebook/Answer$Outcome;"), (0, .fieldref 8 14), (0, .nameAndType 15 16), (0, u "number"), (0, u "Ljava/lang/String;"), (0, .fieldref 8 18), (0, .nameAndType 19 20), (0, u "payment"), (0, u "Lcom/example/prizebook/prizebook/Payment;"), (0, .fieldref 8 22), (0, .nameAndType 23 24), (0, u "voiding"), (0, u "Lcom/example/prizebook/prizebook/Voiding;"), (0, .fieldref 8 26), (0, .nameAndType 27 28), (0, u "expiry"), (0, u "Lcom/example/prizebook/prizebook/Expiry;"), (0, .methodref 8 30), (0, .nameAndType 5 31), (0, u "(Lcom/example/prizebook/prizebook/Answer$Outcome;Ljava/lang/String;Lcom/example/prizebook/prizebook/Payment;Lcom/example/prizebook/prizebook/Voiding;Lcom/example/prizebook/prizebook/Expiry;)V"), (15, u "of"), (0, u "(Lcom/example/prizebook/prizebook/Answer$Outcome;Ljava/lang/String;)Lcom/example/prizebook/prizebook/Answer;"), (3, u "()Ljava/lang/String;"), (2, u "()Lcom/example/prizebook/prizebook/Answer$Outcome;"), (0, u "()Lcom/example/prizebook/prizebook/Payment;"), (0, u "()Lcom/example/prizebook/prizebook/Voiding;"), (0, u "()Lcom/example/prizebook/prizebook/Expiry;"), (3, .class_ 63), (0, u "com/example/prizebook/prizebook/Answer$Outcome")] 23

def k12c0 : Code := { maxStack := 2, maxLocals := 6, code := prog_1_method_1_code, exceptionTable := #[], attributes := #[] }
def k12m0 : Method := { name := "<init>", desc := "(Lcom/example/prizebook/prizebook/Answer$Outcome;Ljava/lang/String;Lcom/example/prizebook/prizebook/Payment;Lcom/example/prizebook/prizebook/Voiding;Lcom/example/prizebook/prizebook/Expiry;)V", sig := { parameters := [(.object "com/example/prizebook/prizebook/Answer$Outcome"), (.object "java/lang/String"), (.object "com/example/prizebook/prizebook/Payment"), (.object "com/example/prizebook/prizebook/Voiding"), (.object "com/example/prizebook/prizebook/Expiry")], returnType := none }, accessFlags := 1, code := some k12c0 }
def k12c1 : Code := { maxStack := 7, maxLocals := 2, code := prog_1_method_2_code, exceptionTable := #[], attributes := #[] }
def k12m1 : Method := { name := "of", desc := "(Lcom/example/prizebook/prizebook/Answer$Outcome;Ljava/lang/String;)Lcom/example/prizebook/prizebook/Answer;", sig := { parameters := [(.object "com/example/prizebook/prizebook/Answer$Outcome"), (.object "java/lang/String")], returnType := some (.object "com/example/prizebook/prizebook/Answer") }, accessFlags := 8, code := some k12c1 }
def k12c2 : Code := { maxStack := 1, maxLocals := 1, code := prog_1_method_9_code, exceptionTable := #[], attributes := #[] }
def k12m2 : Method := { name := "outcome", desc := "()Lcom/example/prizebook/prizebook/Answer$Outcome;", sig := { parameters := [], returnType := some (.object "com/example/prizebook/prizebook/Answer$Outcome") }, accessFlags := 1, code := some k12c2 }
def k12c3 : Code := { maxStack := 1, maxLocals := 1, code := prog_1_method_10_code, exceptionTable := #[], attributes := #[] }
def k12m3 : Method := { name := "number", desc := "()Ljava/lang/String;", sig := { parameters := [], returnType := some (.object "java/lang/String") }, accessFlags := 1, code := some k12c3 }
def k12c4 : Code := { maxStack := 1, maxLocals := 1, code := prog_1_method_11_code, exceptionTable := #[], attributes := #[] }
def k12m4 : Method := { name := "payment", desc := "()Lcom/example/prizebook/prizebook/Payment;", sig := { parameters := [], returnType := some (.object "com/example/prizebook/prizebook/Payment") }, accessFlags := 1, code := some k12c4 }
def k12c5 : Code := { maxStack := 1, maxLocals := 1, code := prog_1_method_12_code, exceptionTable := #[], attributes := #[] }
def k12m5 : Method := { name := "voiding", desc := "()Lcom/example/prizebook/prizebook/Voiding;", sig := { parameters := [], returnType := some (.object "com/example/prizebook/prizebook/Voiding") }, accessFlags := 1, code := some k12c5 }
def k12c6 : Code := { maxStack := 1, maxLocals := 1, code := prog_1_method_13_code, exceptionTable := #[], attributes := #[] }
def k12m6 : Method := { name := "expiry", desc := "()Lcom/example/prizebook/prizebook/Expiry;", sig := { parameters := [], returnType := some (.object "com/example/prizebook/prizebook/Expiry") }, accessFlags := 1, code := some k12c6 }
/-- com/example/prizebook/prizebook/Answer -/
def k12 : Class := { plain "com/example/prizebook/prizebook/Answer" (some 11) with
  accessFlags := 49
  interfaces := #[]
  cf := some (fileOf pool12 8 #[.nestMembers #[62]] #[{ accessFlags := 1, nameIndex := 5, descriptorIndex := 31, attributes := #[] }, { accessFlags := 8, nameIndex := 47, descriptorIndex := 48, attributes := #[] }, { accessFlags := 1, nameIndex := 11, descriptorIndex := 55, attributes := #[] }, { accessFlags := 1, nameIndex := 15, descriptorIndex := 52, attributes := #[] }, { accessFlags := 1, nameIndex := 19, descriptorIndex := 56, attributes := #[] }, { accessFlags := 1, nameIndex := 23, descriptorIndex := 57, attributes := #[] }, { accessFlags := 1, nameIndex := 27, descriptorIndex := 58, attributes := #[] }] 49 2 #[] #[{ accessFlags := 18, nameIndex := 11, descriptorIndex := 12, attributes := #[] }, { accessFlags := 18, nameIndex := 15, descriptorIndex := 16, attributes := #[] }, { accessFlags := 18, nameIndex := 19, descriptorIndex := 20, attributes := #[] }, { accessFlags := 18, nameIndex := 23, descriptorIndex := 24, attributes := #[] }, { accessFlags := 18, nameIndex := 27, descriptorIndex := 28, attributes := #[] }])
  fields := #[{ name := "outcome", type := (.object "com/example/prizebook/prizebook/Answer$Outcome"), accessFlags := 18, slot := 0, constantValue := 0 }, { name := "number", type := (.object "java/lang/String"), accessFlags := 18, slot := 1, constantValue := 0 }, { name := "payment", type := (.object "com/example/prizebook/prizebook/Payment"), accessFlags := 18, slot := 2, constantValue := 0 }, { name := "voiding", type := (.object "com/example/prizebook/prizebook/Voiding"), accessFlags := 18, slot := 3, constantValue := 0 }, { name := "expiry", type := (.object "com/example/prizebook/prizebook/Expiry"), accessFlags := 18, slot := 4, constantValue := 0 }]
  methods := #[k12m0, k12m1, k12m2, k12m3, k12m4, k12m5, k12m6]
  instanceTypes := #[(.object "com/example/prizebook/prizebook/Answer$Outcome"), (.object "java/lang/String"), (.object "com/example/prizebook/prizebook/Payment"), (.object "com/example/prizebook/prizebook/Voiding"), (.object "com/example/prizebook/prizebook/Expiry")]
  staticTypes := #[]
  resolved := Array.replicate 87 none
  statics := none }

def pool13 : Array CpInfo := pool [(4, .class_ 6), (1, u "java/lang/Object"), (0, u "<init>"), (0, u "()V"), (5, .class_ 16), (1, u "java/lang/StringLatin1"), (73, u "canEncode"), (14, u "(C)Z"), (15, u "$assertionsDisabled"), (0, u "Z"), (98, .class_ 223), (1, u "java/lang/StringLatin1$LinesSpliterator"), (156, u "toBytes"), (1, u "(C)[B"), (7, .class_ 391), (0, u "java/lang/StringLatin1$CharsSpliterator")] 3

def k13m0 : Method := { name := "<init>", desc := "()V", sig := { parameters := [], returnType := none }, accessFlags := 0, code := none }
def k13c1 : Code := { maxStack := 2, maxLocals := 1, code := jdk_43_method_3_code, exceptionTable := #[], attributes := #[] }
def k13m1 : Method := { name := "canEncode", desc := "(C)Z", sig := { parameters := [.char], returnType := some .boolean }, accessFlags := 9, code := some k13c1 }
def k13c2 : Code := { maxStack := 4, maxLocals := 1, code := jdk_43_method_46_code, exceptionTable := #[], attributes := #[] }
def k13m2 : Method := { name := "toBytes", desc := "(C)[B", sig := { parameters := [.char], returnType := some (.array .byte) }, accessFlags := 9, code := some k13c2 }
/-- java/lang/StringLatin1 -/
def k13 : Class := { plain "java/lang/StringLatin1" (some 0) with
  accessFlags := 48
  interfaces := #[]
  cf := some (fileOf pool13 14 #[.nestMembers #[390, 221]] #[{ accessFlags := 0, nameIndex := 7, descriptorIndex := 8, attributes := #[] }, { accessFlags := 9, nameIndex := 90, descriptorIndex := 105, attributes := #[] }, { accessFlags := 9, nameIndex := 380, descriptorIndex := 382, attributes := #[] }] 48 4 #[] #[{ accessFlags := 4120, nameIndex := 121, descriptorIndex := 122, attributes := #[] }])
  fields := #[{ name := "$assertionsDisabled", type := .boolean, accessFlags := 4120, slot := 0, constantValue := 0 }]
  methods := #[k13m0, k13m1, k13m2]
  instanceTypes := #[]
  staticTypes := #[.boolean]
  resolved := Array.replicate 395 none
  statics := none }

def pool14 : Array CpInfo := pool [(2, .class_ 4), (1, u "java/lang/Object"), (0, u "<init>"), (0, u "()V"), (17, .class_ 26), (1, u "jdk/internal/util/Preconditions"), (28, .class_ 56), (0, u "jdk/internal/util/Preconditions$4"), (57, .class_ 115), (0, u "jdk/internal/util/Preconditions$1"), (7, u "SIOOBE_FORMATTER"), (0, u "Ljava/util/function/BiFunction;"), (0, .class_ 126), (0, u "jdk/internal/util/Preconditions$2"), (3, u "AIOOBE_FORMATTER"), (0, .class_ 132), (0, u "jdk/internal/util/Preconditions$3"), (3, u "IOOBE_FORMATTER")] 57

def k14m0 : Method := { name := "<init>", desc := "()V", sig := { parameters := [], returnType := none }, accessFlags := 1, code := none }
/-- jdk/internal/util/Preconditions -/
def k14 : Class := { plain "jdk/internal/util/Preconditions" (some 0) with
  accessFlags := 33
  interfaces := #[]
  cf := some (fileOf pool14 24 #[.nestMembers #[55, 131, 125, 114]] #[{ accessFlags := 1, nameIndex := 5, descriptorIndex := 6, attributes := #[] }] 33 2 #[] #[{ accessFlags := 25, nameIndex := 123, descriptorIndex := 124, attributes := #[] }, { accessFlags := 25, nameIndex := 130, descriptorIndex := 124, attributes := #[] }, { accessFlags := 25, nameIndex := 136, descriptorIndex := 124, attributes := #[] }])
  fields := #[{ name := "SIOOBE_FORMATTER", type := (.object "java/util/function/BiFunction"), accessFlags := 25, slot := 0, constantValue := 0 }, { name := "AIOOBE_FORMATTER", type := (.object "java/util/function/BiFunction"), accessFlags := 25, slot := 1, constantValue := 0 }, { name := "IOOBE_FORMATTER", type := (.object "java/util/function/BiFunction"), accessFlags := 25, slot := 2, constantValue := 0 }]
  methods := #[k14m0]
  instanceTypes := #[]
  staticTypes := #[(.object "java/util/function/BiFunction"), (.object "java/util/function/BiFunction"), (.object "java/util/function/BiFunction")]
  resolved := Array.replicate 194 none
  statics := some 2 }

def pool15 : Array CpInfo := pool [(9, u "<init>"), (6, .class_ 18), (1, u "java/lang/Object"), (0, u "()V"), (1, .class_ 23), (1, u "jdk/internal/util/ArraysSupport"), (0, u "LOG2_ARRAY_LONG_INDEX_SCALE"), (0, u "I"), (2, u "U"), (0, u "Ljdk/internal/misc/Unsafe;"), (8, u "BIG_ENDIAN"), (0, u "Z"), (8, u "LOG2_BYTE_BIT_SIZE"), (4, u "LOG2_ARRAY_INT_INDEX_SCALE"), (54, u "JLA"), (0, u "Ljdk/internal/access/JavaLangAccess;"), (11, u "LOG2_ARRAY_BOOLEAN_INDEX_SCALE"), (9, u "LOG2_ARRAY_BYTE_INDEX_SCALE"), (5, u "LOG2_ARRAY_CHAR_INDEX_SCALE"), (5, u "LOG2_ARRAY_SHORT_INDEX_SCALE"), (18, u "LOG2_ARRAY_FLOAT_INDEX_SCALE"), (24, u "LOG2_ARRAY_DOUBLE_INDEX_SCALE"), (89, u "T_BOOLEAN"), (2, u "T_CHAR"), (1, u "T_FLOAT"), (1, u "T_DOUBLE"), (1, u "T_BYTE"), (1, u "T_SHORT"), (1, u "T_INT"), (1, u "T_LONG"), (1, u "SOFT_MAX_ARRAY_LENGTH")] 83

def k15m0 : Method := { name := "<init>", desc := "()V", sig := { parameters := [], returnType := none }, accessFlags := 2, code := none }
/-- jdk/internal/util/ArraysSupport -/
def k15 : Class := { plain "jdk/internal/util/ArraysSupport" (some 0) with
  accessFlags := 33
  interfaces := #[]
  cf := some (fileOf pool15 21 #[] #[{ accessFlags := 2, nameIndex := 9, descriptorIndex := 19, attributes := #[] }] 33 16 #[] #[{ accessFlags := 24, nameIndex := 28, descriptorIndex := 29, attributes := #[] }, { accessFlags := 26, nameIndex := 38, descriptorIndex := 39, attributes := #[] }, { accessFlags := 25, nameIndex := 121, descriptorIndex := 25, attributes := #[] }, { accessFlags := 25, nameIndex := 131, descriptorIndex := 25, attributes := #[] }, { accessFlags := 25, nameIndex := 137, descriptorIndex := 25, attributes := #[] }, { accessFlags := 25, nameIndex := 143, descriptorIndex := 25, attributes := #[] }, { accessFlags := 25, nameIndex := 53, descriptorIndex := 25, attributes := #[] }, { accessFlags := 25, nameIndex := 24, descriptorIndex := 25, attributes := #[] }, { accessFlags := 25, nameIndex := 162, descriptorIndex := 25, attributes := #[] }, { accessFlags := 25, nameIndex := 187, descriptorIndex := 25, attributes := #[] }, { accessFlags := 26, nameIndex := 48, descriptorIndex := 25, attributes := #[] }, { accessFlags := 25, nameIndex := 277, descriptorIndex := 25, attributes := #[] }, { accessFlags := 25, nameIndex := 280, descriptorIndex := 25, attributes := #[] }, { accessFlags := 25, nameIndex := 282, descriptorIndex := 25, attributes := #[] }, { accessFlags := 25, nameIndex := 284, descriptorIndex := 25, attributes := #[] }, { accessFlags := 25, nameIndex := 286, descriptorIndex := 25, attributes := #[] }, { accessFlags := 25, nameIndex := 288, descriptorIndex := 25, attributes := #[] }, { accessFlags := 25, nameIndex := 290, descriptorIndex := 25, attributes := #[] }, { accessFlags := 25, nameIndex := 292, descriptorIndex := 25, attributes := #[] }, { accessFlags := 26, nameIndex := 108, descriptorIndex := 109, attributes := #[] }, { accessFlags := 25, nameIndex := 294, descriptorIndex := 25, attributes := #[] }])
  fields := #[{ name := "U", type := (.object "jdk/internal/misc/Unsafe"), accessFlags := 24, slot := 0, constantValue := 0 }, { name := "BIG_ENDIAN", type := .boolean, accessFlags := 26, slot := 1, constantValue := 0 }, { name := "LOG2_ARRAY_BOOLEAN_INDEX_SCALE", type := .int, accessFlags := 25, slot := 2, constantValue := 0 }, { name := "LOG2_ARRAY_BYTE_INDEX_SCALE", type := .int, accessFlags := 25, slot := 3, constantValue := 0 }, { name := "LOG2_ARRAY_CHAR_INDEX_SCALE", type := .int, accessFlags := 25, slot := 4, constantValue := 0 }, { name := "LOG2_ARRAY_SHORT_INDEX_SCALE", type := .int, accessFlags := 25, slot := 5, constantValue := 0 }, { name := "LOG2_ARRAY_INT_INDEX_SCALE", type := .int, accessFlags := 25, slot := 6, constantValue := 0 }, { name := "LOG2_ARRAY_LONG_INDEX_SCALE", type := .int, accessFlags := 25, slot := 7, constantValue := 0 }, { name := "LOG2_ARRAY_FLOAT_INDEX_SCALE", type := .int, accessFlags := 25, slot := 8, constantValue := 0 }, { name := "LOG2_ARRAY_DOUBLE_INDEX_SCALE", type := .int, accessFlags := 25, slot := 9, constantValue := 0 }, { name := "LOG2_BYTE_BIT_SIZE", type := .int, accessFlags := 26, slot := 10, constantValue := 0 }, { name := "T_BOOLEAN", type := .int, accessFlags := 25, slot := 11, constantValue := 0 }, { name := "T_CHAR", type := .int, accessFlags := 25, slot := 12, constantValue := 0 }, { name := "T_FLOAT", type := .int, accessFlags := 25, slot := 13, constantValue := 0 }, { name := "T_DOUBLE", type := .int, accessFlags := 25, slot := 14, constantValue := 0 }, { name := "T_BYTE", type := .int, accessFlags := 25, slot := 15, constantValue := 0 }, { name := "T_SHORT", type := .int, accessFlags := 25, slot := 16, constantValue := 0 }, { name := "T_INT", type := .int, accessFlags := 25, slot := 17, constantValue := 0 }, { name := "T_LONG", type := .int, accessFlags := 25, slot := 18, constantValue := 0 }, { name := "JLA", type := (.object "jdk/internal/access/JavaLangAccess"), accessFlags := 26, slot := 19, constantValue := 0 }, { name := "SOFT_MAX_ARRAY_LENGTH", type := .int, accessFlags := 25, slot := 20, constantValue := 0 }]
  methods := #[k15m0]
  instanceTypes := #[]
  staticTypes := #[(.object "jdk/internal/misc/Unsafe"), .boolean, .int, .int, .int, .int, .int, .int, .int, .int, .int, .int, .int, .int, .int, .int, .int, .int, .int, (.object "jdk/internal/access/JavaLangAccess"), .int]
  resolved := Array.replicate 378 none
  statics := none }

def pool16 : Array CpInfo := pool [(1, u "java/lang/Cloneable"), (0, .class_ 1), (0, u "java/lang/Object"), (0, .class_ 3)] 3

/-- java/lang/Cloneable -/
def k16 : Class := { plain "java/lang/Cloneable" (some 0) with
  accessFlags := 1537
  interfaces := #[]
  cf := some (fileOf pool16 2 #[] #[] 1537 4 #[] #[])
  fields := #[]
  methods := #[]
  instanceTypes := #[]
  staticTypes := #[]
  resolved := Array.replicate 8 none
  statics := none }

/-- the primitive byte -/
def k17 : Class := { plain "byte" none with kind := .primitive 'B', accessFlags := 0x411 }
/-- [B -/
def k18 : Class := { plain "[B" (some 0) with kind := .array 17 .byte, interfaces := #[16, 4], accessFlags := 1041 }

/-- the primitive char -/
def k19 : Class := { plain "char" none with kind := .primitive 'C', accessFlags := 0x411 }
/-- [C -/
def k20 : Class := { plain "[C" (some 0) with kind := .array 19 .char, interfaces := #[16, 4], accessFlags := 1041 }

/-- the primitive int -/
def k21 : Class := { plain "int" none with kind := .primitive 'I', accessFlags := 0x411 }
/-- [I -/
def k22 : Class := { plain "[I" (some 0) with kind := .array 21 .int, interfaces := #[16, 4], accessFlags := 1041 }

def heap : Heap := #[{ cls := 6, slots := #[.ref 3, .ref 4, .ref 5, .ref 6, .ref 7, .ref 8, .ref 9, .ref 10, .null], vm := .statics 6 },
  { cls := 9, slots := #[.long 0, .int 1, .null, .int 0, .null, .int 0, .int 0], vm := .statics 9 },
  { cls := 14, slots := #[.null, .null, .null], vm := .statics 14 },
  { cls := 6, slots := #[.null, .int 0, .int 0], vm := .none },
  { cls := 6, slots := #[.null, .int 1, .int 0], vm := .none },
  { cls := 6, slots := #[.null, .int 2, .int 0], vm := .none },
  { cls := 6, slots := #[.null, .int 3, .int 0], vm := .none },
  { cls := 6, slots := #[.null, .int 4, .int 0], vm := .none },
  { cls := 6, slots := #[.null, .int 5, .int 0], vm := .none },
  { cls := 6, slots := #[.null, .int 6, .int 0], vm := .none },
  { cls := 6, slots := #[.null, .int 7, .int 0], vm := .none }]
def classes : Array Class := #[k0, k1, k2, k3, k4, k5, k6, k7, k8, k9, k10, k11, k12, k13, k14, k15, k16, k17, k18, k19, k20, k21, k22]
def interned : List (Array UInt16 × Addr) := []
def slotsUsed : Nat := 43
def theMethod : MethodId := ⟨1, 2⟩
def args0 : Array Value := #[.int 5, .int 5, .int 5, .int 5]
def aboutOver (below : List Frame) : State where
  vm := { classes := classes, interned := interned.toArray }
  heap := heap
  slotsUsed := slotsUsed
  threads := #[{ frames := .invoking theMethod args0 :: below }]
def below0 : List Frame := [.native { method := ⟨0, 0⟩, args := #[] }]
def about1 : State := aboutOver below0
def p0 : Program := .bare "" "" ""
def e0 : Env := launch0.env 0 0 0
theorem w_frames : about1.frames = Frame.invoking theMethod args0 :: below0 := rfl
set_option maxRecDepth 65536 in
theorem w_args : argsFit about1.vm theMethod args0 = true := by decide +kernel
set_option maxRecDepth 65536 in
theorem w_heap : heapFits about1 = true := by decide +kernel
set_option maxRecDepth 65536 in
theorem w_runnable : about1.curStatus? = some .runnable := by decide +kernel
set_option maxRecDepth 65536 in
theorem w_alone : about1.alone = true := by decide +kernel
set_option maxRecDepth 65536 in
theorem w_named : about1.methodNamed? x = some theMethod := by decide +kernel
set_option maxRecDepth 65536 in
theorem w_hears : about1.hears theMethod below0 = true := by decide +kernel
set_option maxRecDepth 65536 in
theorem w_ripe : about1.ripe theMethod args0 below0 = true := by decide +kernel
theorem w_running : about1.status = .running := rfl
set_option maxRecDepth 65536 in
theorem w_room : about1.hasRoom e0.platform room_1 = true :=
  launch0.hasRoom_least _ room_1 (by decide +kernel) (by decide +kernel) (by decide +kernel) (by decide +kernel) (by decide +kernel) (by decide +kernel)
theorem allAtoms_all (ts : List Jvm.Cond) (a : Array Jvm.Value) (st : Jvm.State) : (allAtoms ts).before a st = ts.all (fun c => c.before a st) := by
  induction ts with
  | nil => rfl
  | cons c t ih =>
    show (Jvm.Cond.and c (allAtoms t)).before a st = _
    rw [Jvm.Cond.before_and, ih, List.all_cons]
def words1 : List Jvm.Cond := Jvm.Cond.code x code maxLocals ret :: tables_1
/-- a 'code' word, met by the world's own term for the bytes: nothing is compared byte by byte -/
theorem code_word {y : MethodName} {bytes : ByteArray} {mx : Nat} {rt : Option FieldType} {a : Array Value} {s : State} {m : MethodId} {meth : Method} {c : Code} (h1 : s.methodNamed? y = some m) (h2 : s.vm.method? m = some meth) (h3 : meth.code = some c) (h4 : c.code = bytes)
    (h5 : (c.maxLocals == mx && c.exceptionTable.isEmpty && decide (c.maxStack ≤ mostOperands) && decide (meth.sig.returnType = rt) && !meth.locks && decide (parseMethodDescriptor y.desc = some meth.sig)) = true) : (Jvm.Cond.code y bytes mx rt).before a s = true := by
  simp only [Bool.and_eq_true, beq_iff_eq, Bool.not_eq_true', decide_eq_true_eq] at h5
  obtain ⟨⟨⟨⟨⟨g1, g2⟩, g3⟩, g4⟩, g5⟩, g6⟩ := h5
  simp [Cond.before, Cond.holds, Cond.value, h1, h2, h3, h4, g1, g2, g3, g4, g5, g6]
def isCode : Jvm.Cond → Bool
  | .code _ _ _ _ => true
  | _ => false
theorem all_split {L : List Jvm.Cond} {P : Jvm.Cond → Bool} (h1 : L.all (fun c => isCode c || P c) = true) (h2 : ∀ c ∈ L.filter isCode, P c = true) : L.all P = true := by
  refine List.all_eq_true.mpr fun c hc => ?_
  have h := List.all_eq_true.mp h1 c hc
  rcases Bool.eq_false_or_eq_true (isCode c) with hi | hi
  · exact h2 c (List.mem_filter.mpr ⟨hc, hi⟩)
  · simpa [hi] using h
set_option maxRecDepth 65536 in
theorem w_c0 : (Jvm.Cond.code x code maxLocals ret).before args0 about1 = true := code_word (m := ⟨1, 2⟩) (meth := k1m2) (c := k1c2) (by decide +kernel) rfl rfl rfl (by decide +kernel)
set_option maxRecDepth 65536 in
theorem w_c1 : (Jvm.Cond.code ({ cls := "com/example/prizebook/prizebook/AnswerOfPinLaw", name := "pick", desc := "(I)Lcom/example/prizebook/prizebook/Answer$Outcome;" } : Jvm.MethodName) method_2_code (1 : Nat) (Option.some (Jvm.ClassFile.FieldType.object "com/example/prizebook/prizebook/Answer$Outcome"))).before args0 about1 = true := code_word (m := ⟨1, 1⟩) (meth := k1m1) (c := k1c1) (by decide +kernel) rfl rfl rfl (by decide +kernel)
set_option maxRecDepth 65536 in
theorem w_c2 : (Jvm.Cond.code ({ cls := "java/lang/String", name := "<init>", desc := "([C)V" } : Jvm.MethodName) jdk_42_method_3_code (2 : Nat) (Option.none : Option Jvm.ClassFile.FieldType)).before args0 about1 = true := code_word (m := ⟨9, 1⟩) (meth := k9m1) (c := k9c1) (by decide +kernel) rfl rfl rfl (by decide +kernel)
set_option maxRecDepth 65536 in
theorem w_c3 : (Jvm.Cond.code ({ cls := "java/lang/String", name := "<init>", desc := "([CIILjava/lang/Void;)V" } : Jvm.MethodName) jdk_42_method_149_code (6 : Nat) (Option.none : Option Jvm.ClassFile.FieldType)).before args0 about1 = true := code_word (m := ⟨9, 3⟩) (meth := k9m3) (c := k9c3) (by decide +kernel) rfl rfl rfl (by decide +kernel)
set_option maxRecDepth 65536 in
theorem w_c4 : (Jvm.Cond.code ({ cls := "java/lang/Object", name := "<init>", desc := "()V" } : Jvm.MethodName) object_method_1_code (1 : Nat) (Option.none : Option Jvm.ClassFile.FieldType)).before args0 about1 = true := code_word (m := ⟨0, 0⟩) (meth := k0m0) (c := k0c0) (by decide +kernel) rfl rfl rfl (by decide +kernel)
set_option maxRecDepth 65536 in
theorem w_c5 : (Jvm.Cond.code ({ cls := "java/lang/StringUTF16", name := "compress", desc := "([CII)[B" } : Jvm.MethodName) jdk_52_method_16_code (6 : Nat) (Option.some (Jvm.ClassFile.FieldType.array Jvm.ClassFile.FieldType.byte))).before args0 about1 = true := code_word (m := ⟨10, 2⟩) (meth := k10m2) (c := k10c2) (by decide +kernel) rfl rfl rfl (by decide +kernel)
set_option maxRecDepth 65536 in
theorem w_c6 : (Jvm.Cond.code ({ cls := "java/lang/StringUTF16", name := "compress", desc := "([CI[BII)I" } : Jvm.MethodName) jdk_52_method_21_code (7 : Nat) (Option.some Jvm.ClassFile.FieldType.int)).before args0 about1 = true := code_word (m := ⟨10, 3⟩) (meth := k10m3) (c := k10c3) (by decide +kernel) rfl rfl rfl (by decide +kernel)
set_option maxRecDepth 65536 in
theorem w_c7 : (Jvm.Cond.code ({ cls := "java/lang/StringUTF16", name := "coderFromArrayLen", desc := "([BI)B" } : Jvm.MethodName) jdk_52_method_15_code (2 : Nat) (Option.some Jvm.ClassFile.FieldType.byte)).before args0 about1 = true := code_word (m := ⟨10, 1⟩) (meth := k10m1) (c := k10c1) (by decide +kernel) rfl rfl rfl (by decide +kernel)
set_option maxRecDepth 65536 in
theorem w_c8 : (Jvm.Cond.code ({ cls := "com/example/prizebook/prizebook/Answer", name := "of", desc := "(Lcom/example/prizebook/prizebook/Answer$Outcome;Ljava/lang/String;)Lcom/example/prizebook/prizebook/Answer;" } : Jvm.MethodName) prog_1_method_2_code (2 : Nat) (Option.some (Jvm.ClassFile.FieldType.object "com/example/prizebook/prizebook/Answer"))).before args0 about1 = true := code_word (m := ⟨12, 1⟩) (meth := k12m1) (c := k12c1) (by decide +kernel) rfl rfl rfl (by decide +kernel)
set_option maxRecDepth 65536 in
theorem w_c9 : (Jvm.Cond.code ({ cls := "com/example/prizebook/prizebook/Answer", name := "<init>", desc := "(Lcom/example/prizebook/prizebook/Answer$Outcome;Ljava/lang/String;Lcom/example/prizebook/prizebook/Payment;Lcom/example/prizebook/prizebook/Voiding;Lcom/example/prizebook/prizebook/Expiry;)V" } : Jvm.MethodName) prog_1_method_1_code (6 : Nat) (Option.none : Option Jvm.ClassFile.FieldType)).before args0 about1 = true := code_word (m := ⟨12, 0⟩) (meth := k12m0) (c := k12c0) (by decide +kernel) rfl rfl rfl (by decide +kernel)
set_option maxRecDepth 65536 in
theorem w_c10 : (Jvm.Cond.code ({ cls := "java/lang/Record", name := "<init>", desc := "()V" } : Jvm.MethodName) jdk_30_method_1_code (1 : Nat) (Option.none : Option Jvm.ClassFile.FieldType)).before args0 about1 = true := code_word (m := ⟨11, 0⟩) (meth := k11m0) (c := k11c0) (by decide +kernel) rfl rfl rfl (by decide +kernel)
set_option maxRecDepth 65536 in
theorem w_c11 : (Jvm.Cond.code ({ cls := "com/example/prizebook/prizebook/Answer", name := "outcome", desc := "()Lcom/example/prizebook/prizebook/Answer$Outcome;" } : Jvm.MethodName) prog_1_method_9_code (1 : Nat) (Option.some (Jvm.ClassFile.FieldType.object "com/example/prizebook/prizebook/Answer$Outcome"))).before args0 about1 = true := code_word (m := ⟨12, 2⟩) (meth := k12m2) (c := k12c2) (by decide +kernel) rfl rfl rfl (by decide +kernel)
set_option maxRecDepth 65536 in
theorem w_c12 : (Jvm.Cond.code ({ cls := "com/example/prizebook/prizebook/Answer", name := "number", desc := "()Ljava/lang/String;" } : Jvm.MethodName) prog_1_method_10_code (1 : Nat) (Option.some (Jvm.ClassFile.FieldType.object "java/lang/String"))).before args0 about1 = true := code_word (m := ⟨12, 3⟩) (meth := k12m3) (c := k12c3) (by decide +kernel) rfl rfl rfl (by decide +kernel)
set_option maxRecDepth 65536 in
theorem w_c13 : (Jvm.Cond.code ({ cls := "com/example/prizebook/prizebook/Answer", name := "payment", desc := "()Lcom/example/prizebook/prizebook/Payment;" } : Jvm.MethodName) prog_1_method_11_code (1 : Nat) (Option.some (Jvm.ClassFile.FieldType.object "com/example/prizebook/prizebook/Payment"))).before args0 about1 = true := code_word (m := ⟨12, 4⟩) (meth := k12m4) (c := k12c4) (by decide +kernel) rfl rfl rfl (by decide +kernel)
set_option maxRecDepth 65536 in
theorem w_c14 : (Jvm.Cond.code ({ cls := "com/example/prizebook/prizebook/Answer", name := "voiding", desc := "()Lcom/example/prizebook/prizebook/Voiding;" } : Jvm.MethodName) prog_1_method_12_code (1 : Nat) (Option.some (Jvm.ClassFile.FieldType.object "com/example/prizebook/prizebook/Voiding"))).before args0 about1 = true := code_word (m := ⟨12, 5⟩) (meth := k12m5) (c := k12c5) (by decide +kernel) rfl rfl rfl (by decide +kernel)
set_option maxRecDepth 65536 in
theorem w_c15 : (Jvm.Cond.code ({ cls := "com/example/prizebook/prizebook/Answer", name := "expiry", desc := "()Lcom/example/prizebook/prizebook/Expiry;" } : Jvm.MethodName) prog_1_method_13_code (1 : Nat) (Option.some (Jvm.ClassFile.FieldType.object "com/example/prizebook/prizebook/Expiry"))).before args0 about1 = true := code_word (m := ⟨12, 6⟩) (meth := k12m6) (c := k12c6) (by decide +kernel) rfl rfl rfl (by decide +kernel)
set_option maxRecDepth 65536 in
theorem w_c16 : (Jvm.Cond.code ({ cls := "java/lang/String", name := "valueOf", desc := "(C)Ljava/lang/String;" } : Jvm.MethodName) jdk_42_method_139_code (1 : Nat) (Option.some (Jvm.ClassFile.FieldType.object "java/lang/String"))).before args0 about1 = true := code_word (m := ⟨9, 2⟩) (meth := k9m2) (c := k9c2) (by decide +kernel) rfl rfl rfl (by decide +kernel)
set_option maxRecDepth 65536 in
theorem w_c17 : (Jvm.Cond.code ({ cls := "java/lang/StringLatin1", name := "canEncode", desc := "(C)Z" } : Jvm.MethodName) jdk_43_method_3_code (1 : Nat) (Option.some Jvm.ClassFile.FieldType.boolean)).before args0 about1 = true := code_word (m := ⟨13, 1⟩) (meth := k13m1) (c := k13c1) (by decide +kernel) rfl rfl rfl (by decide +kernel)
set_option maxRecDepth 65536 in
theorem w_c18 : (Jvm.Cond.code ({ cls := "java/lang/StringLatin1", name := "toBytes", desc := "(C)[B" } : Jvm.MethodName) jdk_43_method_46_code (1 : Nat) (Option.some (Jvm.ClassFile.FieldType.array Jvm.ClassFile.FieldType.byte))).before args0 about1 = true := code_word (m := ⟨13, 2⟩) (meth := k13m2) (c := k13c2) (by decide +kernel) rfl rfl rfl (by decide +kernel)
set_option maxRecDepth 65536 in
theorem w_c19 : (Jvm.Cond.code ({ cls := "java/lang/String", name := "<init>", desc := "([BB)V" } : Jvm.MethodName) jdk_42_method_151_code (3 : Nat) (Option.none : Option Jvm.ClassFile.FieldType)).before args0 about1 = true := code_word (m := ⟨9, 4⟩) (meth := k9m4) (c := k9c4) (by decide +kernel) rfl rfl rfl (by decide +kernel)
def codes1 : List Jvm.Cond := [Jvm.Cond.code x code maxLocals ret, Jvm.Cond.code ({ cls := "com/example/prizebook/prizebook/AnswerOfPinLaw", name := "pick", desc := "(I)Lcom/example/prizebook/prizebook/Answer$Outcome;" } : Jvm.MethodName) method_2_code (1 : Nat) (Option.some (Jvm.ClassFile.FieldType.object "com/example/prizebook/prizebook/Answer$Outcome")), Jvm.Cond.code ({ cls := "java/lang/String", name := "<init>", desc := "([C)V" } : Jvm.MethodName) jdk_42_method_3_code (2 : Nat) (Option.none : Option Jvm.ClassFile.FieldType), Jvm.Cond.code ({ cls := "java/lang/String", name := "<init>", desc := "([CIILjava/lang/Void;)V" } : Jvm.MethodName) jdk_42_method_149_code (6 : Nat) (Option.none : Option Jvm.ClassFile.FieldType), Jvm.Cond.code ({ cls := "java/lang/Object", name := "<init>", desc := "()V" } : Jvm.MethodName) object_method_1_code (1 : Nat) (Option.none : Option Jvm.ClassFile.FieldType), Jvm.Cond.code ({ cls := "java/lang/StringUTF16", name := "compress", desc := "([CII)[B" } : Jvm.MethodName) jdk_52_method_16_code (6 : Nat) (Option.some (Jvm.ClassFile.FieldType.array Jvm.ClassFile.FieldType.byte)), Jvm.Cond.code ({ cls := "java/lang/StringUTF16", name := "compress", desc := "([CI[BII)I" } : Jvm.MethodName) jdk_52_method_21_code (7 : Nat) (Option.some Jvm.ClassFile.FieldType.int), Jvm.Cond.code ({ cls := "java/lang/StringUTF16", name := "coderFromArrayLen", desc := "([BI)B" } : Jvm.MethodName) jdk_52_method_15_code (2 : Nat) (Option.some Jvm.ClassFile.FieldType.byte), Jvm.Cond.code ({ cls := "com/example/prizebook/prizebook/Answer", name := "of", desc := "(Lcom/example/prizebook/prizebook/Answer$Outcome;Ljava/lang/String;)Lcom/example/prizebook/prizebook/Answer;" } : Jvm.MethodName) prog_1_method_2_code (2 : Nat) (Option.some (Jvm.ClassFile.FieldType.object "com/example/prizebook/prizebook/Answer")), Jvm.Cond.code ({ cls := "com/example/prizebook/prizebook/Answer", name := "<init>", desc := "(Lcom/example/prizebook/prizebook/Answer$Outcome;Ljava/lang/String;Lcom/example/prizebook/prizebook/Payment;Lcom/example/prizebook/prizebook/Voiding;Lcom/example/prizebook/prizebook/Expiry;)V" } : Jvm.MethodName) prog_1_method_1_code (6 : Nat) (Option.none : Option Jvm.ClassFile.FieldType), Jvm.Cond.code ({ cls := "java/lang/Record", name := "<init>", desc := "()V" } : Jvm.MethodName) jdk_30_method_1_code (1 : Nat) (Option.none : Option Jvm.ClassFile.FieldType), Jvm.Cond.code ({ cls := "com/example/prizebook/prizebook/Answer", name := "outcome", desc := "()Lcom/example/prizebook/prizebook/Answer$Outcome;" } : Jvm.MethodName) prog_1_method_9_code (1 : Nat) (Option.some (Jvm.ClassFile.FieldType.object "com/example/prizebook/prizebook/Answer$Outcome")), Jvm.Cond.code ({ cls := "com/example/prizebook/prizebook/Answer", name := "number", desc := "()Ljava/lang/String;" } : Jvm.MethodName) prog_1_method_10_code (1 : Nat) (Option.some (Jvm.ClassFile.FieldType.object "java/lang/String")), Jvm.Cond.code ({ cls := "com/example/prizebook/prizebook/Answer", name := "payment", desc := "()Lcom/example/prizebook/prizebook/Payment;" } : Jvm.MethodName) prog_1_method_11_code (1 : Nat) (Option.some (Jvm.ClassFile.FieldType.object "com/example/prizebook/prizebook/Payment")), Jvm.Cond.code ({ cls := "com/example/prizebook/prizebook/Answer", name := "voiding", desc := "()Lcom/example/prizebook/prizebook/Voiding;" } : Jvm.MethodName) prog_1_method_12_code (1 : Nat) (Option.some (Jvm.ClassFile.FieldType.object "com/example/prizebook/prizebook/Voiding")), Jvm.Cond.code ({ cls := "com/example/prizebook/prizebook/Answer", name := "expiry", desc := "()Lcom/example/prizebook/prizebook/Expiry;" } : Jvm.MethodName) prog_1_method_13_code (1 : Nat) (Option.some (Jvm.ClassFile.FieldType.object "com/example/prizebook/prizebook/Expiry")), Jvm.Cond.code ({ cls := "java/lang/String", name := "valueOf", desc := "(C)Ljava/lang/String;" } : Jvm.MethodName) jdk_42_method_139_code (1 : Nat) (Option.some (Jvm.ClassFile.FieldType.object "java/lang/String")), Jvm.Cond.code ({ cls := "java/lang/StringLatin1", name := "canEncode", desc := "(C)Z" } : Jvm.MethodName) jdk_43_method_3_code (1 : Nat) (Option.some Jvm.ClassFile.FieldType.boolean), Jvm.Cond.code ({ cls := "java/lang/StringLatin1", name := "toBytes", desc := "(C)[B" } : Jvm.MethodName) jdk_43_method_46_code (1 : Nat) (Option.some (Jvm.ClassFile.FieldType.array Jvm.ClassFile.FieldType.byte)), Jvm.Cond.code ({ cls := "java/lang/String", name := "<init>", desc := "([BB)V" } : Jvm.MethodName) jdk_42_method_151_code (3 : Nat) (Option.none : Option Jvm.ClassFile.FieldType)]
set_option maxRecDepth 65536 in
theorem codes_eq : words1.filter isCode = codes1 := rfl
theorem w_codes : ∀ c ∈ words1.filter isCode, c.before args0 about1 = true := by
  rw [codes_eq]
  intro c hc
  simp only [codes1, List.mem_cons, List.not_mem_nil, or_false] at hc
  rcases hc with rfl | rfl | rfl | rfl | rfl | rfl | rfl | rfl | rfl | rfl | rfl | rfl | rfl | rfl | rfl | rfl | rfl | rfl | rfl | rfl
  · exact w_c0
  · exact w_c1
  · exact w_c2
  · exact w_c3
  · exact w_c4
  · exact w_c5
  · exact w_c6
  · exact w_c7
  · exact w_c8
  · exact w_c9
  · exact w_c10
  · exact w_c11
  · exact w_c12
  · exact w_c13
  · exact w_c14
  · exact w_c15
  · exact w_c16
  · exact w_c17
  · exact w_c18
  · exact w_c19
set_option maxRecDepth 65536 in
theorem w_t1 : (words1.take 24).all (fun c => isCode c || c.before args0 about1) = true := by decide +kernel
set_option maxRecDepth 65536 in
theorem w_t2 : ((words1.drop 24).take 24).all (fun c => isCode c || c.before args0 about1) = true := by decide +kernel
set_option maxRecDepth 65536 in
theorem w_t3 : (((words1.drop 24).drop 24).take 24).all (fun c => isCode c || c.before args0 about1) = true := by decide +kernel
set_option maxRecDepth 65536 in
theorem w_t4 : ((((words1.drop 24).drop 24).drop 24).take 24).all (fun c => isCode c || c.before args0 about1) = true := by decide +kernel
set_option maxRecDepth 65536 in
theorem w_t5 : ((((words1.drop 24).drop 24).drop 24).drop 24).all (fun c => isCode c || c.before args0 about1) = true := by decide +kernel
theorem w_tables : (allAtoms (Jvm.Cond.code x code maxLocals ret :: tables_1)).before args0 about1 = true := by
  rw [allAtoms_all]
  show words1.all (fun c => c.before args0 about1) = true
  refine all_split ?_ w_codes
  rw [← List.take_append_drop 24 words1, List.all_append, w_t1, ← List.take_append_drop 24 (words1.drop 24), List.all_append, w_t2, ← List.take_append_drop 24 ((words1.drop 24).drop 24), List.all_append, w_t3, ← List.take_append_drop 24 (((words1.drop 24).drop 24).drop 24), List.all_append, w_t4, w_t5]
  rfl
set_option maxRecDepth 65536 in
theorem w_rest : rest_1_c.before args0 about1 = true := by decide +kernel
set_option maxRecDepth 65536 in
theorem w_case : (Jvm.Cond.and given_1 narrow_1).before args0 about1 = true := by decide +kernel
set_option maxRecDepth 65536 in
theorem w_consts : constsHeld consts_1 about1 := Jvm.Lit.constsHeldB_iff.mp (by decide +kernel)
theorem w_applies : (headSpec (Jvm.Cond.code x code maxLocals ret :: tables_1) room_1).applies x e0.platform about1 = true :=
  (Spec.applies_iff w_frames).mpr ⟨w_running, w_runnable, w_alone, w_named, w_hears, w_ripe, w_room, w_tables⟩
theorem atStart : AtStart classFile x code maxLocals ret World_1 tables_1 room_1 Calls_1 rest_1 Pre_1 launch0 p0 e0 about1 theMethod args0 below0 :=
  ⟨lists_1, trivial, launch0.admits_env _ _ _, launch0.least_env, fairChoices_fair.cas, fairChoices_fair.clock, w_frames, w_args, w_heap, w_applies, ⟨w_consts, trivial⟩, w_rest, w_case⟩
end start1
theorem witness_1 : WitnessClaimed_1 := ⟨start1.p0, start1.e0, start1.about1, start1.theMethod, start1.args0, start1.below0, start1.atStart⟩
end Jvm.Pilot.@@N@@
