import JvmDerived
import JvmDerived.Pilot.@@N@@Statement
import JvmDerived.Pilot.@@N@@Code
set_option linter.unusedVariables false
set_option linter.unusedSimpArgs false
namespace Jvm.RoadKit
open Sem ClassFile Op Lib Jvm.Stand Jvm.Free Jvm.LawKit
section OwnKit
/-- what stands at a point of the walk: the law's Stand, its written places all new, the heap named; w: may have interned -/
def own_X (w : Bool) (p : Program) (l : Launch) (e : Env) (R : Room) (s : State) (m : MethodId) (args : Array Value) (below : List Frame) (meth : Method) (c : Code) (Z : State) (T : State) (h : Heap) (k n : Nat) : Prop :=
  ∃ (L : List Loc) (vm : Vm), Stand p l e R (s.setVm vm) m args below meth c T L k n ∧ Fr Z.heap.size L ∧ T.heap = h ∧ (w = false → vm = s.vm) ∧ s.Since vm h.size
def own_Cx (p : Program) (s : State) (m : MethodId) (meth : Method) (c : Code) (Z : State) (own nm : String) (bytes : ByteArray) (maxL : Nat) (ret : Option FieldType) : Prop :=
  p.tables.exec = Jvm.exec ∧ c.code = bytes ∧ c.maxLocals = maxL ∧ meth.sig.returnType = ret ∧ meth.locks = false ∧ Z.Warmed39 s.vm ∧ s.vm.findClass own = some m.cls ∧ meth.name = nm
def own_Go (w : Bool) (p : Program) (l : Launch) (e : Env) (R : Room) (s : State) (m : MethodId) (args : Array Value) (below : List Frame) (meth : Method) (c : Code) (Z : State) (Q : Option Value → Heap → Prop) (T : State) (g : JFrame) : Prop :=
  ∃ (T' : State) (v : Option Value) (h' : Heap) (k' n' : Nat), own_X w p l e R s m args below meth c Z T' h' k' n' ∧ k' ≤ R.cells ∧ n' ≤ R.slots ∧ (meth.sig.returnType = none → v = none) ∧ Q v h' ∧
    ∀ fs, (∀ (f : JFrame) (acts : List Action), f.method = m → f.locked = none → f.entered = [] → (doReturn e (T'.setTop f) acts v).1 = T'.setFrames fs) → Steps p.tables e below (T.setTop g) (T'.setFrames fs)
/-- from the frame g, over the heap h, with k cells and n slots made, the walk comes to a return of which Q holds -/
def own_G (w : Bool) (p : Program) (l : Launch) (e : Env) (R : Room) (s : State) (m : MethodId) (args : Array Value) (below : List Frame) (meth : Method) (c : Code) (Z : State) (Q : Option Value → Heap → Prop) (h : Heap) (k n : Nat) (g : JFrame) : Prop :=
  ∀ T, own_X w p l e R s m args below meth c Z T h k n → own_Go w p l e R s m args below meth c Z Q T g
def own_D (bytes : ByteArray) (pc : Nat) (i : Instr) (len pc' : Nat) : Prop := decode bytes pc = .ok (i, len) ∧ pc' = pc + len
def own_B (bytes : ByteArray) (pc : Nat) (i : Instr) (off : Int) (pcF pcT : Nat) : Prop := decode bytes pc = .ok (i, 3) ∧ pcF = pc + 3 ∧ 0 ≤ (pc : Int) + off ∧ ((pc : Int) + off).toNat = pcT
def own_End (w : Bool) (U : State) (o : Outcome) (U' : State) (L : List Loc) (k n : Nat) : Prop := match w with | false => FrameEnd U o U' L k n | true => ReturnedEndW U o U' L k n
def own_Met (w : Bool) (l : Launch) (Z : State) (y : MethodName) (bytes : ByteArray) (maxL : Nat) (ret : Option FieldType) (ws : List Cond) (rm : Room) (as' : Array Value) (h : Heap) (Q : Option Value → Heap → Prop) : Prop :=
  MetFree l y (head1 (Cond.code y bytes maxL ret :: ws) rm) (fun a U => a = as' ∧ Z.Warmed39 U.vm ∧ U.heap = h) (fun _ _ _ _ _ => True)
    (fun _ U o U' => ∃ v L, o = .returned v ∧ (Q v U'.heap ∧ Fr Z.heap.size L ∧ h.size ≤ U'.heap.size) ∧ own_End w U o U' L rm.cells rm.slots)
/-! ## heap -/
abbrev own_O := Addr × String × List (String × String × String × Value)
abbrev own_A := Addr × FieldType × String × List Value
def own_OK (Z : State) (h : Heap) (o : own_O) : Prop := Exa Z h o.1 o.2.1 ∧ (∀ f ∈ o.2.2, Fld Z h o.1 f.1 f.2.1 f.2.2.1 f.2.2.2) ∧ o.2.2.Pairwise (fun f g => slotOf Z f.1 f.2.1 f.2.2.1 ≠ slotOf Z g.1 g.2.1 g.2.2.1)
def own_AK (Z : State) (h : Heap) (a : own_A) : Prop := ∃ cl : Cell, Arr Z h a.1 cl a.2.1 ∧ cl.slots.toList = a.2.2.2 ∧ (∀ v ∈ a.2.2.2, fits a.2.1 v = true) ∧ (a.2.2.1 ≠ "" → Exa Z h a.1 a.2.2.1) ∧ (∀ C, a.2.1 = .object C → a.2.2.1 ≠ "" → Ovr Z cl.cls C)
/-- the heap h: what stood at the law's start Z stands; the objects os and the arrays as, all new, all apart -/
def own_H (Z : State) (h : Heap) (os : List own_O) (as : List own_A) : Prop :=
  Ext Z.heap h ∧ (∀ o ∈ os, Z.heap.size ≤ o.1 ∧ own_OK Z h o) ∧ (∀ a ∈ as, Z.heap.size ≤ a.1 ∧ own_AK Z h a) ∧ (os.map (·.1) ++ as.map (·.1)).Nodup
variable {w : Bool} {p : Program} {l : Launch} {e : Env} {R : Room} {s : State} {m : MethodId} {args : Array Value} {below : List Frame} {meth : Method} {c : Code} {Z : State} {a0 : Array Value} {own nm : String} {bytes : ByteArray} {maxL : Nat} {ret : Option FieldType} {Q : Option Value → Heap → Prop} {h h' : Heap} {k n k' n' : Nat} {pc pc' pcT : Nat} {Ls Ls' : Array Slot} {st rest : List Value} {os os' : List own_O} {as as' : List own_A} {g g' : JFrame} {tyR : FieldType}
theorem own_H.start (Z : State) : own_H Z Z.heap [] [] := ⟨⟨Nat.le_refl _, fun _ _ q => q⟩, fun _ q => (nomatch q), fun _ q => (nomatch q), List.nodup_nil⟩
theorem own_OK.ext {o : own_O} (E : Ext h h') (F : own_OK Z h o) : own_OK Z h' o := ⟨F.1.ext E, fun f hf => (F.2.1 f hf).ext E, F.2.2⟩
theorem own_AK.ext {a : own_A} (E : Ext h h') (F : own_AK Z h a) : own_AK Z h' a := by
  obtain ⟨cl, h1, h2, h3, h4, h5⟩ := F; exact ⟨cl, h1.ext E, h2, h3, fun q => (h4 q).ext E, h5⟩
theorem own_H.ext (H : own_H Z h os as) (E : Ext h h') : own_H Z h' os as :=
  ⟨⟨Nat.le_trans H.1.1 E.1, fun a c q => E.2 a c (H.1.2 a c q)⟩, fun o ho => ⟨(H.2.1 o ho).1, (H.2.1 o ho).2.ext E⟩, fun a ha => ⟨(H.2.2.1 a ha).1, (H.2.2.1 a ha).2.ext E⟩, H.2.2.2⟩
theorem own_H.ltO (H : own_H Z h os as) {o : own_O} (ho : o ∈ os) : o.1 < h.size := (H.2.1 o ho).2.1.lt
theorem own_H.ltA (H : own_H Z h os as) {a : own_A} (ha : a ∈ as) : a.1 < h.size := by obtain ⟨-, cl, h1, -⟩ := H.2.2.1 a ha; exact h1.lt
theorem own_H.fresh (H : own_H Z h os as) : h.size ∉ os.map (·.1) ++ as.map (·.1) := fun q => by
  rcases List.mem_append.mp q with q | q
  · obtain ⟨o, ho, e⟩ := List.mem_map.mp q; exact absurd (H.ltO ho) (by rw [e]; exact Nat.lt_irrefl _)
  · obtain ⟨o, ho, e⟩ := List.mem_map.mp q; exact absurd (H.ltA ho) (by rw [e]; exact Nat.lt_irrefl _)
theorem own_H.addO (H : own_H Z h os as) (E : Ext h h') {C : String} {fs : List (String × String × String × Value)} (F : own_OK Z h' (h.size, C, fs)) : own_H Z h' ((h.size, C, fs) :: os) as := by
  have H' := H.ext E
  refine ⟨H'.1, fun o ho => ?_, H'.2.2.1, ?_⟩
  · rcases List.mem_cons.mp ho with rfl | ho
    · exact ⟨H.1.1, F⟩
    · exact H'.2.1 o ho
  · exact List.nodup_cons.mpr ⟨H.fresh, H.2.2.2⟩
theorem own_H.addA (H : own_H Z h os as) (E : Ext h h') {ty : FieldType} {ad : String} {vs : List Value} (F : own_AK Z h' (h.size, ty, ad, vs)) : own_H Z h' os ((h.size, ty, ad, vs) :: as) := by
  have H' := H.ext E
  refine ⟨H'.1, H'.2.1, fun o ho => ?_, ?_⟩
  · rcases List.mem_cons.mp ho with rfl | ho
    · exact ⟨H.1.1, F⟩
    · exact H'.2.2.1 o ho
  · have q := H.fresh
    rw [List.mem_append] at q
    have q2 := List.nodup_append.mp H.2.2.2
    refine List.nodup_append.mpr ⟨q2.1, List.nodup_cons.mpr ⟨fun z => q (Or.inr z), q2.2.1⟩, fun x hx y hy => ?_⟩
    rcases List.mem_cons.mp hy with rfl | hy
    · intro z; exact q (Or.inl ((show x = h.size from z) ▸ hx))
    · exact q2.2.2 x hx y hy
theorem own_mem {α : Type} {L : List α} {i : Nat} {x : α} (hx : L[i]? = some x) : x ∈ L := List.mem_of_getElem? hx
theorem own_H.atO (H : own_H Z h os as) {i : Nat} {a : Addr} {C : String} {fs : List (String × String × String × Value)} (ho : os[i]? = some (a, C, fs)) : Exa Z h a C := (H.2.1 _ (own_mem ho)).2.1
theorem own_H.newO (H : own_H Z h os as) {i : Nat} {a : Addr} {C : String} {fs : List (String × String × String × Value)} (ho : os[i]? = some (a, C, fs)) : Z.heap.size ≤ a := (H.2.1 _ (own_mem ho)).1
theorem own_H.fld (H : own_H Z h os as) {i q : Nat} {a : Addr} {C O f d : String} {v : Value} {fs : List (String × String × String × Value)} (ho : os[i]? = some (a, C, fs)) (hf : fs[q]? = some (O, f, d, v)) : Fld Z h a O f d v := (H.2.1 _ (own_mem ho)).2.2.1 _ (own_mem hf)
theorem own_H.neOO (H : own_H Z h os as) {i j : Nat} {x y : own_O} (hx : os[i]? = some x) (hy : os[j]? = some y) (ij : i ≠ j) : x.1 ≠ y.1 := fun e => by
  have q := (List.nodup_append.mp H.2.2.2).1
  have h1 : (os.map (·.1))[i]? = some x.1 := by rw [List.getElem?_map, hx]; rfl
  have h2 : (os.map (·.1))[j]? = some y.1 := by rw [List.getElem?_map, hy]; rfl
  rw [← e] at h2
  have hi := (List.getElem?_eq_some_iff.mp h1).1
  exact ij ((List.getElem?_inj hi q).mp (h1.trans h2.symm))
theorem own_H.neAA (H : own_H Z h os as) {i j : Nat} {x y : own_A} (hx : as[i]? = some x) (hy : as[j]? = some y) (ij : i ≠ j) : x.1 ≠ y.1 := fun e => by
  have q := (List.nodup_append.mp H.2.2.2).2.1
  have h1 : (as.map (·.1))[i]? = some x.1 := by rw [List.getElem?_map, hx]; rfl
  have h2 : (as.map (·.1))[j]? = some y.1 := by rw [List.getElem?_map, hy]; rfl
  rw [← e] at h2
  have hi := (List.getElem?_eq_some_iff.mp h1).1
  exact ij ((List.getElem?_inj hi q).mp (h1.trans h2.symm))
theorem own_H.neOA (H : own_H Z h os as) {x : own_O} {y : own_A} (hx : x ∈ os) (hy : y ∈ as) : x.1 ≠ y.1 :=
  (List.nodup_append.mp H.2.2.2).2.2 _ (List.mem_map.mpr ⟨x, hx, rfl⟩) _ (List.mem_map.mpr ⟨y, hy, rfl⟩)
theorem own_set_map {α β : Type} {L : List α} {f : α → β} {i : Nat} {x x' : α} (hx : L[i]? = some x) (e : f x' = f x) : (L.set i x').map f = L.map f := by
  apply List.ext_getElem?
  intro j
  rw [List.getElem?_map, List.getElem?_map, List.getElem?_set]
  by_cases ij : i = j
  · subst ij; rw [hx]; have := (List.getElem?_eq_some_iff.mp hx).1; simp [this, e]
  · simp [ij]
theorem own_H.wrO (H : own_H Z h os as) {i q : Nat} {a : Addr} {C O f d : String} {v v0 : Value} {fs : List (String × String × String × Value)} (ho : os[i]? = some (a, C, fs)) (hf : fs[q]? = some (O, f, d, v0)) (W : Wr h h' a (slotOf Z O f d) v) :
    own_H Z h' (os.set i (a, C, fs.set q (O, f, d, v))) as := by
  have na := H.newO ho
  have hlen := (List.getElem?_eq_some_iff.mp ho).1
  have hql := (List.getElem?_eq_some_iff.mp hf).1
  refine ⟨?_, fun x hx => ?_, fun y hy => ?_, ?_⟩
  · refine ⟨by rw [Wr.size W]; exact H.1.1, fun b cb hb => ?_⟩
    obtain ⟨cb', e1, -, -, -, e5, -⟩ := wr_at W (H.1.2 b cb hb)
    have : b ≠ a := Nat.ne_of_lt (Nat.lt_of_lt_of_le (Array.getElem?_eq_some_iff.mp hb).1 na)
    rw [← e5 this]; exact e1
  · obtain ⟨j, hj⟩ := List.mem_iff_getElem?.mp hx
    rw [List.getElem?_set] at hj
    by_cases ij : i = j
    · subst ij
      rw [if_pos rfl, if_pos hlen] at hj
      obtain rfl := Option.some.inj hj
      obtain ⟨n1, E, F, Pw⟩ := H.2.1 _ (own_mem ho)
      refine ⟨n1, E.wr W, fun z hz => ?_, ?_⟩
      · obtain ⟨r, hr⟩ := List.mem_iff_getElem?.mp hz
        rw [List.getElem?_set] at hr
        by_cases qr : q = r
        · subst qr
          rw [if_pos rfl, if_pos hql] at hr
          obtain rfl := Option.some.inj hr
          exact Fld.same (w := v0) W (F _ (own_mem (show (a, C, fs).2.2[q]? = some (O, f, d, v0) from hf)))
        · rw [if_neg qr] at hr
          refine Fld.other W (F _ (own_mem hr)) (Or.inr fun e => ?_)
          have P2 : ∀ i j : Nat, i < j → ∀ x y, fs[i]? = some x → fs[j]? = some y → slotOf Z x.1 x.2.1 x.2.2.1 ≠ slotOf Z y.1 y.2.1 y.2.2.1 := fun i j ij x y hx hy => by
            obtain ⟨h1, rfl⟩ := List.getElem?_eq_some_iff.mp hx
            obtain ⟨h2, rfl⟩ := List.getElem?_eq_some_iff.mp hy
            exact List.pairwise_iff_getElem.mp Pw i j h1 h2 ij
          rcases Nat.lt_or_gt_of_ne qr with lt | lt
          · exact P2 q r lt _ _ hf hr e.symm
          · exact P2 r q lt _ _ hr hf e
      · have hm : (fs.set q (O, f, d, v)).map (fun f => slotOf Z f.1 f.2.1 f.2.2.1) = fs.map (fun f => slotOf Z f.1 f.2.1 f.2.2.1) := own_set_map hf rfl
        have t := List.pairwise_map.mpr Pw
        rw [← hm] at t
        exact List.pairwise_map.mp t
    · rw [if_neg ij] at hj
      obtain ⟨n1, E, F, Pw⟩ := H.2.1 _ (own_mem hj)
      exact ⟨n1, E.wr W, fun z hz => Fld.other W (F z hz) (Or.inl (H.neOO hj ho (Ne.symm ij))), Pw⟩
  · obtain ⟨n1, cl, h1, h2, h3, h4, h5⟩ := H.2.2.1 y hy
    exact ⟨n1, cl, h1.other W (Ne.symm (H.neOA (own_mem ho) hy)), h2, h3, fun q => (h4 q).wr W, h5⟩
  · rw [own_set_map (f := fun z => z.1) (x' := (a, C, fs.set q (O, f, d, v))) ho rfl]; exact H.2.2.2
theorem own_H.wrA (H : own_H Z h os as) {i q : Nat} {a : Addr} {ty : FieldType} {ad : String} {v : Value} {vs : List Value} (ha : as[i]? = some (a, ty, ad, vs)) (hq : q < vs.length) (hv : fits ty v = true) (W : Wr h h' a q v) :
    own_H Z h' os (as.set i (a, ty, ad, vs.set q v)) := by
  have na := (H.2.2.1 _ (own_mem ha)).1
  have hlen := (List.getElem?_eq_some_iff.mp ha).1
  refine ⟨?_, fun x hx => ?_, fun y hy => ?_, ?_⟩
  · refine ⟨by rw [Wr.size W]; exact H.1.1, fun b cb hb => ?_⟩
    obtain ⟨cb', e1, -, -, -, e5, -⟩ := wr_at W (H.1.2 b cb hb)
    have : b ≠ a := Nat.ne_of_lt (Nat.lt_of_lt_of_le (Array.getElem?_eq_some_iff.mp hb).1 na)
    rw [← e5 this]; exact e1
  · obtain ⟨n1, E, F, Pw⟩ := H.2.1 _ hx
    exact ⟨n1, E.wr W, fun z hz => Fld.other W (F z hz) (Or.inl (H.neOA hx (own_mem ha))), Pw⟩
  · obtain ⟨j, hj⟩ := List.mem_iff_getElem?.mp hy
    rw [List.getElem?_set] at hj
    by_cases ij : i = j
    · subst ij
      rw [if_pos rfl, if_pos hlen] at hj
      obtain rfl := Option.some.inj hj
      obtain ⟨n1, cl, h1, h2, h3, h4, h5⟩ := H.2.2.1 _ (own_mem ha)
      refine ⟨n1, _, h1.same W, ?_, fun z hz => ?_, fun q => (h4 q).wr W, h5⟩
      · show (cl.setSlot q v).slots.toList = vs.set q v
        rw [show (cl.setSlot q v).slots = cl.slots.setIfInBounds q v from rfl, Array.toList_setIfInBounds, show cl.slots.toList = vs from h2]
      · rcases List.mem_or_eq_of_mem_set hz with hz | rfl
        · exact h3 z hz
        · exact hv
    · rw [if_neg ij] at hj
      obtain ⟨n1, cl, h1, h2, h3, h4, h5⟩ := H.2.2.1 _ (own_mem hj)
      exact ⟨n1, cl, h1.other W (H.neAA hj ha (Ne.symm ij)), h2, h3, fun q => (h4 q).wr W, h5⟩
  · rw [own_set_map (f := fun z => z.1) (x' := (a, ty, ad, vs.set q v)) ha rfl]; exact H.2.2.2
theorem own_le {a b : Nat} (h : Nat.ble a b = true) : a ≤ b := Nat.le_of_ble_eq_true h
theorem own_idx {j : Int32} {q : Nat} (hj : j.toInt = (q : Int)) : j.toNatClampNeg = q := by simp only [Int32.toNatClampNeg, hj]; rfl
theorem own_in {j : Int32} {q N : Nat} (hj : j.toInt = (q : Int)) (hq : q < N) : ¬ (j < 0 ∨ N ≤ j.toNatClampNeg) := by
  rw [own_idx hj, Int32.lt_iff_toInt_lt, hj, show (0 : Int32).toInt = 0 from rfl]; omega
theorem own_len {N : Int32} {q : Nat} (hN : N.toInt = (q : Int)) : q.toInt32 = N := by
  have := Int32.toInt_lt N
  exact Int32.toInt_inj.mp ((len_toInt (by omega)).trans hN.symm)
/-! ## steps -/
theorem own_zw {vm : Vm} (hZ : Z.Warmed39 s.vm) {q : Nat} (hS : s.Since vm q) : Z.Warmed39 (s.setVm vm).vm := State.Warmed39.trans (t := s) hZ hS.1
theorem own_pure (K : own_Cx p s m meth c Z own nm bytes maxL ret)
    (f : ∀ {T : State} {L : List Loc} {vm : Vm}, Stand p l e R (s.setVm vm) m args below meth c T L k n → Z.Warmed39 (s.setVm vm).vm → (s.setVm vm).vm.findClass own = some m.cls → T.heap = h → ∀ target, Steps p.tables e below (T.setTop g') target → Steps p.tables e below (T.setTop g) target)
    (hr : own_G w p l e R s m args below meth c Z Q h k n g') : own_G w p l e R s m args below meth c Z Q h k n g := by
  intro T hX
  obtain ⟨T', v, h', k', n', hX', r1, r2, r3, r4, r5⟩ := hr T hX
  obtain ⟨L, vm, X, -, eT, -, hS⟩ := hX
  exact ⟨T', v, h', k', n', hX', r1, r2, r3, r4, fun fs q => f X (own_zw K.2.2.2.2.2.1 hS) (by rw [show (s.setVm vm).vm = vm from rfl, hS.1.alike.findClass]; exact K.2.2.2.2.2.2.1) eT _ (r5 fs q)⟩
theorem own_since {vm : Vm} {q q' : Nat} (hS : s.Since vm q) (hq : q ≤ q') : s.Since vm q' := ⟨hS.1, hS.2.mono hq⟩
theorem own_step {P : Heap → Prop} (K : own_Cx p s m meth c Z own nm bytes maxL ret)
    (f : ∀ {T : State} {L : List Loc} {vm : Vm}, Stand p l e R (s.setVm vm) m args below meth c T L k n → Z.Warmed39 (s.setVm vm).vm → (s.setVm vm).vm.findClass own = some m.cls → T.heap = h → Fr Z.heap.size L →
      ∃ (T' : State) (h' : Heap) (L' : List Loc), Stand p l e R (s.setVm vm) m args below meth c T' L' k' n' ∧ Fr Z.heap.size L' ∧ T'.heap = h' ∧ h.size ≤ h'.size ∧ P h' ∧ ∀ target, Steps p.tables e below (T'.setTop g') target → Steps p.tables e below (T.setTop g) target)
    (hr : ∀ h', P h' → own_G w p l e R s m args below meth c Z Q h' k' n' g') : own_G w p l e R s m args below meth c Z Q h k n g := by
  intro T hX
  obtain ⟨L, vm, X, N, eT, hw, hS⟩ := hX
  obtain ⟨T1, h1, L1, X1, N1, e1, z1, P1, st⟩ := f X (own_zw K.2.2.2.2.2.1 hS) (by rw [show (s.setVm vm).vm = vm from rfl, hS.1.alike.findClass]; exact K.2.2.2.2.2.2.1) eT N
  obtain ⟨T', v, h', k', n', hX', r1, r2, r3, r4, r5⟩ := hr h1 P1 T1 ⟨L1, vm, X1, N1, e1, hw, own_since hS z1⟩
  exact ⟨T', v, h', k', n', hX', r1, r2, r3, r4, fun fs q => st _ (r5 fs q)⟩
theorem own_iload (K : own_Cx p s m meth c Z own nm bytes maxL ret) {kk : Nat} {v : Int32} (hd : own_D bytes pc (.iload kk) 2 pc') (hl : Ls[kk]? = some (.val (.int v))) (hr : own_G w p l e R s m args below meth c Z Q h k n (mkF m pc' Ls (.int v :: st))) : own_G w p l e R s m args below meth c Z Q h k n (mkF m pc Ls (st)) := by
  obtain ⟨hd, rfl⟩ := hd
  exact own_pure K (fun X _ _ _ _ q => XS.iload X.here K.1 rfl (hb K.2.1 hd) hl q) hr
theorem own_iloadN (K : own_Cx p s m meth c Z own nm bytes maxL ret) {kk : Fin 4} {v : Int32} (hd : own_D bytes pc (.iload_n kk) 1 pc') (hl : Ls[kk.val]? = some (.val (.int v))) (hr : own_G w p l e R s m args below meth c Z Q h k n (mkF m pc' Ls (.int v :: st))) : own_G w p l e R s m args below meth c Z Q h k n (mkF m pc Ls (st)) := by
  obtain ⟨hd, rfl⟩ := hd
  exact own_pure K (fun X _ _ _ _ q => XS.iloadN X.here K.1 rfl (hb K.2.1 hd) hl q) hr
theorem own_istore (K : own_Cx p s m meth c Z own nm bytes maxL ret) {kk : Nat} {v : Int32} (hd : own_D bytes pc (.istore kk) 2 pc') (hl : storeLocals Ls kk (.int v) = some Ls') (hr : own_G w p l e R s m args below meth c Z Q h k n (mkF m pc' Ls' (st))) : own_G w p l e R s m args below meth c Z Q h k n (mkF m pc Ls (.int v :: st)) := by
  obtain ⟨hd, rfl⟩ := hd
  exact own_pure K (fun X _ _ _ _ q => XS.istore X.here K.1 rfl (hb K.2.1 hd) rfl hl q) hr
theorem own_istoreN (K : own_Cx p s m meth c Z own nm bytes maxL ret) {kk : Fin 4} {v : Int32} (hd : own_D bytes pc (.istore_n kk) 1 pc') (hl : storeLocals Ls kk.val (.int v) = some Ls') (hr : own_G w p l e R s m args below meth c Z Q h k n (mkF m pc' Ls' (st))) : own_G w p l e R s m args below meth c Z Q h k n (mkF m pc Ls (.int v :: st)) := by
  obtain ⟨hd, rfl⟩ := hd
  exact own_pure K (fun X _ _ _ _ q => XS.istoreN X.here K.1 rfl (hb K.2.1 hd) rfl hl q) hr
theorem own_lload (K : own_Cx p s m meth c Z own nm bytes maxL ret) {kk : Nat} {v : Int64} (hd : own_D bytes pc (.lload kk) 2 pc') (hl : Ls[kk]? = some (.val (.long v))) (hr : own_G w p l e R s m args below meth c Z Q h k n (mkF m pc' Ls (.long v :: st))) : own_G w p l e R s m args below meth c Z Q h k n (mkF m pc Ls (st)) := by
  obtain ⟨hd, rfl⟩ := hd
  exact own_pure K (fun X _ _ _ _ q => XT.lload X.here K.1 rfl (hb K.2.1 hd) hl q) hr
theorem own_lloadN (K : own_Cx p s m meth c Z own nm bytes maxL ret) {kk : Fin 4} {v : Int64} (hd : own_D bytes pc (.lload_n kk) 1 pc') (hl : Ls[kk.val]? = some (.val (.long v))) (hr : own_G w p l e R s m args below meth c Z Q h k n (mkF m pc' Ls (.long v :: st))) : own_G w p l e R s m args below meth c Z Q h k n (mkF m pc Ls (st)) := by
  obtain ⟨hd, rfl⟩ := hd
  exact own_pure K (fun X _ _ _ _ q => XT.lloadN X.here K.1 rfl (hb K.2.1 hd) hl q) hr
theorem own_lstore (K : own_Cx p s m meth c Z own nm bytes maxL ret) {kk : Nat} {v : Int64} (hd : own_D bytes pc (.lstore kk) 2 pc') (hl : storeLocals Ls kk (.long v) = some Ls') (hr : own_G w p l e R s m args below meth c Z Q h k n (mkF m pc' Ls' (st))) : own_G w p l e R s m args below meth c Z Q h k n (mkF m pc Ls (.long v :: st)) := by
  obtain ⟨hd, rfl⟩ := hd
  exact own_pure K (fun X _ _ _ _ q => XT.lstore X.here K.1 rfl (hb K.2.1 hd) rfl hl q) hr
theorem own_lstoreN (K : own_Cx p s m meth c Z own nm bytes maxL ret) {kk : Fin 4} {v : Int64} (hd : own_D bytes pc (.lstore_n kk) 1 pc') (hl : storeLocals Ls kk.val (.long v) = some Ls') (hr : own_G w p l e R s m args below meth c Z Q h k n (mkF m pc' Ls' (st))) : own_G w p l e R s m args below meth c Z Q h k n (mkF m pc Ls (.long v :: st)) := by
  obtain ⟨hd, rfl⟩ := hd
  exact own_pure K (fun X _ _ _ _ q => XT.lstoreN X.here K.1 rfl (hb K.2.1 hd) rfl hl q) hr
theorem own_dload (K : own_Cx p s m meth c Z own nm bytes maxL ret) {kk : Nat} {v : UInt64} (hd : own_D bytes pc (.dload kk) 2 pc') (hl : Ls[kk]? = some (.val (.double v))) (hr : own_G w p l e R s m args below meth c Z Q h k n (mkF m pc' Ls (.double v :: st))) : own_G w p l e R s m args below meth c Z Q h k n (mkF m pc Ls (st)) := by
  obtain ⟨hd, rfl⟩ := hd
  exact own_pure K (fun X _ _ _ _ q => XS.dload X.here K.1 rfl (hb K.2.1 hd) hl q) hr
theorem own_dloadN (K : own_Cx p s m meth c Z own nm bytes maxL ret) {kk : Fin 4} {v : UInt64} (hd : own_D bytes pc (.dload_n kk) 1 pc') (hl : Ls[kk.val]? = some (.val (.double v))) (hr : own_G w p l e R s m args below meth c Z Q h k n (mkF m pc' Ls (.double v :: st))) : own_G w p l e R s m args below meth c Z Q h k n (mkF m pc Ls (st)) := by
  obtain ⟨hd, rfl⟩ := hd
  exact own_pure K (fun X _ _ _ _ q => XS.dloadN X.here K.1 rfl (hb K.2.1 hd) hl q) hr
theorem own_dstore (K : own_Cx p s m meth c Z own nm bytes maxL ret) {kk : Nat} {v : UInt64} (hd : own_D bytes pc (.dstore kk) 2 pc') (hl : storeLocals Ls kk (.double v) = some Ls') (hr : own_G w p l e R s m args below meth c Z Q h k n (mkF m pc' Ls' (st))) : own_G w p l e R s m args below meth c Z Q h k n (mkF m pc Ls (.double v :: st)) := by
  obtain ⟨hd, rfl⟩ := hd
  exact own_pure K (fun X _ _ _ _ q => XS.dstore X.here K.1 rfl (hb K.2.1 hd) rfl hl q) hr
theorem own_dstoreN (K : own_Cx p s m meth c Z own nm bytes maxL ret) {kk : Fin 4} {v : UInt64} (hd : own_D bytes pc (.dstore_n kk) 1 pc') (hl : storeLocals Ls kk.val (.double v) = some Ls') (hr : own_G w p l e R s m args below meth c Z Q h k n (mkF m pc' Ls' (st))) : own_G w p l e R s m args below meth c Z Q h k n (mkF m pc Ls (.double v :: st)) := by
  obtain ⟨hd, rfl⟩ := hd
  exact own_pure K (fun X _ _ _ _ q => XS.dstoreN X.here K.1 rfl (hb K.2.1 hd) rfl hl q) hr
theorem own_aload (K : own_Cx p s m meth c Z own nm bytes maxL ret) {kk : Nat} {v : Value} (hd : own_D bytes pc (.aload kk) 2 pc') (hl : Ls[kk]? = some (.val v)) (hv : v.isRef = true) (hr : own_G w p l e R s m args below meth c Z Q h k n (mkF m pc' Ls (v :: st))) : own_G w p l e R s m args below meth c Z Q h k n (mkF m pc Ls (st)) := by
  obtain ⟨hd, rfl⟩ := hd
  exact own_pure K (fun X _ _ _ _ q => XS.aload X.here K.1 rfl (hb K.2.1 hd) hl hv q) hr
theorem own_aloadN (K : own_Cx p s m meth c Z own nm bytes maxL ret) {kk : Fin 4} {v : Value} (hd : own_D bytes pc (.aload_n kk) 1 pc') (hl : Ls[kk.val]? = some (.val v)) (hv : v.isRef = true) (hr : own_G w p l e R s m args below meth c Z Q h k n (mkF m pc' Ls (v :: st))) : own_G w p l e R s m args below meth c Z Q h k n (mkF m pc Ls (st)) := by
  obtain ⟨hd, rfl⟩ := hd
  exact own_pure K (fun X _ _ _ _ q => XS.aloadN X.here K.1 rfl (hb K.2.1 hd) hl hv q) hr
theorem own_astore (K : own_Cx p s m meth c Z own nm bytes maxL ret) {kk : Nat} {v : Value} (hd : own_D bytes pc (.astore kk) 2 pc') (hv : v.isRef = true) (hl : storeLocals Ls kk v = some Ls') (hr : own_G w p l e R s m args below meth c Z Q h k n (mkF m pc' Ls' (st))) : own_G w p l e R s m args below meth c Z Q h k n (mkF m pc Ls (v :: st)) := by
  obtain ⟨hd, rfl⟩ := hd
  exact own_pure K (fun X _ _ _ _ q => XS.astore X.here K.1 rfl (hb K.2.1 hd) rfl hv hl q) hr
theorem own_astoreN (K : own_Cx p s m meth c Z own nm bytes maxL ret) {kk : Fin 4} {v : Value} (hd : own_D bytes pc (.astore_n kk) 1 pc') (hv : v.isRef = true) (hl : storeLocals Ls kk.val v = some Ls') (hr : own_G w p l e R s m args below meth c Z Q h k n (mkF m pc' Ls' (st))) : own_G w p l e R s m args below meth c Z Q h k n (mkF m pc Ls (v :: st)) := by
  obtain ⟨hd, rfl⟩ := hd
  exact own_pure K (fun X _ _ _ _ q => XS.astoreN X.here K.1 rfl (hb K.2.1 hd) rfl hv hl q) hr
theorem own_iconst (K : own_Cx p s m meth c Z own nm bytes maxL ret) {i : Int} {v : Int32} (hd : own_D bytes pc (.iconst i) 1 pc') (hv : Int32.ofInt i = v) (hr : own_G w p l e R s m args below meth c Z Q h k n (mkF m pc' Ls (.int v :: st))) : own_G w p l e R s m args below meth c Z Q h k n (mkF m pc Ls st) := by
  obtain ⟨hd, rfl⟩ := hd
  subst hv
  exact own_pure K (fun X _ _ _ _ q => XS.iconst X.here K.1 rfl (hb K.2.1 hd) q) hr
theorem own_bipush (K : own_Cx p s m meth c Z own nm bytes maxL ret) {i : Int} {v : Int32} (hd : own_D bytes pc (.bipush i) 2 pc') (hv : (Int8.ofInt i).toInt32 = v) (hr : own_G w p l e R s m args below meth c Z Q h k n (mkF m pc' Ls (.int v :: st))) : own_G w p l e R s m args below meth c Z Q h k n (mkF m pc Ls st) := by
  obtain ⟨hd, rfl⟩ := hd
  subst hv
  exact own_pure K (fun X _ _ _ _ q => XS.bipush X.here K.1 rfl (hb K.2.1 hd) q) hr
theorem own_sipush (K : own_Cx p s m meth c Z own nm bytes maxL ret) {i : Int} {v : Int32} (hd : own_D bytes pc (.sipush i) 3 pc') (hv : (Int16.ofInt i).toInt32 = v) (hr : own_G w p l e R s m args below meth c Z Q h k n (mkF m pc' Ls (.int v :: st))) : own_G w p l e R s m args below meth c Z Q h k n (mkF m pc Ls st) := by
  obtain ⟨hd, rfl⟩ := hd
  subst hv
  exact own_pure K (fun X _ _ _ _ q => XS.sipush X.here K.1 rfl (hb K.2.1 hd) q) hr
theorem own_lconst (K : own_Cx p s m meth c Z own nm bytes maxL ret) {i : Fin 2} {v : Int64} (hd : own_D bytes pc (.lconst i) 1 pc') (hv : Int64.ofNat i = v) (hr : own_G w p l e R s m args below meth c Z Q h k n (mkF m pc' Ls (.long v :: st))) : own_G w p l e R s m args below meth c Z Q h k n (mkF m pc Ls st) := by
  obtain ⟨hd, rfl⟩ := hd
  subst hv
  exact own_pure K (fun X _ _ _ _ q => XT.lconst X.here K.1 rfl (hb K.2.1 hd) q) hr
theorem own_dconst0 (K : own_Cx p s m meth c Z own nm bytes maxL ret) {v : UInt64} (hd : own_D bytes pc (.dconst 0) 1 pc') (hv : FP.dconst0 = v) (hr : own_G w p l e R s m args below meth c Z Q h k n (mkF m pc' Ls (.double v :: st))) : own_G w p l e R s m args below meth c Z Q h k n (mkF m pc Ls st) := by
  obtain ⟨hd, rfl⟩ := hd
  exact own_pure K (fun X _ _ _ _ q => XS.dconst0 X.here K.1 rfl (hb K.2.1 hd) hv q) hr
theorem own_dconst1 (K : own_Cx p s m meth c Z own nm bytes maxL ret) {v : UInt64} (hd : own_D bytes pc (.dconst 1) 1 pc') (hv : FP.dconst1 = v) (hr : own_G w p l e R s m args below meth c Z Q h k n (mkF m pc' Ls (.double v :: st))) : own_G w p l e R s m args below meth c Z Q h k n (mkF m pc Ls st) := by
  obtain ⟨hd, rfl⟩ := hd
  exact own_pure K (fun X _ _ _ _ q => XS.dconst1 X.here K.1 rfl (hb K.2.1 hd) hv q) hr
theorem own_aconstNull (K : own_Cx p s m meth c Z own nm bytes maxL ret)  (hd : own_D bytes pc (.aconst_null) 1 pc') (hr : own_G w p l e R s m args below meth c Z Q h k n (mkF m pc' Ls (.null :: st))) : own_G w p l e R s m args below meth c Z Q h k n (mkF m pc Ls (st)) := by
  obtain ⟨hd, rfl⟩ := hd
  exact own_pure K (fun X _ _ _ _ q => XS.aconstNull X.here K.1 rfl (hb K.2.1 hd)  q) hr
theorem own_iadd (K : own_Cx p s m meth c Z own nm bytes maxL ret) {x y : Int32} (hd : own_D bytes pc (.iadd) 1 pc') (hr : own_G w p l e R s m args below meth c Z Q h k n (mkF m pc' Ls (.int (x + y) :: st))) : own_G w p l e R s m args below meth c Z Q h k n (mkF m pc Ls (.int y :: .int x :: st)) := by
  obtain ⟨hd, rfl⟩ := hd
  exact own_pure K (fun X _ _ _ _ q => XS.iadd X.here K.1 rfl (hb K.2.1 hd) rfl q) hr
theorem own_isub (K : own_Cx p s m meth c Z own nm bytes maxL ret) {x y : Int32} (hd : own_D bytes pc (.isub) 1 pc') (hr : own_G w p l e R s m args below meth c Z Q h k n (mkF m pc' Ls (.int (x - y) :: st))) : own_G w p l e R s m args below meth c Z Q h k n (mkF m pc Ls (.int y :: .int x :: st)) := by
  obtain ⟨hd, rfl⟩ := hd
  exact own_pure K (fun X _ _ _ _ q => XS.isub X.here K.1 rfl (hb K.2.1 hd) rfl q) hr
theorem own_iand (K : own_Cx p s m meth c Z own nm bytes maxL ret) {x y : Int32} (hd : own_D bytes pc (.iand) 1 pc') (hr : own_G w p l e R s m args below meth c Z Q h k n (mkF m pc' Ls (.int (x &&& y) :: st))) : own_G w p l e R s m args below meth c Z Q h k n (mkF m pc Ls (.int y :: .int x :: st)) := by
  obtain ⟨hd, rfl⟩ := hd
  exact own_pure K (fun X _ _ _ _ q => XS.iand X.here K.1 rfl (hb K.2.1 hd) rfl q) hr
theorem own_imul (K : own_Cx p s m meth c Z own nm bytes maxL ret) {x y : Int32} (hd : own_D bytes pc (.imul) 1 pc') (hr : own_G w p l e R s m args below meth c Z Q h k n (mkF m pc' Ls (.int (x * y) :: st))) : own_G w p l e R s m args below meth c Z Q h k n (mkF m pc Ls (.int y :: .int x :: st)) := by
  obtain ⟨hd, rfl⟩ := hd
  exact own_pure K (fun X _ _ _ _ q => XS.imul X.here K.1 rfl (hb K.2.1 hd) rfl q) hr
theorem own_ixor (K : own_Cx p s m meth c Z own nm bytes maxL ret) {x y : Int32} (hd : own_D bytes pc (.ixor) 1 pc') (hr : own_G w p l e R s m args below meth c Z Q h k n (mkF m pc' Ls (.int (x ^^^ y) :: st))) : own_G w p l e R s m args below meth c Z Q h k n (mkF m pc Ls (.int y :: .int x :: st)) := by
  obtain ⟨hd, rfl⟩ := hd
  exact own_pure K (fun X _ _ _ _ q => XT.ixor X.here K.1 rfl (hb K.2.1 hd) rfl q) hr
theorem own_ior (K : own_Cx p s m meth c Z own nm bytes maxL ret) {x y : Int32} (hd : own_D bytes pc (.ior) 1 pc') (hr : own_G w p l e R s m args below meth c Z Q h k n (mkF m pc' Ls (.int (x ||| y) :: st))) : own_G w p l e R s m args below meth c Z Q h k n (mkF m pc Ls (.int y :: .int x :: st)) := by
  obtain ⟨hd, rfl⟩ := hd
  exact own_pure K (fun X _ _ _ _ q => XT.ior X.here K.1 rfl (hb K.2.1 hd) rfl q) hr
theorem own_ishl (K : own_Cx p s m meth c Z own nm bytes maxL ret) {x y : Int32} (hd : own_D bytes pc (.ishl) 1 pc') (hr : own_G w p l e R s m args below meth c Z Q h k n (mkF m pc' Ls (.int (x <<< (y &&& 31)) :: st))) : own_G w p l e R s m args below meth c Z Q h k n (mkF m pc Ls (.int y :: .int x :: st)) := by
  obtain ⟨hd, rfl⟩ := hd
  exact own_pure K (fun X _ _ _ _ q => XT.ishl X.here K.1 rfl (hb K.2.1 hd) rfl q) hr
theorem own_ishr (K : own_Cx p s m meth c Z own nm bytes maxL ret) {x y : Int32} (hd : own_D bytes pc (.ishr) 1 pc') (hr : own_G w p l e R s m args below meth c Z Q h k n (mkF m pc' Ls (.int (x >>> (y &&& 31)) :: st))) : own_G w p l e R s m args below meth c Z Q h k n (mkF m pc Ls (.int y :: .int x :: st)) := by
  obtain ⟨hd, rfl⟩ := hd
  exact own_pure K (fun X _ _ _ _ q => XT.ishr X.here K.1 rfl (hb K.2.1 hd) rfl q) hr
theorem own_iushr (K : own_Cx p s m meth c Z own nm bytes maxL ret) {x y : Int32} (hd : own_D bytes pc (.iushr) 1 pc') (hr : own_G w p l e R s m args below meth c Z Q h k n (mkF m pc' Ls (.int (XT.ushr x y) :: st))) : own_G w p l e R s m args below meth c Z Q h k n (mkF m pc Ls (.int y :: .int x :: st)) := by
  obtain ⟨hd, rfl⟩ := hd
  exact own_pure K (fun X _ _ _ _ q => XT.iushr X.here K.1 rfl (hb K.2.1 hd) rfl q) hr
theorem own_ladd (K : own_Cx p s m meth c Z own nm bytes maxL ret) {x y : Int64} (hd : own_D bytes pc (.ladd) 1 pc') (hr : own_G w p l e R s m args below meth c Z Q h k n (mkF m pc' Ls (.long (x + y) :: st))) : own_G w p l e R s m args below meth c Z Q h k n (mkF m pc Ls (.long y :: .long x :: st)) := by
  obtain ⟨hd, rfl⟩ := hd
  exact own_pure K (fun X _ _ _ _ q => XT.ladd X.here K.1 rfl (hb K.2.1 hd) rfl q) hr
theorem own_lsub (K : own_Cx p s m meth c Z own nm bytes maxL ret) {x y : Int64} (hd : own_D bytes pc (.lsub) 1 pc') (hr : own_G w p l e R s m args below meth c Z Q h k n (mkF m pc' Ls (.long (x - y) :: st))) : own_G w p l e R s m args below meth c Z Q h k n (mkF m pc Ls (.long y :: .long x :: st)) := by
  obtain ⟨hd, rfl⟩ := hd
  exact own_pure K (fun X _ _ _ _ q => XT.lsub X.here K.1 rfl (hb K.2.1 hd) rfl q) hr
theorem own_lmul (K : own_Cx p s m meth c Z own nm bytes maxL ret) {x y : Int64} (hd : own_D bytes pc (.lmul) 1 pc') (hr : own_G w p l e R s m args below meth c Z Q h k n (mkF m pc' Ls (.long (x * y) :: st))) : own_G w p l e R s m args below meth c Z Q h k n (mkF m pc Ls (.long y :: .long x :: st)) := by
  obtain ⟨hd, rfl⟩ := hd
  exact own_pure K (fun X _ _ _ _ q => XT.lmul X.here K.1 rfl (hb K.2.1 hd) rfl q) hr
theorem own_land (K : own_Cx p s m meth c Z own nm bytes maxL ret) {x y : Int64} (hd : own_D bytes pc (.land) 1 pc') (hr : own_G w p l e R s m args below meth c Z Q h k n (mkF m pc' Ls (.long (x &&& y) :: st))) : own_G w p l e R s m args below meth c Z Q h k n (mkF m pc Ls (.long y :: .long x :: st)) := by
  obtain ⟨hd, rfl⟩ := hd
  exact own_pure K (fun X _ _ _ _ q => XT.land X.here K.1 rfl (hb K.2.1 hd) rfl q) hr
theorem own_lor (K : own_Cx p s m meth c Z own nm bytes maxL ret) {x y : Int64} (hd : own_D bytes pc (.lor) 1 pc') (hr : own_G w p l e R s m args below meth c Z Q h k n (mkF m pc' Ls (.long (x ||| y) :: st))) : own_G w p l e R s m args below meth c Z Q h k n (mkF m pc Ls (.long y :: .long x :: st)) := by
  obtain ⟨hd, rfl⟩ := hd
  exact own_pure K (fun X _ _ _ _ q => XT.lor X.here K.1 rfl (hb K.2.1 hd) rfl q) hr
theorem own_lxor (K : own_Cx p s m meth c Z own nm bytes maxL ret) {x y : Int64} (hd : own_D bytes pc (.lxor) 1 pc') (hr : own_G w p l e R s m args below meth c Z Q h k n (mkF m pc' Ls (.long (x ^^^ y) :: st))) : own_G w p l e R s m args below meth c Z Q h k n (mkF m pc Ls (.long y :: .long x :: st)) := by
  obtain ⟨hd, rfl⟩ := hd
  exact own_pure K (fun X _ _ _ _ q => XT.lxor X.here K.1 rfl (hb K.2.1 hd) rfl q) hr
theorem own_lshl (K : own_Cx p s m meth c Z own nm bytes maxL ret) {x : Int64} {y : Int32} (hd : own_D bytes pc (.lshl) 1 pc') (hr : own_G w p l e R s m args below meth c Z Q h k n (mkF m pc' Ls (.long (x <<< (y.toInt64 &&& 63)) :: st))) : own_G w p l e R s m args below meth c Z Q h k n (mkF m pc Ls (.int y :: .long x :: st)) := by
  obtain ⟨hd, rfl⟩ := hd
  exact own_pure K (fun X _ _ _ _ q => XT.lshl X.here K.1 rfl (hb K.2.1 hd) rfl q) hr
theorem own_lshr (K : own_Cx p s m meth c Z own nm bytes maxL ret) {x : Int64} {y : Int32} (hd : own_D bytes pc (.lshr) 1 pc') (hr : own_G w p l e R s m args below meth c Z Q h k n (mkF m pc' Ls (.long (x >>> (y.toInt64 &&& 63)) :: st))) : own_G w p l e R s m args below meth c Z Q h k n (mkF m pc Ls (.int y :: .long x :: st)) := by
  obtain ⟨hd, rfl⟩ := hd
  exact own_pure K (fun X _ _ _ _ q => XT.lshr X.here K.1 rfl (hb K.2.1 hd) rfl q) hr
theorem own_lushr (K : own_Cx p s m meth c Z own nm bytes maxL ret) {x : Int64} {y : Int32} (hd : own_D bytes pc (.lushr) 1 pc') (hr : own_G w p l e R s m args below meth c Z Q h k n (mkF m pc' Ls (.long (XT.ushrL x y) :: st))) : own_G w p l e R s m args below meth c Z Q h k n (mkF m pc Ls (.int y :: .long x :: st)) := by
  obtain ⟨hd, rfl⟩ := hd
  exact own_pure K (fun X _ _ _ _ q => XT.lushr X.here K.1 rfl (hb K.2.1 hd) rfl q) hr
theorem own_lcmp (K : own_Cx p s m meth c Z own nm bytes maxL ret) {x y : Int64} (hd : own_D bytes pc (.lcmp) 1 pc') (hr : own_G w p l e R s m args below meth c Z Q h k n (mkF m pc' Ls (.int (XT.cmpL x y) :: st))) : own_G w p l e R s m args below meth c Z Q h k n (mkF m pc Ls (.long y :: .long x :: st)) := by
  obtain ⟨hd, rfl⟩ := hd
  exact own_pure K (fun X _ _ _ _ q => XT.lcmp X.here K.1 rfl (hb K.2.1 hd) rfl q) hr
theorem own_idiv (K : own_Cx p s m meth c Z own nm bytes maxL ret) {x y : Int32} (hd : own_D bytes pc (.idiv) 1 pc') (hy : y ≠ 0) (hr : own_G w p l e R s m args below meth c Z Q h k n (mkF m pc' Ls (.int (x / y) :: st))) : own_G w p l e R s m args below meth c Z Q h k n (mkF m pc Ls (.int y :: .int x :: st)) := by
  obtain ⟨hd, rfl⟩ := hd
  exact own_pure K (fun X _ _ _ _ q => XS.idiv X.here K.1 rfl (hb K.2.1 hd) rfl hy q) hr
theorem own_ldiv (K : own_Cx p s m meth c Z own nm bytes maxL ret) {x y : Int64} (hd : own_D bytes pc (.ldiv) 1 pc') (hy : y ≠ 0) (hr : own_G w p l e R s m args below meth c Z Q h k n (mkF m pc' Ls (.long (x / y) :: st))) : own_G w p l e R s m args below meth c Z Q h k n (mkF m pc Ls (.long y :: .long x :: st)) := by
  obtain ⟨hd, rfl⟩ := hd
  exact own_pure K (fun X _ _ _ _ q => XT.ldiv X.here K.1 rfl (hb K.2.1 hd) rfl hy q) hr
theorem own_irem (K : own_Cx p s m meth c Z own nm bytes maxL ret) {x y : Int32} (hd : own_D bytes pc .irem 1 pc') (hy : y ≠ 0) (hr : own_G w p l e R s m args below meth c Z Q h k n (mkF m pc' Ls (.int (x % y) :: st))) : own_G w p l e R s m args below meth c Z Q h k n (mkF m pc Ls (.int y :: .int x :: st)) := by
  obtain ⟨hd, rfl⟩ := hd
  exact own_pure K (fun X _ _ _ _ q => iremM X K.1 rfl (hb K.2.1 hd) rfl hy q) hr
theorem own_ineg (K : own_Cx p s m meth c Z own nm bytes maxL ret) {x : Int32} (hd : own_D bytes pc (.ineg) 1 pc') (hr : own_G w p l e R s m args below meth c Z Q h k n (mkF m pc' Ls (.int (-x) :: st))) : own_G w p l e R s m args below meth c Z Q h k n (mkF m pc Ls (.int x :: st)) := by
  obtain ⟨hd, rfl⟩ := hd
  exact own_pure K (fun X _ _ _ _ q => XS.ineg X.here K.1 rfl (hb K.2.1 hd) rfl q) hr
theorem own_lneg (K : own_Cx p s m meth c Z own nm bytes maxL ret) {x : Int64} (hd : own_D bytes pc (.lneg) 1 pc') (hr : own_G w p l e R s m args below meth c Z Q h k n (mkF m pc' Ls (.long (-x) :: st))) : own_G w p l e R s m args below meth c Z Q h k n (mkF m pc Ls (.long x :: st)) := by
  obtain ⟨hd, rfl⟩ := hd
  exact own_pure K (fun X _ _ _ _ q => XT.lneg X.here K.1 rfl (hb K.2.1 hd) rfl q) hr
theorem own_i2l (K : own_Cx p s m meth c Z own nm bytes maxL ret) {x : Int32} (hd : own_D bytes pc (.i2l) 1 pc') (hr : own_G w p l e R s m args below meth c Z Q h k n (mkF m pc' Ls (.long (x.toInt64) :: st))) : own_G w p l e R s m args below meth c Z Q h k n (mkF m pc Ls (.int x :: st)) := by
  obtain ⟨hd, rfl⟩ := hd
  exact own_pure K (fun X _ _ _ _ q => XT.i2l X.here K.1 rfl (hb K.2.1 hd) rfl q) hr
theorem own_l2i (K : own_Cx p s m meth c Z own nm bytes maxL ret) {x : Int64} (hd : own_D bytes pc (.l2i) 1 pc') (hr : own_G w p l e R s m args below meth c Z Q h k n (mkF m pc' Ls (.int (x.toInt32) :: st))) : own_G w p l e R s m args below meth c Z Q h k n (mkF m pc Ls (.long x :: st)) := by
  obtain ⟨hd, rfl⟩ := hd
  exact own_pure K (fun X _ _ _ _ q => XT.l2i X.here K.1 rfl (hb K.2.1 hd) rfl q) hr
theorem own_i2b (K : own_Cx p s m meth c Z own nm bytes maxL ret) {x : Int32} (hd : own_D bytes pc (.i2b) 1 pc') (hr : own_G w p l e R s m args below meth c Z Q h k n (mkF m pc' Ls (.int (x.toInt8.toInt32) :: st))) : own_G w p l e R s m args below meth c Z Q h k n (mkF m pc Ls (.int x :: st)) := by
  obtain ⟨hd, rfl⟩ := hd
  exact own_pure K (fun X _ _ _ _ q => XT.i2b X.here K.1 rfl (hb K.2.1 hd) rfl q) hr
theorem own_i2c (K : own_Cx p s m meth c Z own nm bytes maxL ret) {x : Int32} (hd : own_D bytes pc (.i2c) 1 pc') (hr : own_G w p l e R s m args below meth c Z Q h k n (mkF m pc' Ls (.int (x.toUInt32.toUInt16.toUInt32.toInt32) :: st))) : own_G w p l e R s m args below meth c Z Q h k n (mkF m pc Ls (.int x :: st)) := by
  obtain ⟨hd, rfl⟩ := hd
  exact own_pure K (fun X _ _ _ _ q => XT.i2c X.here K.1 rfl (hb K.2.1 hd) rfl q) hr
theorem own_i2s (K : own_Cx p s m meth c Z own nm bytes maxL ret) {x : Int32} (hd : own_D bytes pc (.i2s) 1 pc') (hr : own_G w p l e R s m args below meth c Z Q h k n (mkF m pc' Ls (.int (x.toInt16.toInt32) :: st))) : own_G w p l e R s m args below meth c Z Q h k n (mkF m pc Ls (.int x :: st)) := by
  obtain ⟨hd, rfl⟩ := hd
  exact own_pure K (fun X _ _ _ _ q => XT.i2s X.here K.1 rfl (hb K.2.1 hd) rfl q) hr
theorem own_i2d (K : own_Cx p s m meth c Z own nm bytes maxL ret) {x : Int32} (hd : own_D bytes pc (.i2d) 1 pc') (hr : own_G w p l e R s m args below meth c Z Q h k n (mkF m pc' Ls (.double (FP.i2d x) :: st))) : own_G w p l e R s m args below meth c Z Q h k n (mkF m pc Ls (.int x :: st)) := by
  obtain ⟨hd, rfl⟩ := hd
  exact own_pure K (fun X _ _ _ _ q => XS.i2dS X.here K.1 rfl (hb K.2.1 hd) rfl rfl q) hr
theorem own_l2d (K : own_Cx p s m meth c Z own nm bytes maxL ret) {x : Int64} (hd : own_D bytes pc (.l2d) 1 pc') (hr : own_G w p l e R s m args below meth c Z Q h k n (mkF m pc' Ls (.double (FP.l2d x) :: st))) : own_G w p l e R s m args below meth c Z Q h k n (mkF m pc Ls (.long x :: st)) := by
  obtain ⟨hd, rfl⟩ := hd
  exact own_pure K (fun X _ _ _ _ q => XS.l2dS X.here K.1 rfl (hb K.2.1 hd) rfl rfl q) hr
theorem own_dneg (K : own_Cx p s m meth c Z own nm bytes maxL ret) {x : UInt64} (hd : own_D bytes pc (.dneg) 1 pc') (hr : own_G w p l e R s m args below meth c Z Q h k n (mkF m pc' Ls (.double (FP.dneg x) :: st))) : own_G w p l e R s m args below meth c Z Q h k n (mkF m pc Ls (.double x :: st)) := by
  obtain ⟨hd, rfl⟩ := hd
  exact own_pure K (fun X _ _ _ _ q => XS.dnegS X.here K.1 rfl (hb K.2.1 hd) rfl rfl q) hr
theorem own_dcmp (K : own_Cx p s m meth c Z own nm bytes maxL ret) {oo : CmpOp} {x y : UInt64} (hd : own_D bytes pc (.dcmp oo) 1 pc') (hr : own_G w p l e R s m args below meth c Z Q h k n (mkF m pc' Ls (.int (cmpValue (FP.dcmp x y) oo) :: st))) : own_G w p l e R s m args below meth c Z Q h k n (mkF m pc Ls (.double y :: .double x :: st)) := by
  obtain ⟨hd, rfl⟩ := hd
  exact own_pure K (fun X _ _ _ _ q => XS.dcmpS X.here K.1 rfl (hb K.2.1 hd) rfl rfl q) hr
theorem own_dadd (K : own_Cx p s m meth c Z own nm bytes maxL ret) {x y : UInt64} (hd : own_D bytes pc (.dadd) 1 pc') (hn : Jvm.Free.Fl.NoNaN64 (FP.dadd x y)) (hr : own_G w p l e R s m args below meth c Z Q h k n (mkF m pc' Ls (.double (FP.dadd x y) :: st))) : own_G w p l e R s m args below meth c Z Q h k n (mkF m pc Ls (.double y :: .double x :: st)) := by
  obtain ⟨hd, rfl⟩ := hd
  exact own_pure K (fun X _ _ _ _ q => XS.daddS X.here K.1 rfl (hb K.2.1 hd) rfl hn rfl q) hr
theorem own_dsub (K : own_Cx p s m meth c Z own nm bytes maxL ret) {x y : UInt64} (hd : own_D bytes pc (.dsub) 1 pc') (hn : Jvm.Free.Fl.NoNaN64 (FP.dsub x y)) (hr : own_G w p l e R s m args below meth c Z Q h k n (mkF m pc' Ls (.double (FP.dsub x y) :: st))) : own_G w p l e R s m args below meth c Z Q h k n (mkF m pc Ls (.double y :: .double x :: st)) := by
  obtain ⟨hd, rfl⟩ := hd
  exact own_pure K (fun X _ _ _ _ q => XS.dsubS X.here K.1 rfl (hb K.2.1 hd) rfl hn rfl q) hr
theorem own_dmul (K : own_Cx p s m meth c Z own nm bytes maxL ret) {x y : UInt64} (hd : own_D bytes pc (.dmul) 1 pc') (hn : Jvm.Free.Fl.NoNaN64 (FP.dmul x y)) (hr : own_G w p l e R s m args below meth c Z Q h k n (mkF m pc' Ls (.double (FP.dmul x y) :: st))) : own_G w p l e R s m args below meth c Z Q h k n (mkF m pc Ls (.double y :: .double x :: st)) := by
  obtain ⟨hd, rfl⟩ := hd
  exact own_pure K (fun X _ _ _ _ q => XS.dmulS X.here K.1 rfl (hb K.2.1 hd) rfl hn rfl q) hr
theorem own_ddiv (K : own_Cx p s m meth c Z own nm bytes maxL ret) {x y : UInt64} (hd : own_D bytes pc (.ddiv) 1 pc') (hn : Jvm.Free.Fl.NoNaN64 (FP.ddiv x y)) (hr : own_G w p l e R s m args below meth c Z Q h k n (mkF m pc' Ls (.double (FP.ddiv x y) :: st))) : own_G w p l e R s m args below meth c Z Q h k n (mkF m pc Ls (.double y :: .double x :: st)) := by
  obtain ⟨hd, rfl⟩ := hd
  exact own_pure K (fun X _ _ _ _ q => XS.ddivS X.here K.1 rfl (hb K.2.1 hd) rfl hn rfl q) hr
theorem own_dup (K : own_Cx p s m meth c Z own nm bytes maxL ret) {x : Value} (hd : own_D bytes pc (.dup) 1 pc') (hc : x.category = 1) (hr : own_G w p l e R s m args below meth c Z Q h k n (mkF m pc' Ls (x :: x :: st))) : own_G w p l e R s m args below meth c Z Q h k n (mkF m pc Ls (x :: st)) := by
  obtain ⟨hd, rfl⟩ := hd
  exact own_pure K (fun X _ _ _ _ q => XS.dup X.here K.1 rfl (hb K.2.1 hd) rfl hc q) hr
theorem own_pop (K : own_Cx p s m meth c Z own nm bytes maxL ret) {x : Value} (hd : own_D bytes pc (.pop) 1 pc') (hc : x.category = 1) (hr : own_G w p l e R s m args below meth c Z Q h k n (mkF m pc' Ls (st))) : own_G w p l e R s m args below meth c Z Q h k n (mkF m pc Ls (x :: st)) := by
  obtain ⟨hd, rfl⟩ := hd
  exact own_pure K (fun X _ _ _ _ q => XT.pop X.here K.1 rfl (hb K.2.1 hd) rfl hc q) hr
theorem own_dupX1 (K : own_Cx p s m meth c Z own nm bytes maxL ret) {x y : Value} (hd : own_D bytes pc (.dup_x1) 1 pc') (hc : x.category = 1) (hc' : y.category = 1) (hr : own_G w p l e R s m args below meth c Z Q h k n (mkF m pc' Ls (x :: y :: x :: st))) : own_G w p l e R s m args below meth c Z Q h k n (mkF m pc Ls (x :: y :: st)) := by
  obtain ⟨hd, rfl⟩ := hd
  exact own_pure K (fun X _ _ _ _ q => XT.dupX1 X.here K.1 rfl (hb K.2.1 hd) rfl hc hc' q) hr
theorem own_dup2 (K : own_Cx p s m meth c Z own nm bytes maxL ret) {x y : Value} (hd : own_D bytes pc (.dup2) 1 pc') (hc : x.category = 1) (hc' : y.category = 1) (hr : own_G w p l e R s m args below meth c Z Q h k n (mkF m pc' Ls (x :: y :: x :: y :: st))) : own_G w p l e R s m args below meth c Z Q h k n (mkF m pc Ls (x :: y :: st)) := by
  obtain ⟨hd, rfl⟩ := hd
  exact own_pure K (fun X _ _ _ _ q => XT.dup2 X.here K.1 rfl (hb K.2.1 hd) rfl hc hc' q) hr
theorem own_iinc (K : own_Cx p s m meth c Z own nm bytes maxL ret) {kk : Nat} {cst : Int} {x y : Int32} (hd : own_D bytes pc (.iinc kk cst) 3 pc') (hl : Ls[kk]? = some (.val (.int x))) (hy : x + Int32.ofInt cst = y) (hl' : storeLocals Ls kk (.int y) = some Ls') (hr : own_G w p l e R s m args below meth c Z Q h k n (mkF m pc' Ls' st)) : own_G w p l e R s m args below meth c Z Q h k n (mkF m pc Ls st) := by
  obtain ⟨hd, rfl⟩ := hd
  subst hy
  exact own_pure K (fun X _ _ _ _ q => XS.iinc X.here K.1 rfl (hb K.2.1 hd) hl hl' q) hr
theorem own_goto (K : own_Cx p s m meth c Z own nm bytes maxL ret) {off : Int} {pcF : Nat} (hd : own_B bytes pc (.goto off) off pcF pcT) (hr : own_G w p l e R s m args below meth c Z Q h k n (mkF m pcT Ls st)) : own_G w p l e R s m args below meth c Z Q h k n (mkF m pc Ls st) := by
  obtain ⟨hd, -, h1, h2⟩ := hd
  exact own_pure K (fun X _ _ _ _ q => XS.goto X.here K.1 rfl rfl (hb K.2.1 hd) h1 h2 q) hr
theorem own_ldcI (K : own_Cx p s m meth c Z own nm bytes maxL ret) {i : Nat} {v : Int32} (hd : own_D bytes pc (.ldc i) 2 pc') (wc : (Cond.constant own i v).before a0 Z = true) (hr : own_G w p l e R s m args below meth c Z Q h k n (mkF m pc' Ls (.int v :: st))) : own_G w p l e R s m args below meth c Z Q h k n (mkF m pc Ls st) := by
  obtain ⟨hd, rfl⟩ := hd
  exact own_pure K (fun X hZ ho _ _ q => X.ldcI K.1 ho (mvT hZ wc) rfl (hb K.2.1 hd) q) hr
theorem own_ldc2J (K : own_Cx p s m meth c Z own nm bytes maxL ret) {i : Nat} {v : Int64} (hd : own_D bytes pc (.ldc2_w i) 3 pc') (wc : (Cond.constantLong own i v).before a0 Z = true) (hr : own_G w p l e R s m args below meth c Z Q h k n (mkF m pc' Ls (.long v :: st))) : own_G w p l e R s m args below meth c Z Q h k n (mkF m pc Ls st) := by
  obtain ⟨hd, rfl⟩ := hd
  exact own_pure K (fun X hZ ho _ _ q => X.ldc2J K.1 ho (mvT hZ wc) rfl (hb K.2.1 hd) q) hr
theorem own_ldc2D (K : own_Cx p s m meth c Z own nm bytes maxL ret) {i : Nat} {v : UInt64} (hd : own_D bytes pc (.ldc2_w i) 3 pc') (wc : (Cond.constantDouble own i v).before a0 Z = true) (hr : own_G w p l e R s m args below meth c Z Q h k n (mkF m pc' Ls (.double v :: st))) : own_G w p l e R s m args below meth c Z Q h k n (mkF m pc Ls st) := by
  obtain ⟨hd, rfl⟩ := hd
  exact own_pure K (fun X hZ ho _ _ q => X.ldc2DoubleC K.1 ho (mvT hZ wc) (g := mkF m pc Ls st) rfl (hb K.2.1 hd) _ q) hr
theorem own_i0_eq (x : Int32) : (ifCond.holds .eq x = true) = (x = 0) := by simp [ifCond.holds, Int32.lt_iff_toInt_lt, Int32.le_iff_toInt_le]
theorem own_ii_eq (x y : Int32) : (if_icmp.holds .eq x y = true) = (x = y) := by simp [if_icmp.holds, Int32.lt_iff_toInt_lt, Int32.le_iff_toInt_le]
theorem own_ifeq (K : own_Cx p s m meth c Z own nm bytes maxL ret) {off : Int} {pcF : Nat} {x : Int32} (hd : own_B bytes pc (.ifCond .eq off) off pcF pcT) (hT : (x = 0) → own_G w p l e R s m args below meth c Z Q h k n (mkF m pcT Ls st)) (hF : ¬ (x = 0) → own_G w p l e R s m args below meth c Z Q h k n (mkF m pcF Ls st)) : own_G w p l e R s m args below meth c Z Q h k n (mkF m pc Ls (.int x :: st)) := by
  obtain ⟨hd, rfl, h1, h2⟩ := hd
  by_cases q : ifCond.holds .eq x = true
  · exact own_pure K (fun X _ _ _ _ r => XS.ifYes X.here K.1 rfl rfl (hb K.2.1 hd) rfl q h1 h2 r) (hT ((own_i0_eq x).mp q))
  · exact own_pure K (fun X _ _ _ _ r => XS.ifNo X.here K.1 rfl (hb K.2.1 hd) rfl (Bool.eq_false_iff.mpr q) r) (hF fun z => q ((own_i0_eq x).mpr z))
theorem own_icmpeq (K : own_Cx p s m meth c Z own nm bytes maxL ret) {off : Int} {pcF : Nat} {x y : Int32} (hd : own_B bytes pc (.if_icmp .eq off) off pcF pcT) (hT : (x = y) → own_G w p l e R s m args below meth c Z Q h k n (mkF m pcT Ls st)) (hF : ¬ (x = y) → own_G w p l e R s m args below meth c Z Q h k n (mkF m pcF Ls st)) : own_G w p l e R s m args below meth c Z Q h k n (mkF m pc Ls (.int y :: .int x :: st)) := by
  obtain ⟨hd, rfl, h1, h2⟩ := hd
  by_cases q : if_icmp.holds .eq x y = true
  · exact own_pure K (fun X _ _ _ _ r => XS.icmpYes X.here K.1 rfl rfl (hb K.2.1 hd) rfl q h1 h2 r) (hT ((own_ii_eq x y).mp q))
  · exact own_pure K (fun X _ _ _ _ r => XS.icmpNo X.here K.1 rfl (hb K.2.1 hd) rfl (Bool.eq_false_iff.mpr q) r) (hF fun z => q ((own_ii_eq x y).mpr z))
theorem own_i0_ne (x : Int32) : (ifCond.holds .ne x = true) = (x ≠ 0) := by simp [ifCond.holds, Int32.lt_iff_toInt_lt, Int32.le_iff_toInt_le]
theorem own_ii_ne (x y : Int32) : (if_icmp.holds .ne x y = true) = (x ≠ y) := by simp [if_icmp.holds, Int32.lt_iff_toInt_lt, Int32.le_iff_toInt_le]
theorem own_ifne (K : own_Cx p s m meth c Z own nm bytes maxL ret) {off : Int} {pcF : Nat} {x : Int32} (hd : own_B bytes pc (.ifCond .ne off) off pcF pcT) (hT : (x ≠ 0) → own_G w p l e R s m args below meth c Z Q h k n (mkF m pcT Ls st)) (hF : ¬ (x ≠ 0) → own_G w p l e R s m args below meth c Z Q h k n (mkF m pcF Ls st)) : own_G w p l e R s m args below meth c Z Q h k n (mkF m pc Ls (.int x :: st)) := by
  obtain ⟨hd, rfl, h1, h2⟩ := hd
  by_cases q : ifCond.holds .ne x = true
  · exact own_pure K (fun X _ _ _ _ r => XS.ifYes X.here K.1 rfl rfl (hb K.2.1 hd) rfl q h1 h2 r) (hT ((own_i0_ne x).mp q))
  · exact own_pure K (fun X _ _ _ _ r => XS.ifNo X.here K.1 rfl (hb K.2.1 hd) rfl (Bool.eq_false_iff.mpr q) r) (hF fun z => q ((own_i0_ne x).mpr z))
theorem own_icmpne (K : own_Cx p s m meth c Z own nm bytes maxL ret) {off : Int} {pcF : Nat} {x y : Int32} (hd : own_B bytes pc (.if_icmp .ne off) off pcF pcT) (hT : (x ≠ y) → own_G w p l e R s m args below meth c Z Q h k n (mkF m pcT Ls st)) (hF : ¬ (x ≠ y) → own_G w p l e R s m args below meth c Z Q h k n (mkF m pcF Ls st)) : own_G w p l e R s m args below meth c Z Q h k n (mkF m pc Ls (.int y :: .int x :: st)) := by
  obtain ⟨hd, rfl, h1, h2⟩ := hd
  by_cases q : if_icmp.holds .ne x y = true
  · exact own_pure K (fun X _ _ _ _ r => XS.icmpYes X.here K.1 rfl rfl (hb K.2.1 hd) rfl q h1 h2 r) (hT ((own_ii_ne x y).mp q))
  · exact own_pure K (fun X _ _ _ _ r => XS.icmpNo X.here K.1 rfl (hb K.2.1 hd) rfl (Bool.eq_false_iff.mpr q) r) (hF fun z => q ((own_ii_ne x y).mpr z))
theorem own_i0_lt (x : Int32) : (ifCond.holds .lt x = true) = (x.toInt < 0) := by simp [ifCond.holds, Int32.lt_iff_toInt_lt, Int32.le_iff_toInt_le]
theorem own_ii_lt (x y : Int32) : (if_icmp.holds .lt x y = true) = (x.toInt < y.toInt) := by simp [if_icmp.holds, Int32.lt_iff_toInt_lt, Int32.le_iff_toInt_le]
theorem own_iflt (K : own_Cx p s m meth c Z own nm bytes maxL ret) {off : Int} {pcF : Nat} {x : Int32} (hd : own_B bytes pc (.ifCond .lt off) off pcF pcT) (hT : (x.toInt < 0) → own_G w p l e R s m args below meth c Z Q h k n (mkF m pcT Ls st)) (hF : ¬ (x.toInt < 0) → own_G w p l e R s m args below meth c Z Q h k n (mkF m pcF Ls st)) : own_G w p l e R s m args below meth c Z Q h k n (mkF m pc Ls (.int x :: st)) := by
  obtain ⟨hd, rfl, h1, h2⟩ := hd
  by_cases q : ifCond.holds .lt x = true
  · exact own_pure K (fun X _ _ _ _ r => XS.ifYes X.here K.1 rfl rfl (hb K.2.1 hd) rfl q h1 h2 r) (hT ((own_i0_lt x).mp q))
  · exact own_pure K (fun X _ _ _ _ r => XS.ifNo X.here K.1 rfl (hb K.2.1 hd) rfl (Bool.eq_false_iff.mpr q) r) (hF fun z => q ((own_i0_lt x).mpr z))
theorem own_icmplt (K : own_Cx p s m meth c Z own nm bytes maxL ret) {off : Int} {pcF : Nat} {x y : Int32} (hd : own_B bytes pc (.if_icmp .lt off) off pcF pcT) (hT : (x.toInt < y.toInt) → own_G w p l e R s m args below meth c Z Q h k n (mkF m pcT Ls st)) (hF : ¬ (x.toInt < y.toInt) → own_G w p l e R s m args below meth c Z Q h k n (mkF m pcF Ls st)) : own_G w p l e R s m args below meth c Z Q h k n (mkF m pc Ls (.int y :: .int x :: st)) := by
  obtain ⟨hd, rfl, h1, h2⟩ := hd
  by_cases q : if_icmp.holds .lt x y = true
  · exact own_pure K (fun X _ _ _ _ r => XS.icmpYes X.here K.1 rfl rfl (hb K.2.1 hd) rfl q h1 h2 r) (hT ((own_ii_lt x y).mp q))
  · exact own_pure K (fun X _ _ _ _ r => XS.icmpNo X.here K.1 rfl (hb K.2.1 hd) rfl (Bool.eq_false_iff.mpr q) r) (hF fun z => q ((own_ii_lt x y).mpr z))
theorem own_i0_ge (x : Int32) : (ifCond.holds .ge x = true) = (0 ≤ x.toInt) := by simp [ifCond.holds, Int32.lt_iff_toInt_lt, Int32.le_iff_toInt_le]
theorem own_ii_ge (x y : Int32) : (if_icmp.holds .ge x y = true) = (y.toInt ≤ x.toInt) := by simp [if_icmp.holds, Int32.lt_iff_toInt_lt, Int32.le_iff_toInt_le]
theorem own_ifge (K : own_Cx p s m meth c Z own nm bytes maxL ret) {off : Int} {pcF : Nat} {x : Int32} (hd : own_B bytes pc (.ifCond .ge off) off pcF pcT) (hT : (0 ≤ x.toInt) → own_G w p l e R s m args below meth c Z Q h k n (mkF m pcT Ls st)) (hF : ¬ (0 ≤ x.toInt) → own_G w p l e R s m args below meth c Z Q h k n (mkF m pcF Ls st)) : own_G w p l e R s m args below meth c Z Q h k n (mkF m pc Ls (.int x :: st)) := by
  obtain ⟨hd, rfl, h1, h2⟩ := hd
  by_cases q : ifCond.holds .ge x = true
  · exact own_pure K (fun X _ _ _ _ r => XS.ifYes X.here K.1 rfl rfl (hb K.2.1 hd) rfl q h1 h2 r) (hT ((own_i0_ge x).mp q))
  · exact own_pure K (fun X _ _ _ _ r => XS.ifNo X.here K.1 rfl (hb K.2.1 hd) rfl (Bool.eq_false_iff.mpr q) r) (hF fun z => q ((own_i0_ge x).mpr z))
theorem own_icmpge (K : own_Cx p s m meth c Z own nm bytes maxL ret) {off : Int} {pcF : Nat} {x y : Int32} (hd : own_B bytes pc (.if_icmp .ge off) off pcF pcT) (hT : (y.toInt ≤ x.toInt) → own_G w p l e R s m args below meth c Z Q h k n (mkF m pcT Ls st)) (hF : ¬ (y.toInt ≤ x.toInt) → own_G w p l e R s m args below meth c Z Q h k n (mkF m pcF Ls st)) : own_G w p l e R s m args below meth c Z Q h k n (mkF m pc Ls (.int y :: .int x :: st)) := by
  obtain ⟨hd, rfl, h1, h2⟩ := hd
  by_cases q : if_icmp.holds .ge x y = true
  · exact own_pure K (fun X _ _ _ _ r => XS.icmpYes X.here K.1 rfl rfl (hb K.2.1 hd) rfl q h1 h2 r) (hT ((own_ii_ge x y).mp q))
  · exact own_pure K (fun X _ _ _ _ r => XS.icmpNo X.here K.1 rfl (hb K.2.1 hd) rfl (Bool.eq_false_iff.mpr q) r) (hF fun z => q ((own_ii_ge x y).mpr z))
theorem own_i0_gt (x : Int32) : (ifCond.holds .gt x = true) = (0 < x.toInt) := by simp [ifCond.holds, Int32.lt_iff_toInt_lt, Int32.le_iff_toInt_le]
theorem own_ii_gt (x y : Int32) : (if_icmp.holds .gt x y = true) = (y.toInt < x.toInt) := by simp [if_icmp.holds, Int32.lt_iff_toInt_lt, Int32.le_iff_toInt_le]
theorem own_ifgt (K : own_Cx p s m meth c Z own nm bytes maxL ret) {off : Int} {pcF : Nat} {x : Int32} (hd : own_B bytes pc (.ifCond .gt off) off pcF pcT) (hT : (0 < x.toInt) → own_G w p l e R s m args below meth c Z Q h k n (mkF m pcT Ls st)) (hF : ¬ (0 < x.toInt) → own_G w p l e R s m args below meth c Z Q h k n (mkF m pcF Ls st)) : own_G w p l e R s m args below meth c Z Q h k n (mkF m pc Ls (.int x :: st)) := by
  obtain ⟨hd, rfl, h1, h2⟩ := hd
  by_cases q : ifCond.holds .gt x = true
  · exact own_pure K (fun X _ _ _ _ r => XS.ifYes X.here K.1 rfl rfl (hb K.2.1 hd) rfl q h1 h2 r) (hT ((own_i0_gt x).mp q))
  · exact own_pure K (fun X _ _ _ _ r => XS.ifNo X.here K.1 rfl (hb K.2.1 hd) rfl (Bool.eq_false_iff.mpr q) r) (hF fun z => q ((own_i0_gt x).mpr z))
theorem own_icmpgt (K : own_Cx p s m meth c Z own nm bytes maxL ret) {off : Int} {pcF : Nat} {x y : Int32} (hd : own_B bytes pc (.if_icmp .gt off) off pcF pcT) (hT : (y.toInt < x.toInt) → own_G w p l e R s m args below meth c Z Q h k n (mkF m pcT Ls st)) (hF : ¬ (y.toInt < x.toInt) → own_G w p l e R s m args below meth c Z Q h k n (mkF m pcF Ls st)) : own_G w p l e R s m args below meth c Z Q h k n (mkF m pc Ls (.int y :: .int x :: st)) := by
  obtain ⟨hd, rfl, h1, h2⟩ := hd
  by_cases q : if_icmp.holds .gt x y = true
  · exact own_pure K (fun X _ _ _ _ r => XS.icmpYes X.here K.1 rfl rfl (hb K.2.1 hd) rfl q h1 h2 r) (hT ((own_ii_gt x y).mp q))
  · exact own_pure K (fun X _ _ _ _ r => XS.icmpNo X.here K.1 rfl (hb K.2.1 hd) rfl (Bool.eq_false_iff.mpr q) r) (hF fun z => q ((own_ii_gt x y).mpr z))
theorem own_i0_le (x : Int32) : (ifCond.holds .le x = true) = (x.toInt ≤ 0) := by simp [ifCond.holds, Int32.lt_iff_toInt_lt, Int32.le_iff_toInt_le]
theorem own_ii_le (x y : Int32) : (if_icmp.holds .le x y = true) = (x.toInt ≤ y.toInt) := by simp [if_icmp.holds, Int32.lt_iff_toInt_lt, Int32.le_iff_toInt_le]
theorem own_ifle (K : own_Cx p s m meth c Z own nm bytes maxL ret) {off : Int} {pcF : Nat} {x : Int32} (hd : own_B bytes pc (.ifCond .le off) off pcF pcT) (hT : (x.toInt ≤ 0) → own_G w p l e R s m args below meth c Z Q h k n (mkF m pcT Ls st)) (hF : ¬ (x.toInt ≤ 0) → own_G w p l e R s m args below meth c Z Q h k n (mkF m pcF Ls st)) : own_G w p l e R s m args below meth c Z Q h k n (mkF m pc Ls (.int x :: st)) := by
  obtain ⟨hd, rfl, h1, h2⟩ := hd
  by_cases q : ifCond.holds .le x = true
  · exact own_pure K (fun X _ _ _ _ r => XS.ifYes X.here K.1 rfl rfl (hb K.2.1 hd) rfl q h1 h2 r) (hT ((own_i0_le x).mp q))
  · exact own_pure K (fun X _ _ _ _ r => XS.ifNo X.here K.1 rfl (hb K.2.1 hd) rfl (Bool.eq_false_iff.mpr q) r) (hF fun z => q ((own_i0_le x).mpr z))
theorem own_icmple (K : own_Cx p s m meth c Z own nm bytes maxL ret) {off : Int} {pcF : Nat} {x y : Int32} (hd : own_B bytes pc (.if_icmp .le off) off pcF pcT) (hT : (x.toInt ≤ y.toInt) → own_G w p l e R s m args below meth c Z Q h k n (mkF m pcT Ls st)) (hF : ¬ (x.toInt ≤ y.toInt) → own_G w p l e R s m args below meth c Z Q h k n (mkF m pcF Ls st)) : own_G w p l e R s m args below meth c Z Q h k n (mkF m pc Ls (.int y :: .int x :: st)) := by
  obtain ⟨hd, rfl, h1, h2⟩ := hd
  by_cases q : if_icmp.holds .le x y = true
  · exact own_pure K (fun X _ _ _ _ r => XS.icmpYes X.here K.1 rfl rfl (hb K.2.1 hd) rfl q h1 h2 r) (hT ((own_ii_le x y).mp q))
  · exact own_pure K (fun X _ _ _ _ r => XS.icmpNo X.here K.1 rfl (hb K.2.1 hd) rfl (Bool.eq_false_iff.mpr q) r) (hF fun z => q ((own_ii_le x y).mpr z))
theorem own_ifnullN (K : own_Cx p s m meth c Z own nm bytes maxL ret) {off : Int} {pcF : Nat} (hd : own_B bytes pc (.ifnull off) off pcF pcT) (hr : own_G w p l e R s m args below meth c Z Q h k n (mkF m pcT Ls st)) : own_G w p l e R s m args below meth c Z Q h k n (mkF m pc Ls (.null :: st)) := by
  obtain ⟨hd, rfl, h1, h2⟩ := hd
  exact own_pure K (fun X _ _ _ _ r => XS.ifnullYes X.here K.1 rfl rfl (hb K.2.1 hd) rfl h1 h2 r) hr
theorem own_ifnullR (K : own_Cx p s m meth c Z own nm bytes maxL ret) {off : Int} {pcF : Nat} {b : Addr} (hd : own_B bytes pc (.ifnull off) off pcF pcT) (hr : own_G w p l e R s m args below meth c Z Q h k n (mkF m pcF Ls st)) : own_G w p l e R s m args below meth c Z Q h k n (mkF m pc Ls (.ref b :: st)) := by
  obtain ⟨hd, rfl, h1, h2⟩ := hd
  exact own_pure K (fun X _ _ _ _ r => XS.ifnullNo X.here K.1 rfl (hb K.2.1 hd) rfl r) hr
theorem own_ifnonnullN (K : own_Cx p s m meth c Z own nm bytes maxL ret) {off : Int} {pcF : Nat} (hd : own_B bytes pc (.ifnonnull off) off pcF pcT) (hr : own_G w p l e R s m args below meth c Z Q h k n (mkF m pcF Ls st)) : own_G w p l e R s m args below meth c Z Q h k n (mkF m pc Ls (.null :: st)) := by
  obtain ⟨hd, rfl, h1, h2⟩ := hd
  exact own_pure K (fun X _ _ _ _ r => XT.ifnonnullNo X.here K.1 rfl (hb K.2.1 hd) rfl r) hr
theorem own_ifnonnullR (K : own_Cx p s m meth c Z own nm bytes maxL ret) {off : Int} {pcF : Nat} {b : Addr} (hd : own_B bytes pc (.ifnonnull off) off pcF pcT) (hr : own_G w p l e R s m args below meth c Z Q h k n (mkF m pcT Ls st)) : own_G w p l e R s m args below meth c Z Q h k n (mkF m pc Ls (.ref b :: st)) := by
  obtain ⟨hd, rfl, h1, h2⟩ := hd
  exact own_pure K (fun X _ _ _ _ r => XT.ifnonnullYes X.here K.1 rfl rfl (hb K.2.1 hd) rfl h1 h2 r) hr
theorem own_acmpeq (K : own_Cx p s m meth c Z own nm bytes maxL ret) {off : Int} {pcF : Nat} {x y : Value} (hd : own_B bytes pc (.if_acmp .eq off) off pcF pcT) (h1' : x.isRef = true) (h2' : y.isRef = true) (hT : (x = y) → own_G w p l e R s m args below meth c Z Q h k n (mkF m pcT Ls st)) (hF : ¬ (x = y) → own_G w p l e R s m args below meth c Z Q h k n (mkF m pcF Ls st)) : own_G w p l e R s m args below meth c Z Q h k n (mkF m pc Ls (y :: x :: st)) := by
  obtain ⟨hd, rfl, h1, h2⟩ := hd
  by_cases q : x = y
  · exact own_pure K (fun X _ _ _ _ r => XT.acmpYes X.here K.1 rfl rfl (hb K.2.1 hd) rfl h1' h2' (decide_eq_true q) h1 h2 r) (hT q)
  · exact own_pure K (fun X _ _ _ _ r => XT.acmpNo X.here K.1 rfl (hb K.2.1 hd) rfl h1' h2' (decide_eq_false q) r) (hF q)
theorem own_acmpne (K : own_Cx p s m meth c Z own nm bytes maxL ret) {off : Int} {pcF : Nat} {x y : Value} (hd : own_B bytes pc (.if_acmp .ne off) off pcF pcT) (h1' : x.isRef = true) (h2' : y.isRef = true) (hT : (x ≠ y) → own_G w p l e R s m args below meth c Z Q h k n (mkF m pcT Ls st)) (hF : ¬ (x ≠ y) → own_G w p l e R s m args below meth c Z Q h k n (mkF m pcF Ls st)) : own_G w p l e R s m args below meth c Z Q h k n (mkF m pc Ls (y :: x :: st)) := by
  obtain ⟨hd, rfl, h1, h2⟩ := hd
  by_cases q : x ≠ y
  · exact own_pure K (fun X _ _ _ _ r => XT.acmpYes X.here K.1 rfl rfl (hb K.2.1 hd) rfl h1' h2' (decide_eq_true q) h1 h2 r) (hT q)
  · exact own_pure K (fun X _ _ _ _ r => XT.acmpNo X.here K.1 rfl (hb K.2.1 hd) rfl h1' h2' (decide_eq_false q) r) (hF q)
theorem own_getfield (K : own_Cx p s m meth c Z own nm bytes maxL ret) {i j q : Nat} {R0 O f d host C : String} {v : Value} {a : Addr} {fs : List (String × String × String × Value)} (hd : own_D bytes pc (.getfield i) 3 pc') (wl : (Cond.fieldLink own i R0 f d).before a0 Z = true ∨ (Cond.fieldLinkNest own i R0 f d host).before a0 Z = true) (via : Via Z R0 O f d) (H : own_H Z h os as) (ho : os[j]? = some (a, C, fs)) (hf : fs[q]? = some (O, f, d, v)) (hr : own_G w p l e R s m args below meth c Z Q h k n (mkF m pc' Ls (v :: st))) : own_G w p l e R s m args below meth c Z Q h k n (mkF m pc Ls (.ref a :: st)) := by
  obtain ⟨hd, rfl⟩ := hd
  refine own_step K (P := fun h' => h' = h) (fun X hZ hw eT N => ?_) (fun h' e => by subst e; exact hr)
  obtain ⟨T', X', e', st⟩ := getF X K.1 hZ hw wl via eT (H.fld ho hf) (g := mkF m pc Ls (.ref a :: st)) rfl rfl (hb K.2.1 hd)
  exact ⟨T', _, _, X', N, e', Nat.le_refl _, rfl, st⟩
theorem own_putfield (K : own_Cx p s m meth c Z own nm bytes maxL ret) {i j q kk : Nat} {R0 O f d host C : String} {v v0 : Value} {a : Addr} {fs : List (String × String × String × Value)} {ty : FieldType} (hd : own_D bytes pc (.putfield i) 3 pc') (wl : (Cond.fieldLink own i R0 f d).before a0 Z = true ∨ (Cond.fieldLinkNest own i R0 f d host).before a0 Z = true) (via : Via Z R0 O f d) (H : own_H Z h os as) (ho : os[j]? = some (a, C, fs)) (hf : fs[q]? = some (O, f, d, v0))
    (L : (Cond.lays C O f d).before a0 Z = true ∨ ((Cond.laysFinal C O f d).before a0 Z = true ∧ own = O ∧ nm = "<init>")) (wi : (Cond.instantiable C kk).before a0 Z = true) (hty : parseFieldDescriptor d = some ty) (hn : narrow ty v = v) (hfit : fits ty v = true) (hr : ∀ h', own_H Z h' (os.set j (a, C, fs.set q (O, f, d, v))) as → own_G w p l e R s m args below meth c Z Q h' k n (mkF m pc' Ls st)) : own_G w p l e R s m args below meth c Z Q h k n (mkF m pc Ls (v :: .ref a :: st)) := by
  obtain ⟨hd, rfl⟩ := hd
  refine own_step K (P := fun h' => own_H Z h' (os.set j (a, C, fs.set q (O, f, d, v))) as) (fun X hZ hw eT N => ?_) hr
  obtain ⟨T', h', X', e', W, st⟩ := putF X K.1 hZ hw wl via eT (H.fld ho hf) (H.atO ho) (L.imp id (fun z => ⟨z.1, z.2.1, K.2.2.2.2.2.2.2.trans z.2.2⟩)) wi hty hn hfit (g := mkF m pc Ls (v :: .ref a :: st)) rfl rfl (hb K.2.1 hd)
  exact ⟨T', h', _, X', Fr.snoc X' N (H.newO ho), e', Nat.le_of_eq (Wr.size W).symm, H.wrO ho hf W, st⟩
theorem own_new (K : own_Cx p s m meth c Z own nm bytes maxL ret) {i kk : Nat} {C : String} {fs : List (String × String × String × Value)} (hd : own_D bytes pc (.new i) 3 pc') (w1 : (Cond.classLink own i C).before a0 Z = true) (w2 : (Cond.instantiable C kk).before a0 Z = true) (w3 : (Cond.initialized C).before a0 Z = true) (H : own_H Z h os as)
    (hF : ∀ f ∈ fs, Laid Z a0 C f.1 f.2.1 f.2.2.1 ∧ ∃ ty, parseFieldDescriptor f.2.2.1 = some ty ∧ f.2.2.2 = defaultValue ty) (hP : fs.Pairwise (fun f g => slotOf Z f.1 f.2.1 f.2.2.1 ≠ slotOf Z g.1 g.2.1 g.2.2.1)) (hc : k + 1 ≤ R.cells) (hl : n + kk ≤ R.slots)
    (hr : ∀ h' a, own_H Z h' ((a, C, fs) :: os) as → own_G w p l e R s m args below meth c Z Q h' (k + 1) (n + kk) (mkF m pc' Ls (.ref a :: st))) : own_G w p l e R s m args below meth c Z Q h k n (mkF m pc Ls st) := by
  obtain ⟨hd, rfl⟩ := hd
  refine own_step K (P := fun h' => own_H Z h' ((h.size, C, fs) :: os) as) (fun X hZ hw eT N => ?_) (fun h' H' => hr h' _ H')
  obtain ⟨T', h', X', e', E, A, D, -, st⟩ := newO X K.1 hZ hw w1 w2 w3 eT (g := mkF m pc Ls st) rfl (hb K.2.1 hd) hc hl
  exact ⟨T', h', _, X', N, e', E.1, H.addO E ⟨A, fun f hf => by obtain ⟨hL, ty, t1, t2⟩ := hF f hf; show Fld Z h' h.size f.1 f.2.1 f.2.2.1 f.2.2.2; rw [t2]; exact D hL t1, hP⟩, st⟩
theorem own_newarray (K : own_Cx p s m meth c Z own nm bytes maxL ret) {aty : ArrayType} {ty : FieldType} {N : Int32} {q : Nat} {ad : String} {vs : List Value} (hd : own_D bytes pc (.newarray aty) 2 pc') (hty : newarray.typeOf aty = ty) (w1 : (Cond.arrayClass ty).before a0 Z = true) (H : own_H Z h os as) (hN : N.toInt = (q : Int)) (had : "[" ++ ty.toString = ad) (hvs : vs = List.replicate q (defaultValue ty)) (hq : q * 8 ≤ 536870912) (hc : k + 1 ≤ R.cells) (hl : n + q ≤ R.slots)
    (hr : ∀ h' a, own_H Z h' os ((a, ty, ad, vs) :: as) → own_G w p l e R s m args below meth c Z Q h' (k + 1) (n + q) (mkF m pc' Ls (.ref a :: st))) : own_G w p l e R s m args below meth c Z Q h k n (mkF m pc Ls (.int N :: st)) := by
  obtain ⟨hd, rfl⟩ := hd
  subst hty
  refine own_step K (P := fun h' => own_H Z h' os ((h.size, newarray.typeOf aty, ad, vs) :: as)) (fun X hZ hw eT N => ?_) (fun h' H' => hr h' _ H')
  have hNq := own_idx hN
  obtain ⟨T', h', cA, X', e', E, A, Ex, st⟩ := newPE X K.1 hZ w1 eT (g := mkF m pc Ls (.int _ :: st)) rfl (hb K.2.1 hd) rfl (by rw [Int32.lt_iff_toInt_lt, hN, show (0 : Int32).toInt = 0 from rfl]; omega) (cap := q) (Nat.le_of_eq hNq) hq hc hl had
  refine ⟨T', h', _, X', N, e', E.1, H.addA E ⟨_, A, ?_, ?_, fun _ => Ex, fun C hC => ?_⟩, st⟩
  · show (newA cA (newarray.typeOf aty) _).slots.toList = vs
    simp [newA, hNq, hvs]
  · intro v hv
    rw [show v = defaultValue (newarray.typeOf aty) from List.eq_of_mem_replicate (hvs ▸ hv)]
    cases aty <;> rfl
  · cases aty <;> cases hC
theorem own_iaload (K : own_Cx p s m meth c Z own nm bytes maxL ret) {i q : Nat} {a : Addr} {ad : String} {vs : List Value} {v : Value} {j : Int32} (hd : own_D bytes pc .iaload 1 pc') (H : own_H Z h os as) (ha : as[i]? = some (a, .int, ad, vs)) (hj : j.toInt = (q : Int)) (hv : vs[q]? = some v) (hr : own_G w p l e R s m args below meth c Z Q h k n (mkF m pc' Ls (v :: st))) : own_G w p l e R s m args below meth c Z Q h k n (mkF m pc Ls (.int j :: .ref a :: st)) := by
  obtain ⟨hd, rfl⟩ := hd
  obtain ⟨-, cl, A, e1, -⟩ := H.2.2.1 _ (own_mem ha)
  have hq := (List.getElem?_eq_some_iff.mp hv).1
  have hsz : cl.slots.size = vs.length := by rw [← Array.length_toList]; exact congrArg List.length e1
  exact own_pure K (fun X hZ _ eT _ r => X.iaload K.1 (by rw [eT]; exact A.1) (State.isArrayOf_alike hZ.alike A.2.1) A.2.2 (by rw [hsz]; exact own_in hj hq) (by rw [own_idx hj, ← Array.getElem?_toList]; exact (show cl.slots.toList = vs from e1) ▸ hv) (g := mkF m pc Ls (.int j :: .ref a :: st)) rfl rfl (hb K.2.1 hd) _ r) hr
theorem own_laload (K : own_Cx p s m meth c Z own nm bytes maxL ret) {i q : Nat} {a : Addr} {ad : String} {vs : List Value} {v : Value} {j : Int32} (hd : own_D bytes pc .laload 1 pc') (H : own_H Z h os as) (ha : as[i]? = some (a, .long, ad, vs)) (hj : j.toInt = (q : Int)) (hv : vs[q]? = some v) (hr : own_G w p l e R s m args below meth c Z Q h k n (mkF m pc' Ls (v :: st))) : own_G w p l e R s m args below meth c Z Q h k n (mkF m pc Ls (.int j :: .ref a :: st)) := by
  obtain ⟨hd, rfl⟩ := hd
  obtain ⟨-, cl, A, e1, -⟩ := H.2.2.1 _ (own_mem ha)
  have hq := (List.getElem?_eq_some_iff.mp hv).1
  have hsz : cl.slots.size = vs.length := by rw [← Array.length_toList]; exact congrArg List.length e1
  exact own_pure K (fun X hZ _ eT _ r => X.laload K.1 (by rw [eT]; exact A.1) (State.isArrayOf_alike hZ.alike A.2.1) A.2.2 (by rw [hsz]; exact own_in hj hq) (by rw [own_idx hj, ← Array.getElem?_toList]; exact (show cl.slots.toList = vs from e1) ▸ hv) (g := mkF m pc Ls (.int j :: .ref a :: st)) rfl rfl (hb K.2.1 hd) _ r) hr
theorem own_daload (K : own_Cx p s m meth c Z own nm bytes maxL ret) {i q : Nat} {a : Addr} {ad : String} {vs : List Value} {v : Value} {j : Int32} (hd : own_D bytes pc .daload 1 pc') (H : own_H Z h os as) (ha : as[i]? = some (a, .double, ad, vs)) (hj : j.toInt = (q : Int)) (hv : vs[q]? = some v) (hr : own_G w p l e R s m args below meth c Z Q h k n (mkF m pc' Ls (v :: st))) : own_G w p l e R s m args below meth c Z Q h k n (mkF m pc Ls (.int j :: .ref a :: st)) := by
  obtain ⟨hd, rfl⟩ := hd
  obtain ⟨-, cl, A, e1, -⟩ := H.2.2.1 _ (own_mem ha)
  have hq := (List.getElem?_eq_some_iff.mp hv).1
  have hsz : cl.slots.size = vs.length := by rw [← Array.length_toList]; exact congrArg List.length e1
  exact own_pure K (fun X hZ _ eT _ r => X.daload K.1 (by rw [eT]; exact A.1) (State.isArrayOf_alike hZ.alike A.2.1) A.2.2 (by rw [hsz]; exact own_in hj hq) (by rw [own_idx hj, ← Array.getElem?_toList]; exact (show cl.slots.toList = vs from e1) ▸ hv) (g := mkF m pc Ls (.int j :: .ref a :: st)) rfl rfl (hb K.2.1 hd) _ r) hr
theorem own_caload (K : own_Cx p s m meth c Z own nm bytes maxL ret) {i q : Nat} {a : Addr} {ad : String} {vs : List Value} {v : Value} {j : Int32} (hd : own_D bytes pc .caload 1 pc') (H : own_H Z h os as) (ha : as[i]? = some (a, .char, ad, vs)) (hj : j.toInt = (q : Int)) (hv : vs[q]? = some v) (hr : own_G w p l e R s m args below meth c Z Q h k n (mkF m pc' Ls (v :: st))) : own_G w p l e R s m args below meth c Z Q h k n (mkF m pc Ls (.int j :: .ref a :: st)) := by
  obtain ⟨hd, rfl⟩ := hd
  obtain ⟨-, cl, A, e1, -⟩ := H.2.2.1 _ (own_mem ha)
  have hq := (List.getElem?_eq_some_iff.mp hv).1
  have hsz : cl.slots.size = vs.length := by rw [← Array.length_toList]; exact congrArg List.length e1
  exact own_pure K (fun X hZ _ eT _ r => X.caload K.1 (by rw [eT]; exact A.1) (State.isArrayOf_alike hZ.alike A.2.1) A.2.2 (by rw [hsz]; exact own_in hj hq) (by rw [own_idx hj, ← Array.getElem?_toList]; exact (show cl.slots.toList = vs from e1) ▸ hv) (g := mkF m pc Ls (.int j :: .ref a :: st)) rfl rfl (hb K.2.1 hd) _ r) hr
theorem own_baload (K : own_Cx p s m meth c Z own nm bytes maxL ret) {i q : Nat} {a : Addr} {ad : String} {vs : List Value} {v : Value} {j : Int32} (hd : own_D bytes pc .baload 1 pc') (H : own_H Z h os as) (ha : as[i]? = some (a, .byte, ad, vs)) (hj : j.toInt = (q : Int)) (hv : vs[q]? = some v) (hr : own_G w p l e R s m args below meth c Z Q h k n (mkF m pc' Ls (v :: st))) : own_G w p l e R s m args below meth c Z Q h k n (mkF m pc Ls (.int j :: .ref a :: st)) := by
  obtain ⟨hd, rfl⟩ := hd
  obtain ⟨-, cl, A, e1, -⟩ := H.2.2.1 _ (own_mem ha)
  have hq := (List.getElem?_eq_some_iff.mp hv).1
  have hsz : cl.slots.size = vs.length := by rw [← Array.length_toList]; exact congrArg List.length e1
  exact own_pure K (fun X hZ _ eT _ r => X.baloadBytes K.1 (by rw [eT]; exact A.1) (State.isArrayOf_alike hZ.alike A.2.1) A.2.2 (by rw [hsz]; exact own_in hj hq) (by rw [own_idx hj, ← Array.getElem?_toList]; exact (show cl.slots.toList = vs from e1) ▸ hv) (g := mkF m pc Ls (.int j :: .ref a :: st)) rfl rfl (hb K.2.1 hd) _ r) hr
theorem own_aaload (K : own_Cx p s m meth c Z own nm bytes maxL ret) {i q : Nat} {a : Addr} {ad : String} {ty : FieldType} {vs : List Value} {v : Value} {j : Int32} (hd : own_D bytes pc .aaload 1 pc') (H : own_H Z h os as) (ha : as[i]? = some (a, ty, ad, vs)) (hty : ty.isReference = true) (hj : j.toInt = (q : Int)) (hv : vs[q]? = some v) (hr : own_G w p l e R s m args below meth c Z Q h k n (mkF m pc' Ls (v :: st))) : own_G w p l e R s m args below meth c Z Q h k n (mkF m pc Ls (.int j :: .ref a :: st)) := by
  obtain ⟨hd, rfl⟩ := hd
  obtain ⟨-, cl, A, e1, -⟩ := H.2.2.1 _ (own_mem ha)
  have hq := (List.getElem?_eq_some_iff.mp hv).1
  have hsz : cl.slots.size = vs.length := by rw [← Array.length_toList]; exact congrArg List.length e1
  exact own_pure K (fun X hZ _ eT _ r => X.aaload K.1 (by rw [eT]; exact A.1) (State.isArrayOf_alike hZ.alike A.2.1) hty A.2.2 (by rw [hsz]; exact own_in hj hq) (by rw [own_idx hj, ← Array.getElem?_toList]; exact (show cl.slots.toList = vs from e1) ▸ hv) (g := mkF m pc Ls (.int j :: .ref a :: st)) rfl rfl (hb K.2.1 hd) _ r) hr
theorem own_iastore (K : own_Cx p s m meth c Z own nm bytes maxL ret) {i q : Nat} {a : Addr} {ad : String} {vs : List Value} {j : Int32} {x : Int32} (hd : own_D bytes pc .iastore 1 pc') (H : own_H Z h os as) (ha : as[i]? = some (a, .int, ad, vs)) (hj : j.toInt = (q : Int)) (hq : q < vs.length) (hr : ∀ h', own_H Z h' os (as.set i (a, .int, ad, vs.set q (.int x))) → own_G w p l e R s m args below meth c Z Q h' k n (mkF m pc' Ls st)) : own_G w p l e R s m args below meth c Z Q h k n (mkF m pc Ls (.int x :: .int j :: .ref a :: st)) := by
  obtain ⟨hd, rfl⟩ := hd
  obtain ⟨na, cl, A, e1, -⟩ := H.2.2.1 _ (own_mem ha)
  have hsz : cl.slots.size = vs.length := by rw [← Array.length_toList]; exact congrArg List.length e1
  refine own_step K (P := fun h' => own_H Z h' os (as.set i (a, .int, ad, vs.set q (.int x)))) (fun X hZ _ eT N => ?_) hr
  obtain ⟨T', h', X', e', W, st⟩ := stI X K.1 hZ eT A (by rw [hsz]; exact own_in hj hq) (g := mkF m pc Ls (.int x :: .int j :: .ref a :: st)) rfl rfl (hb K.2.1 hd)
  exact ⟨T', h', _, X', Fr.snoc X' N na, e', Nat.le_of_eq (Wr.size W).symm, H.wrA ha hq (rfl) (by rw [own_idx hj] at W; exact W), st⟩
theorem own_lastore (K : own_Cx p s m meth c Z own nm bytes maxL ret) {i q : Nat} {a : Addr} {ad : String} {vs : List Value} {j : Int32} {x : Int64} (hd : own_D bytes pc .lastore 1 pc') (H : own_H Z h os as) (ha : as[i]? = some (a, .long, ad, vs)) (hj : j.toInt = (q : Int)) (hq : q < vs.length) (hr : ∀ h', own_H Z h' os (as.set i (a, .long, ad, vs.set q (.long x))) → own_G w p l e R s m args below meth c Z Q h' k n (mkF m pc' Ls st)) : own_G w p l e R s m args below meth c Z Q h k n (mkF m pc Ls (.long x :: .int j :: .ref a :: st)) := by
  obtain ⟨hd, rfl⟩ := hd
  obtain ⟨na, cl, A, e1, -⟩ := H.2.2.1 _ (own_mem ha)
  have hsz : cl.slots.size = vs.length := by rw [← Array.length_toList]; exact congrArg List.length e1
  refine own_step K (P := fun h' => own_H Z h' os (as.set i (a, .long, ad, vs.set q (.long x)))) (fun X hZ _ eT N => ?_) hr
  obtain ⟨T', h', X', e', W, st⟩ := stJ X K.1 hZ eT A (by rw [hsz]; exact own_in hj hq) (g := mkF m pc Ls (.long x :: .int j :: .ref a :: st)) rfl rfl (hb K.2.1 hd)
  exact ⟨T', h', _, X', Fr.snoc X' N na, e', Nat.le_of_eq (Wr.size W).symm, H.wrA ha hq (rfl) (by rw [own_idx hj] at W; exact W), st⟩
theorem own_dastore (K : own_Cx p s m meth c Z own nm bytes maxL ret) {i q : Nat} {a : Addr} {ad : String} {vs : List Value} {j : Int32} {x : UInt64} (hd : own_D bytes pc .dastore 1 pc') (H : own_H Z h os as) (ha : as[i]? = some (a, .double, ad, vs)) (hj : j.toInt = (q : Int)) (hq : q < vs.length) (hr : ∀ h', own_H Z h' os (as.set i (a, .double, ad, vs.set q (.double x))) → own_G w p l e R s m args below meth c Z Q h' k n (mkF m pc' Ls st)) : own_G w p l e R s m args below meth c Z Q h k n (mkF m pc Ls (.double x :: .int j :: .ref a :: st)) := by
  obtain ⟨hd, rfl⟩ := hd
  obtain ⟨na, cl, A, e1, -⟩ := H.2.2.1 _ (own_mem ha)
  have hsz : cl.slots.size = vs.length := by rw [← Array.length_toList]; exact congrArg List.length e1
  refine own_step K (P := fun h' => own_H Z h' os (as.set i (a, .double, ad, vs.set q (.double x)))) (fun X hZ _ eT N => ?_) hr
  obtain ⟨T', h', X', e', W, st⟩ := stD X K.1 hZ eT A (by rw [hsz]; exact own_in hj hq) (g := mkF m pc Ls (.double x :: .int j :: .ref a :: st)) rfl rfl (hb K.2.1 hd)
  exact ⟨T', h', _, X', Fr.snoc X' N na, e', Nat.le_of_eq (Wr.size W).symm, H.wrA ha hq (rfl) (by rw [own_idx hj] at W; exact W), st⟩
theorem own_castore (K : own_Cx p s m meth c Z own nm bytes maxL ret) {i q : Nat} {a : Addr} {ad : String} {vs : List Value} {j : Int32} {x : Int32} (hd : own_D bytes pc .castore 1 pc') (H : own_H Z h os as) (ha : as[i]? = some (a, .char, ad, vs)) (hj : j.toInt = (q : Int)) (hq : q < vs.length) (hr : ∀ h', own_H Z h' os (as.set i (a, .char, ad, vs.set q (.int (nar .char x)))) → own_G w p l e R s m args below meth c Z Q h' k n (mkF m pc' Ls st)) : own_G w p l e R s m args below meth c Z Q h k n (mkF m pc Ls (.int x :: .int j :: .ref a :: st)) := by
  obtain ⟨hd, rfl⟩ := hd
  obtain ⟨na, cl, A, e1, -⟩ := H.2.2.1 _ (own_mem ha)
  have hsz : cl.slots.size = vs.length := by rw [← Array.length_toList]; exact congrArg List.length e1
  refine own_step K (P := fun h' => own_H Z h' os (as.set i (a, .char, ad, vs.set q (.int (nar .char x))))) (fun X hZ _ eT N => ?_) hr
  obtain ⟨T', h', X', e', W, st⟩ := stC X K.1 hZ eT A (by rw [hsz]; exact own_in hj hq) (g := mkF m pc Ls (.int x :: .int j :: .ref a :: st)) rfl rfl (hb K.2.1 hd)
  exact ⟨T', h', _, X', Fr.snoc X' N na, e', Nat.le_of_eq (Wr.size W).symm, H.wrA ha hq (by first | exact fits_nar_char _ | exact fits_nar_char | (simp [fits_nar_char]; done)) (by rw [own_idx hj] at W; exact W), st⟩
theorem own_bastore (K : own_Cx p s m meth c Z own nm bytes maxL ret) {i q : Nat} {a : Addr} {ad : String} {vs : List Value} {j : Int32} {x : Int32} (hd : own_D bytes pc .bastore 1 pc') (H : own_H Z h os as) (ha : as[i]? = some (a, .byte, ad, vs)) (hj : j.toInt = (q : Int)) (hq : q < vs.length) (hr : ∀ h', own_H Z h' os (as.set i (a, .byte, ad, vs.set q (.int (nar .byte x)))) → own_G w p l e R s m args below meth c Z Q h' k n (mkF m pc' Ls st)) : own_G w p l e R s m args below meth c Z Q h k n (mkF m pc Ls (.int x :: .int j :: .ref a :: st)) := by
  obtain ⟨hd, rfl⟩ := hd
  obtain ⟨na, cl, A, e1, -⟩ := H.2.2.1 _ (own_mem ha)
  have hsz : cl.slots.size = vs.length := by rw [← Array.length_toList]; exact congrArg List.length e1
  refine own_step K (P := fun h' => own_H Z h' os (as.set i (a, .byte, ad, vs.set q (.int (nar .byte x))))) (fun X hZ _ eT N => ?_) hr
  obtain ⟨T', h', X', e', W, st⟩ := stB X K.1 hZ eT A (by rw [hsz]; exact own_in hj hq) (g := mkF m pc Ls (.int x :: .int j :: .ref a :: st)) rfl rfl (hb K.2.1 hd)
  exact ⟨T', h', _, X', Fr.snoc X' N na, e', Nat.le_of_eq (Wr.size W).symm, H.wrA ha hq (by first | exact fits_nar_byte _ | exact fits_nar_byte | (simp [fits_nar_byte]; done)) (by rw [own_idx hj] at W; exact W), st⟩
theorem own_arraylength (K : own_Cx p s m meth c Z own nm bytes maxL ret) {i : Nat} {a : Addr} {ad : String} {ty : FieldType} {vs : List Value} {N : Int32} (hd : own_D bytes pc .arraylength 1 pc') (H : own_H Z h os as) (ha : as[i]? = some (a, ty, ad, vs)) (hN : N.toInt = (vs.length : Int)) (hr : own_G w p l e R s m args below meth c Z Q h k n (mkF m pc' Ls (.int N :: st))) : own_G w p l e R s m args below meth c Z Q h k n (mkF m pc Ls (.ref a :: st)) := by
  obtain ⟨hd, rfl⟩ := hd
  obtain ⟨-, cl, A, e1, -⟩ := H.2.2.1 _ (own_mem ha)
  have hsz : cl.slots.size = vs.length := by rw [← Array.length_toList]; exact congrArg List.length e1
  have e2 : cl.slots.size.toInt32 = N := by rw [hsz]; exact own_len hN
  exact own_pure K (fun X hZ _ eT _ r => X.arraylength K.1 (by rw [eT]; exact A.1) (State.isArrayOf_alike hZ.alike A.2.1) (g := mkF m pc Ls (.ref a :: st)) rfl rfl (hb K.2.1 hd) _ (by rw [e2]; exact r)) hr
theorem own_checkcast (K : own_Cx p s m meth c Z own nm bytes maxL ret) {i : Nat} {a : Addr} {Kn : String} (hd : own_D bytes pc (.checkcast i) 3 pc') (w1 : (Cond.classLink own i Kn).before a0 Z = true) (I : Ins Z h a Kn true) (hr : own_G w p l e R s m args below meth c Z Q h k n (mkF m pc' Ls (.ref a :: st))) : own_G w p l e R s m args below meth c Z Q h k n (mkF m pc Ls (.ref a :: st)) := by
  obtain ⟨hd, rfl⟩ := hd
  refine own_step K (P := fun h' => h' = h) (fun X hZ hw eT N => ?_) (fun h' e => by subst e; exact hr)
  obtain ⟨T', X', e', st⟩ := castY X K.1 hZ hw w1 eT I (g := mkF m pc Ls (.ref a :: st)) rfl rfl (hb K.2.1 hd)
  exact ⟨T', _, _, X', N, e', Nat.le_refl _, rfl, st⟩
theorem own_H.exaA (H : own_H Z h os as) {i : Nat} {a : Addr} {ty : FieldType} {ad : String} {vs : List Value} (ha : as[i]? = some (a, ty, ad, vs)) (hn : ad ≠ "") : Exa Z h a ad := by
  obtain ⟨-, cl, -, -, -, h4, -⟩ := H.2.2.1 _ (own_mem ha); exact h4 hn
theorem own_clone (K : own_Cx p s m meth c Z own nm bytes maxL ret) {i j : Nat} {a : Addr} {ty : FieldType} {ad : String} {vs : List Value} (hd : own_D bytes pc (.invokevirtual i) 3 pc') (w1 : (Cond.methodLink own i ⟨ad, "clone", "()Ljava/lang/Object;"⟩).before a0 Z = true) (w2 : (Cond.sameMethod ad "java/lang/Object" "clone" "()Ljava/lang/Object;").before a0 Z = true) (w3 : (Cond.native ⟨"java/lang/Object", "clone", "()Ljava/lang/Object;"⟩).before a0 Z = true)
    (w4 : (Cond.instanceMethod ⟨"java/lang/Object", "clone", "()Ljava/lang/Object;"⟩).before a0 Z = true) (w5 : (Cond.selects ad ⟨ad, "clone", "()Ljava/lang/Object;"⟩ ⟨"java/lang/Object", "clone", "()Ljava/lang/Object;"⟩).before a0 Z = true) (w6 : (Cond.castable ad "java/lang/Cloneable").before a0 Z = true)
    (H : own_H Z h os as) (ha : as[j]? = some (a, ty, ad, vs)) (hn : ad ≠ "") (hsz : Ls.size = maxL) (hf : 1 ≤ R.frames) {W : Nat} (hW : (st.map fun v => v.category).sum ≤ W) (hl : W + 14 ≤ R.locals) (hc : k + 1 ≤ R.cells) (hsl : n + vs.length ≤ R.slots)
    (hr : ∀ h' b, own_H Z h' os ((b, ty, ad, vs) :: as) → own_G w p l e R s m args below meth c Z Q h' (k + 1) (n + vs.length) (mkF m pc' Ls (.ref b :: st))) : own_G w p l e R s m args below meth c Z Q h k n (mkF m pc Ls (.ref a :: st)) := by
  obtain ⟨hd, rfl⟩ := hd
  obtain ⟨-, cl, A, e1, e3, e4, e5⟩ := H.2.2.1 _ (own_mem ha)
  have hsz' : cl.slots.size = vs.length := by rw [← Array.length_toList]; exact congrArg List.length e1
  have F : FitC Z cl := fun i v hv => by
    obtain ⟨hs, k, hk, comp, hkind⟩ := A.2.1
    have hm : v ∈ vs := by
      have : cl.slots.toList[i]? = some v := by rw [Array.getElem?_toList]; exact hv
      exact (show cl.slots.toList = vs from e1) ▸ own_mem this
    simp [State.fitsSlot, State.slotType?, hk, hkind, show fits ty v = true from e3 v hm]
  refine own_step K (P := fun h' => own_H Z h' os ((h.size, ty, ad, vs) :: as)) (fun X hZ hw eT N => ?_) (fun h' H' => hr h' _ H')
  obtain ⟨T', h', X', e', E, A', Ex, st⟩ := cloneA X K.1 hZ hw w1 w2 w3 w4 w5 w6 eT A (e4 hn) F (g := mkF m pc Ls (.ref a :: st)) rfl (hsz.trans K.2.2.1.symm) rfl (hb K.2.1 hd) hf (W := W) (by show 2 * 0 + _ ≤ W; simpa using hW) hl (cap := vs.length) (Nat.le_of_eq hsz') hc hsl
  exact ⟨T', h', _, X', N, e', E.1, H.addA E ⟨_, A', e1, e3, fun _ => Ex, e5⟩, st⟩
theorem own_initO (K : own_Cx p s m meth c Z own nm bytes maxL ret) {i : Nat} {a : Addr} (hd : own_D bytes pc (.invokespecial i) 3 pc') (w1 : (Cond.methodLink own i Lib.objectInit).before a0 Z = true) (w2 : (Cond.instanceMethod Lib.objectInit).before a0 Z = true) (w3 : (Cond.code Lib.objectInit ⟨#[0xb1]⟩ 1 none).before a0 Z = true) (hsz : Ls.size = maxL) (hf : 1 ≤ R.frames) {W : Nat} (hW : (st.map fun v => v.category).sum ≤ W) (hl : W + 12 ≤ R.locals) (hr : own_G w p l e R s m args below meth c Z Q h k n (mkF m pc' Ls st)) : own_G w p l e R s m args below meth c Z Q h k n (mkF m pc Ls (.ref a :: st)) := by
  obtain ⟨hd, rfl⟩ := hd
  refine own_step K (P := fun h' => h' = h) (fun X hZ hw eT N => ?_) (fun h' e => by subst e; exact hr)
  obtain ⟨T', X', e', st⟩ := initO X K.1 hZ hw w1 w2 w3 eT (g := mkF m pc Ls (.ref a :: st)) rfl (hsz.trans K.2.2.1.symm) rfl (hb K.2.1 hd) hf (W := W) (by show 2 * 0 + _ ≤ W; simpa using hW) hl
  exact ⟨T', _, _, X', N, e', Nat.le_refl _, rfl, st⟩
theorem own_static (K : own_Cx p s m meth c Z own nm bytes maxL ret) {i ml W : Nat} {y : MethodName} {b : ByteArray} {rt : Option FieldType} {rm : Room} {argsL : List Value} {Qc : Option Value → Heap → Prop} {ps : List FieldType} {r : Option FieldType} (hd : own_D bytes pc (.invokestatic i) 3 pc') (w1 : (Cond.methodLink own i y).before a0 Z = true) (w2 : (Cond.static y).before a0 Z = true) (w3 : (Cond.initialized y.cls).before a0 Z = true) (w4 : (Cond.code y b ml rt).before a0 Z = true)
    (hM : own_Met false l Z y b ml rt [] rm argsL.toArray h Qc) (hp : parseMethodDescriptor y.desc = some ⟨ps, r⟩) (hlen : argsL.length = ps.length) (hst : st = argsL.reverse ++ rest) (hsz : Ls.size = maxL) (hy : y.cls ≠ "java/lang/invoke/MethodHandle" ∧ y.cls ≠ "java/lang/invoke/VarHandle") (hW : (rest.map fun v => v.category).sum ≤ W) (hf : rm.frames + 1 ≤ R.frames) (hl : W + (ml + 11) + rm.locals ≤ R.locals) (hc : k + rm.cells ≤ R.cells) (hs : n + rm.slots ≤ R.slots)
    (hr : ∀ v h', Qc v h' → own_G w p l e R s m args below meth c Z Q h' (k + rm.cells) (n + rm.slots) (mkF m (pc') Ls (v.toList ++ rest))) : own_G w p l e R s m args below meth c Z Q h k n (mkF m pc Ls st) := by
  obtain ⟨hd, rfl⟩ := hd
  intro T hX
  obtain ⟨L, vm, X, N, eT, hw, hS⟩ := hX
  have hZ := own_zw K.2.2.2.2.2.1 hS
  have hown : (s.setVm vm).vm.findClass own = some m.cls := by rw [show (s.setVm vm).vm = vm from rfl, hS.1.alike.findClass]; exact K.2.2.2.2.2.2.1
  obtain ⟨v, vm1, ⟨T1, L1, k1, n1⟩, -, X1, ⟨Lc, ⟨hQ, N1, z1⟩, l1, y1, x1⟩, st1⟩ := Jvm.LawKit.callS X K.1 (y := y) hown (mvT hZ w1) (mvT hZ w2) (mvT hZ w3) (mvT hZ w4) hy (backOf (W := W) (Q := fun v h'' L => Qc v h'' ∧ Fr Z.heap.size L ∧ h.size ≤ h''.size) (show MetFree _ _ _ _ _ _ from hM) hZ w4 w3 hf hl) (g := mkF m pc Ls st) rfl (hsz.trans K.2.2.1.symm) (argsL := argsL) (rest := rest) (lenOf hp hlen) hst (by show 2 * 0 + _ ≤ W; simpa using hW) (hb K.2.1 hd) (fun _ _ => ⟨rfl, eT, hc, hs⟩)
  dsimp only [Pt.U, Pt.locs, Pt.cells, Pt.slots] at X1 l1 y1 x1 st1 hQ z1
  subst l1 y1 x1
  obtain ⟨T', v', h', k', n', hX', r1, r2, r3, r4, r5⟩ := hr v T1.heap hQ T1 ⟨_, vm, X1, N.app N1, rfl, hw, own_since hS z1⟩
  exact ⟨T', v', h', k', n', hX', r1, r2, r3, r4, fun fs q => st1 _ (r5 fs q)⟩
theorem own_special (K : own_Cx p s m meth c Z own nm bytes maxL ret) {i ml W : Nat} {y : MethodName} {b : ByteArray} {rm : Room} {a : Addr} {argsL : List Value} {Qc : Option Value → Heap → Prop} {ps : List FieldType} {r : Option FieldType} (hd : own_D bytes pc (.invokespecial i) 3 pc') (hy1 : y.name = "<init>") (w1 : (Cond.methodLink own i y).before a0 Z = true) (w2 : (Cond.instanceMethod y).before a0 Z = true) (w3 : (Cond.initialized y.cls).before a0 Z = true) (w4 : (Cond.code y b ml none).before a0 Z = true)
    (hM : own_Met false l Z y b ml none [] rm (.ref a :: argsL).toArray h Qc) (hp : parseMethodDescriptor y.desc = some ⟨ps, r⟩) (hlen : argsL.length = ps.length) (hst : st = argsL.reverse ++ .ref a :: rest) (hsz : Ls.size = maxL) (hy : y.cls ≠ "java/lang/invoke/MethodHandle" ∧ y.cls ≠ "java/lang/invoke/VarHandle") (hW : (rest.map fun v => v.category).sum ≤ W) (hf : rm.frames + 1 ≤ R.frames) (hl : W + (ml + 11) + rm.locals ≤ R.locals) (hc : k + rm.cells ≤ R.cells) (hs : n + rm.slots ≤ R.slots)
    (hr : ∀ v h', Qc v h' → own_G w p l e R s m args below meth c Z Q h' (k + rm.cells) (n + rm.slots) (mkF m (pc') Ls (v.toList ++ rest))) : own_G w p l e R s m args below meth c Z Q h k n (mkF m pc Ls st) := by
  obtain ⟨hd, rfl⟩ := hd
  intro T hX
  obtain ⟨L, vm, X, N, eT, hw, hS⟩ := hX
  have hZ := own_zw K.2.2.2.2.2.1 hS
  have hown : (s.setVm vm).vm.findClass own = some m.cls := by rw [show (s.setVm vm).vm = vm from rfl, hS.1.alike.findClass]; exact K.2.2.2.2.2.2.1
  obtain ⟨v, vm1, ⟨T1, L1, k1, n1⟩, -, X1, ⟨Lc, ⟨hQ, N1, z1⟩, l1, y1, x1⟩, st1⟩ := X.specialBack K.1 (y := y) hy1 hown (mvT hZ w1) (mvT hZ w2) (mvT hZ w4) hy (backOf (W := W) (Q := fun v h'' L => Qc v h'' ∧ Fr Z.heap.size L ∧ h.size ≤ h''.size) (show MetFree _ _ _ _ _ _ from hM) hZ w4 w3 hf hl) (g := mkF m pc Ls st) rfl (hsz.trans K.2.2.1.symm) (Steps.refl _) (a := a) (argsL := argsL) (rest := rest) (lenOf hp hlen) hst (by show 2 * 0 + _ ≤ W; simpa using hW) (hb K.2.1 hd) (fun _ _ => ⟨rfl, eT, hc, hs⟩)
  dsimp only [Pt.U, Pt.locs, Pt.cells, Pt.slots] at X1 l1 y1 x1 st1 hQ z1
  subst l1 y1 x1
  obtain ⟨T', v', h', k', n', hX', r1, r2, r3, r4, r5⟩ := hr v T1.heap hQ T1 ⟨_, vm, X1, N.app N1, rfl, hw, own_since hS z1⟩
  exact ⟨T', v', h', k', n', hX', r1, r2, r3, r4, fun fs q => st1.trans (r5 fs q)⟩
theorem own_virtual (K : own_Cx p s m meth c Z own nm bytes maxL ret) {i ml W : Nat} {y : MethodName} {C : String} {b : ByteArray} {rt : Option FieldType} {rm : Room} {a : Addr} {argsL : List Value} {Qc : Option Value → Heap → Prop} {ps : List FieldType} {r : Option FieldType} (hd : own_D bytes pc (.invokevirtual i) 3 pc') (w1 : (Cond.methodLink own i y).before a0 Z = true) (w2 : (Cond.declares y).before a0 Z = true) (w5 : (Cond.selects C y y).before a0 Z = true) (w6 : (Cond.instanceMethod y).before a0 Z = true) (w3 : (Cond.initialized y.cls).before a0 Z = true) (w4 : (Cond.code y b ml rt).before a0 Z = true)
    (E : Exa Z h a C) (hM : own_Met false l Z y b ml rt [] rm (.ref a :: argsL).toArray h Qc) (hp : parseMethodDescriptor y.desc = some ⟨ps, r⟩) (hlen : argsL.length = ps.length) (hst : st = argsL.reverse ++ .ref a :: rest) (hsz : Ls.size = maxL) (hy : y.cls ≠ "java/lang/invoke/MethodHandle" ∧ y.cls ≠ "java/lang/invoke/VarHandle") (hW : (rest.map fun v => v.category).sum ≤ W) (hf : rm.frames + 1 ≤ R.frames) (hl : W + (ml + 11) + rm.locals ≤ R.locals) (hc : k + rm.cells ≤ R.cells) (hs : n + rm.slots ≤ R.slots)
    (hr : ∀ v h', Qc v h' → own_G w p l e R s m args below meth c Z Q h' (k + rm.cells) (n + rm.slots) (mkF m (pc') Ls (v.toList ++ rest))) : own_G w p l e R s m args below meth c Z Q h k n (mkF m pc Ls st) := by
  obtain ⟨hd, rfl⟩ := hd
  intro T hX
  obtain ⟨L, vm, X, N, eT, hw, hS⟩ := hX
  have hZ := own_zw K.2.2.2.2.2.1 hS
  have hown : (s.setVm vm).vm.findClass own = some m.cls := by rw [show (s.setVm vm).vm = vm from rfl, hS.1.alike.findClass]; exact K.2.2.2.2.2.2.1
  obtain ⟨cq, kq, qa, qb, qc⟩ := isOf (s := s.setVm vm) hZ eT E
  obtain ⟨v, vm1, ⟨T1, L1, k1, n1⟩, -, X1, ⟨Lc, ⟨hQ, N1, z1⟩, l1, y1, x1⟩, st1⟩ := X.virtualBack K.1 (y := y) (z := y) hown (mvT hZ w1) (mvT hZ w2) (notFace_of_selects (C := C) (args := #[]) (mvT hZ w5)) (mvT hZ w5) (mvT hZ w6) hy (backOf (W := W) (Q := fun v h'' L => Qc v h'' ∧ Fr Z.heap.size L ∧ h.size ≤ h''.size) (show MetFree _ _ _ _ _ _ from hM) hZ w4 w3 hf hl) qa qc (g := mkF m pc Ls st) rfl (hsz.trans K.2.2.1.symm) (Steps.refl _) (argsL := argsL) (rest := rest) (lenOf hp hlen) hst (by show 2 * 0 + _ ≤ W; simpa using hW) (hb K.2.1 hd) (fun _ _ => ⟨rfl, eT, hc, hs⟩)
  dsimp only [Pt.U, Pt.locs, Pt.cells, Pt.slots] at X1 l1 y1 x1 st1 hQ z1
  subst l1 y1 x1
  obtain ⟨T', v', h', k', n', hX', r1, r2, r3, r4, r5⟩ := hr v T1.heap hQ T1 ⟨_, vm, X1, N.app N1, rfl, hw, own_since hS z1⟩
  exact ⟨T', v', h', k', n', hX', r1, r2, r3, r4, fun fs q => st1.trans (r5 fs q)⟩
theorem own_virtualZ (K : own_Cx p s m meth c Z own nm bytes maxL ret) {i ml W : Nat} {y z : MethodName} {C : String} {b : ByteArray} {rt : Option FieldType} {rm : Room} {a : Addr} {argsL : List Value} {Qc : Option Value → Heap → Prop} {ps : List FieldType} {r : Option FieldType} (hd : own_D bytes pc (.invokevirtual i) 3 pc') (w1 : (Cond.methodLink own i y).before a0 Z = true) (w2 : (Cond.declares y).before a0 Z = true) (w5 : (Cond.selects C y z).before a0 Z = true) (w6 : (Cond.instanceMethod z).before a0 Z = true) (w3 : (Cond.initialized z.cls).before a0 Z = true) (w4 : (Cond.code z b ml rt).before a0 Z = true)
    (E : Exa Z h a C) (hnf : ∀ vm, s.Warmed39 vm → NotFace (s.setVm vm) y) (hM : own_Met false l Z z b ml rt [] rm (.ref a :: argsL).toArray h Qc) (hp : parseMethodDescriptor y.desc = some ⟨ps, r⟩) (hlen : argsL.length = ps.length) (hst : st = argsL.reverse ++ .ref a :: rest) (hsz : Ls.size = maxL) (hy : y.cls ≠ "java/lang/invoke/MethodHandle" ∧ y.cls ≠ "java/lang/invoke/VarHandle") (hW : (rest.map fun v => v.category).sum ≤ W) (hf : rm.frames + 1 ≤ R.frames) (hl : W + (ml + 11) + rm.locals ≤ R.locals) (hc : k + rm.cells ≤ R.cells) (hs : n + rm.slots ≤ R.slots)
    (hr : ∀ v h', Qc v h' → own_G w p l e R s m args below meth c Z Q h' (k + rm.cells) (n + rm.slots) (mkF m (pc') Ls (v.toList ++ rest))) : own_G w p l e R s m args below meth c Z Q h k n (mkF m pc Ls st) := by
  obtain ⟨hd, rfl⟩ := hd
  intro T hX
  obtain ⟨L, vm, X, N, eT, hw, hS⟩ := hX
  have hZ := own_zw K.2.2.2.2.2.1 hS
  have hown : (s.setVm vm).vm.findClass own = some m.cls := by rw [show (s.setVm vm).vm = vm from rfl, hS.1.alike.findClass]; exact K.2.2.2.2.2.2.1
  obtain ⟨cq, kq, qa, qb, qc⟩ := isOf (s := s.setVm vm) hZ eT E
  obtain ⟨v, vm1, ⟨T1, L1, k1, n1⟩, -, X1, ⟨Lc, ⟨hQ, N1, z1⟩, l1, y1, x1⟩, st1⟩ := X.virtualBack K.1 (y := y) (z := z) hown (mvT hZ w1) (mvT hZ w2) (hnf vm hS.1) (mvT hZ w5) (mvT hZ w6) hy (backOf (W := W) (Q := fun v h'' L => Qc v h'' ∧ Fr Z.heap.size L ∧ h.size ≤ h''.size) (show MetFree _ _ _ _ _ _ from hM) hZ w4 w3 hf hl) qa qc (g := mkF m pc Ls st) rfl (hsz.trans K.2.2.1.symm) (Steps.refl _) (argsL := argsL) (rest := rest) (lenOf hp hlen) hst (by show 2 * 0 + _ ≤ W; simpa using hW) (hb K.2.1 hd) (fun _ _ => ⟨rfl, eT, hc, hs⟩)
  dsimp only [Pt.U, Pt.locs, Pt.cells, Pt.slots] at X1 l1 y1 x1 st1 hQ z1
  subst l1 y1 x1
  obtain ⟨T', v', h', k', n', hX', r1, r2, r3, r4, r5⟩ := hr v T1.heap hQ T1 ⟨_, vm, X1, N.app N1, rfl, hw, own_since hS z1⟩
  exact ⟨T', v', h', k', n', hX', r1, r2, r3, r4, fun fs q => st1.trans (r5 fs q)⟩
theorem own_retI (K : own_Cx p s m meth c Z own nm bytes maxL (some .int)) {z : Int32} (hd : own_D bytes pc .ireturn 1 pc') (hk : k ≤ R.cells) (hn : n ≤ R.slots) (hQ : Q (some (.int z)) h) : own_G w p l e R s m args below meth c Z Q h k n (mkF m pc Ls (.int z :: st)) := by
  obtain ⟨hd, -⟩ := hd
  intro T hX
  obtain ⟨L, vm, X, N, eT, hw, hS⟩ := hX
  exact ⟨T, some (.int z), h, k, n, ⟨L, vm, X, N, eT, hw, hS⟩, hk, hn, (fun q => by rw [K.2.2.2.1] at q; cases q), hQ, fun fs q => retOut X K.1 K.2.2.2.1 (rfl) (Or.inl ⟨rfl, Or.inl rfl, z, rfl⟩) (hb K.2.1 hd) q⟩
theorem own_retZ (K : own_Cx p s m meth c Z own nm bytes maxL (some .boolean)) {z : Int32} (hz : z = 0 ∨ z = 1) (hd : own_D bytes pc .ireturn 1 pc') (hk : k ≤ R.cells) (hn : n ≤ R.slots) (hQ : Q (some (.int z)) h) : own_G w p l e R s m args below meth c Z Q h k n (mkF m pc Ls (.int z :: st)) := by
  obtain ⟨hd, -⟩ := hd
  intro T hX
  obtain ⟨L, vm, X, N, eT, hw, hS⟩ := hX
  exact ⟨T, some (.int z), h, k, n, ⟨L, vm, X, N, eT, hw, hS⟩, hk, hn, (fun q => by rw [K.2.2.2.1] at q; cases q), hQ, fun fs q => retOut X K.1 K.2.2.2.1 (by rcases hz with rfl | rfl <;> decide) (Or.inl ⟨rfl, Or.inr (Or.inl rfl), z, rfl⟩) (hb K.2.1 hd) q⟩
theorem own_retC (K : own_Cx p s m meth c Z own nm bytes maxL (some .char)) {z : Int32} (hz : narrow .char (.int z) = .int z) (hd : own_D bytes pc .ireturn 1 pc') (hk : k ≤ R.cells) (hn : n ≤ R.slots) (hQ : Q (some (.int z)) h) : own_G w p l e R s m args below meth c Z Q h k n (mkF m pc Ls (.int z :: st)) := by
  obtain ⟨hd, -⟩ := hd
  intro T hX
  obtain ⟨L, vm, X, N, eT, hw, hS⟩ := hX
  exact ⟨T, some (.int z), h, k, n, ⟨L, vm, X, N, eT, hw, hS⟩, hk, hn, (fun q => by rw [K.2.2.2.1] at q; cases q), hQ, fun fs q => retOut X K.1 K.2.2.2.1 (hz) (Or.inl ⟨rfl, Or.inr (Or.inr (Or.inr (Or.inl rfl))), z, rfl⟩) (hb K.2.1 hd) q⟩
theorem own_retBy (K : own_Cx p s m meth c Z own nm bytes maxL (some .byte)) {z : Int32} (hz : narrow .byte (.int z) = .int z) (hd : own_D bytes pc .ireturn 1 pc') (hk : k ≤ R.cells) (hn : n ≤ R.slots) (hQ : Q (some (.int z)) h) : own_G w p l e R s m args below meth c Z Q h k n (mkF m pc Ls (.int z :: st)) := by
  obtain ⟨hd, -⟩ := hd
  intro T hX
  obtain ⟨L, vm, X, N, eT, hw, hS⟩ := hX
  exact ⟨T, some (.int z), h, k, n, ⟨L, vm, X, N, eT, hw, hS⟩, hk, hn, (fun q => by rw [K.2.2.2.1] at q; cases q), hQ, fun fs q => retOut X K.1 K.2.2.2.1 (hz) (Or.inl ⟨rfl, Or.inr (Or.inr (Or.inl rfl)), z, rfl⟩) (hb K.2.1 hd) q⟩
theorem own_retL (K : own_Cx p s m meth c Z own nm bytes maxL (some .long)) {z : Int64} (hd : own_D bytes pc .lreturn 1 pc') (hk : k ≤ R.cells) (hn : n ≤ R.slots) (hQ : Q (some (.long z)) h) : own_G w p l e R s m args below meth c Z Q h k n (mkF m pc Ls (.long z :: st)) := by
  obtain ⟨hd, -⟩ := hd
  intro T hX
  obtain ⟨L, vm, X, N, eT, hw, hS⟩ := hX
  exact ⟨T, some (.long z), h, k, n, ⟨L, vm, X, N, eT, hw, hS⟩, hk, hn, (fun q => by rw [K.2.2.2.1] at q; cases q), hQ, fun fs q => retOut X K.1 K.2.2.2.1 (rfl) (Or.inr (Or.inl ⟨rfl, rfl, z, rfl⟩)) (hb K.2.1 hd) q⟩
theorem own_retD (K : own_Cx p s m meth c Z own nm bytes maxL (some .double)) {z : UInt64} (hd : own_D bytes pc .dreturn 1 pc') (hk : k ≤ R.cells) (hn : n ≤ R.slots) (hQ : Q (some (.double z)) h) : own_G w p l e R s m args below meth c Z Q h k n (mkF m pc Ls (.double z :: st)) := by
  obtain ⟨hd, -⟩ := hd
  intro T hX
  obtain ⟨L, vm, X, N, eT, hw, hS⟩ := hX
  exact ⟨T, some (.double z), h, k, n, ⟨L, vm, X, N, eT, hw, hS⟩, hk, hn, (fun q => by rw [K.2.2.2.1] at q; cases q), hQ, fun fs q => retOut X K.1 K.2.2.2.1 (rfl) (Or.inr (Or.inr (Or.inl ⟨rfl, rfl, z, rfl⟩))) (hb K.2.1 hd) q⟩
theorem own_retA (K : own_Cx p s m meth c Z own nm bytes maxL (some tyR)) {v : Value} (hty : tyR.isReference = true) (hv : v.isRef = true) (hd : own_D bytes pc .areturn 1 pc') (hk : k ≤ R.cells) (hn : n ≤ R.slots) (hQ : Q (some (v)) h) : own_G w p l e R s m args below meth c Z Q h k n (mkF m pc Ls (v :: st)) := by
  obtain ⟨hd, -⟩ := hd
  intro T hX
  obtain ⟨L, vm, X, N, eT, hw, hS⟩ := hX
  exact ⟨T, some (v), h, k, n, ⟨L, vm, X, N, eT, hw, hS⟩, hk, hn, (fun q => by rw [K.2.2.2.1] at q; cases q), hQ, fun fs q => retOut X K.1 K.2.2.2.1 (by rcases ref_cases hv with rfl | ⟨a, rfl⟩ <;> cases tyR <;> first | rfl | cases hty) (Or.inr (Or.inr (Or.inr (Or.inr ⟨rfl, hty, hv⟩)))) (hb K.2.1 hd) q⟩
theorem own_retV (K : own_Cx p s m meth c Z own nm bytes maxL none) (hd : own_D bytes pc .return_ 1 pc') (hk : k ≤ R.cells) (hn : n ≤ R.slots) (hQ : Q none h) : own_G w p l e R s m args below meth c Z Q h k n (mkF m pc Ls []) := by
  obtain ⟨hd, -⟩ := hd
  intro T hX
  obtain ⟨L, vm, X, N, eT, hw, hS⟩ := hX
  exact ⟨T, none, h, k, n, ⟨L, vm, X, N, eT, hw, hS⟩, hk, hn, (fun _ => rfl), hQ, fun fs q => X.returnOut K.1 K.2.2.2.1 (hb K.2.1 hd) q⟩
theorem own_met {y : MethodName} {ws : List Cond} {rm : Room} {as' : Array Value} (hpn : plainFor y = true)
    (body : ∀ (p : Program) (e : Env) (s : State) (m : MethodId) (below : List Frame) (meth : Method) (c : Code), own_Cx p s m meth c Z y.cls y.name bytes maxL ret → own_G w p l e rm s m as' below meth c Z Q h 0 0 (entryFrame m as' maxL)) :
    own_Met w l Z y bytes maxL ret ws rm as' h Q := by
  refine MetFree.of_bodySF hpn hisR ?_
  intro p e s m args below meth c s₁ Bd hml0 hP hK
  obtain ⟨rfl, hZ, hh⟩ := hP
  have X0 : Stand p l e rm s m args below meth c s₁ [] 0 0 := Stand.of_body Bd
  have e0 : s₁.heap = h := by rw [← hh, Bd.state]; rfl
  have hlk : meth.locks = false := BodyLoose.notSynchronized Bd
  obtain ⟨T', v, h', k', n', ⟨L, vm, X, N, eT, hw, hS⟩, r1, r2, r3, r4, r5⟩ := body p e s m below meth c ⟨Bd.exec, Bd.bytes, hml0, Bd.returns, hlk, hZ, findClass_of_methodNamed Bd.named, (name_of_methodNamed Bd.named Bd.method).1⟩ s₁
    ⟨[], s.vm, X0, Fr.nil _, e0, fun _ => rfl, (State.WarmedH.refl s).since _⟩
  have hgr : h.size ≤ h'.size := by rw [← eT, ← hh]; exact X.same.2.1
  cases w with
  | false =>
    obtain rfl := hw rfl
    obtain ⟨fs, hr, hrun, hended, hW, hsame⟩ := Stand.leave (s := s) X r3
    exact ⟨_, _, r5 fs hr, hrun, hended, v, L, rfl, ⟨by show Q v T'.heap; rw [eT]; exact r4, N, by show h.size ≤ T'.heap.size; rw [eT]; exact hgr⟩, ⟨_, rfl⟩, hW, hsame.mono r1 r2⟩
  | true =>
    obtain ⟨fs, hr, hrun, hended, q1, q2, q3, q4⟩ := Stand.leaveW X hS (Nat.le_of_eq (congrArg Array.size eT.symm)) r3
    exact ⟨_, _, r5 fs hr, hrun, hended, v, L, rfl, ⟨by show Q v T'.heap; rw [eT]; exact r4, N, by show h.size ≤ T'.heap.size; rw [eT]; exact hgr⟩, q1, q2, q3, q4.mono r1 r2⟩
theorem own_list_getD {vs : List Value} {cl : Cell} (e : cl.slots.toList = vs) (d : Value) {i : Nat} (hi : i < cl.slots.size) : cl.slots[i]? = some (vs.getD i d) := by
  subst e
  rw [List.getD_eq_getElem?_getD, Array.getElem?_toList, Array.getElem?_eq_getElem hi]; rfl
theorem own_arv {a : Addr} {ty : FieldType} {ad : String} {vs : List Value} (F : own_AK Z h (a, ty, ad, vs)) (hl : vs.length < 2147483648) : ∃ (kc : ClassId) (z : Int32), z.toNatClampNeg = vs.length ∧ ¬ z < 0 ∧ Arv Z h a kc ty z vs .null := by
  obtain ⟨cl, A, e1, e3, -, -⟩ := F
  have e1' : cl.slots.toList = vs := e1
  have hsz : cl.slots.size = vs.length := by rw [← Array.length_toList, e1']
  have q := len_toInt (n := vs.length) (by omega)
  have z0 : ¬ vs.length.toInt32 < 0 := by rw [Int32.lt_iff_toInt_lt, q, show (0 : Int32).toInt = 0 from rfl]; omega
  have zc : vs.length.toInt32.toNatClampNeg = vs.length := by simp only [Int32.toNatClampNeg, q]; rfl
  refine ⟨cl.cls, vs.length.toInt32, zc, z0, cl, A, rfl, by rw [zc]; exact hsz, z0, fun i hi => own_list_getD e1' _ hi, fun i hi => ?_⟩
  have hi' : i < vs.length := by omega
  rw [List.getD_eq_getElem?_getD, List.getElem?_eq_getElem hi']
  exact e3 _ (List.getElem_mem hi')
theorem own_of_arv {a : Addr} {ty : FieldType} {vs : List Value} {kc : ClassId} {z : Int32} {d : Value} (F : Arv Z h a kc ty z vs d) (hz : z.toNatClampNeg = vs.length) : ∃ cl : Cell, Arr Z h a cl ty ∧ cl.cls = kc ∧ cl.slots.toList = vs ∧ ∀ v ∈ vs, fits ty v = true := by
  obtain ⟨cl, A, e1, e2, -, H, G⟩ := F
  have hsz : cl.slots.size = vs.length := e2.trans hz
  refine ⟨cl, A, e1, ?_, fun v hv => ?_⟩
  · apply List.ext_getElem?
    intro i
    rw [Array.getElem?_toList]
    by_cases hi : i < cl.slots.size
    · rw [H i hi, List.getD_eq_getElem?_getD, List.getElem?_eq_getElem (by omega)]; rfl
    · rw [Array.getElem?_eq_none (by omega), List.getElem?_eq_none (by omega)]
  · obtain ⟨i, hi, rfl⟩ := List.getElem_of_mem hv
    have := G i (by omega)
    rw [List.getD_eq_getElem?_getD, List.getElem?_eq_getElem hi] at this
    exact this
theorem own_H.keepA (H : own_H Z h os as) {b : Addr} {ty : FieldType} {ad : String} {vd vd' : List Value} {i : Nat} (hb : as[i]? = some (b, ty, ad, vd)) (Kp : Keep h h' [b]) (F : ∃ cl : Cell, Arr Z h' b cl ty ∧ cl.slots.toList = vd' ∧ ∀ v ∈ vd', fits ty v = true) (hty : ∀ C, ty ≠ .object C) : own_H Z h' os (as.set i (b, ty, ad, vd')) := by
  have nb := (H.2.2.1 _ (own_mem hb)).1
  have hlen := (List.getElem?_eq_some_iff.mp hb).1
  refine ⟨⟨Nat.le_trans H.1.1 Kp.1, fun x cx hx => Kp.2.1 x cx (H.1.2 x cx hx) fun q => ?_⟩, fun o ho => ?_, fun y hy => ?_, ?_⟩
  · cases List.mem_singleton.mp q; exact absurd (Array.getElem?_eq_some_iff.mp hx).1 (Nat.not_lt.mpr nb)
  · obtain ⟨n1, E, F', Pw⟩ := H.2.1 o ho
    exact ⟨n1, E.keep Kp, fun f hf => (F' f hf).keep Kp fun q => H.neOA ho (own_mem hb) (List.mem_singleton.mp q), Pw⟩
  · obtain ⟨j, hj⟩ := List.mem_iff_getElem?.mp hy
    rw [List.getElem?_set] at hj
    by_cases ij : i = j
    · subst ij
      rw [if_pos rfl, if_pos hlen] at hj
      obtain rfl := Option.some.inj hj
      obtain ⟨cl, A, e1, e2⟩ := F
      obtain ⟨-, cl0, -, -, -, e4, -⟩ := H.2.2.1 _ (own_mem hb)
      exact ⟨nb, cl, A, e1, e2, fun q => (e4 q).keep Kp, fun C hC => absurd hC (hty C)⟩
    · rw [if_neg ij] at hj
      obtain ⟨n1, cl, h1, h2, h3, h4, h5⟩ := H.2.2.1 _ (own_mem hj)
      exact ⟨n1, cl, ⟨Kp.2.1 _ _ h1.1 fun q => H.neAA hj hb (Ne.symm ij) (List.mem_singleton.mp q), h1.2⟩, h2, h3, fun q => (h4 q).keep Kp, h5⟩
  · rw [own_set_map (f := fun z => z.1) (x' := (b, ty, ad, vd')) hb rfl]; exact H.2.2.2
theorem own_range_take {vs : List Value} {sq nq : Nat} {d : Value} (hq : sq + nq ≤ vs.length) : (vs.drop sq).take nq = (List.range nq).map fun i => vs.getD (sq + i) d := by
  apply List.ext_getElem?
  intro i
  by_cases hi : i < nq
  · rw [List.getElem?_take_of_lt hi, List.getElem?_drop, List.getElem?_map, List.getElem?_range hi, Option.map_some, List.getD_eq_getElem?_getD, List.getElem?_eq_getElem (by omega)]; rfl
  · rw [List.getElem?_eq_none (by simp; omega), List.getElem?_eq_none (by simp; omega)]
theorem own_arraycopy (K : own_Cx p s m meth c Z own nm bytes maxL ret) {i ia ib : Nat} {a b : Addr} {ty : FieldType} {ada adb : String} {vs vd : List Value} {sp dp nn : Int32} {sq dq nq : Nat} (hd : own_D bytes pc (.invokestatic i) 3 pc') (w1 : (Cond.methodLink own i Jvm.Stand.acN).before a0 Z = true) (w2 : (Cond.native Jvm.Stand.acN).before a0 Z = true) (w3 : (Cond.static Jvm.Stand.acN).before a0 Z = true) (w4 : (Cond.initialized "java/lang/System").before a0 Z = true) (H : own_H Z h os as)
    (ha : as[ia]? = some (a, ty, ada, vs)) (hb' : as[ib]? = some (b, ty, adb, vd)) (hty : refKind ty = false) (hto : ∀ C, ty ≠ .object C) (hsp : sp.toInt = (sq : Int)) (hdp : dp.toInt = (dq : Int)) (hnn : nn.toInt = (nq : Int)) (h4 : sq + nq ≤ vs.length) (h5 : dq + nq ≤ vd.length) (hvl : vs.length < 2147483648) (hvd : vd.length < 2147483648) (hsz : Ls.size = maxL) (hf : 1 ≤ R.frames) {W : Nat} (hW : (st.map fun v => v.category).sum ≤ W) (hlo : W + (nativeFrameWords "java/lang/System" "arraycopy" 5 + 11) ≤ R.locals)
    (hr : ∀ h', own_H Z h' os (as.set ib (b, ty, adb, vd.take dq ++ (vs.drop sq).take nq ++ vd.drop (dq + nq))) → own_G w p l e R s m args below meth c Z Q h' k n (mkF m pc' Ls st)) : own_G w p l e R s m args below meth c Z Q h k n (mkF m pc Ls (.int nn :: .int dp :: .ref b :: .int sp :: .ref a :: st)) := by
  obtain ⟨hd, rfl⟩ := hd
  refine own_step K (P := fun h' => own_H Z h' os (as.set ib (b, ty, adb, vd.take dq ++ (vs.drop sq).take nq ++ vd.drop (dq + nq)))) (fun X hZ hw eT N => ?_) hr
  obtain ⟨ka, za, qa1, qa2, A⟩ := own_arv (H.2.2.1 _ (own_mem ha)).2 hvl
  obtain ⟨kb, zb, qb1, qb2, B⟩ := own_arv (H.2.2.1 _ (own_mem hb')).2 hvd
  have i1 := own_idx hsp
  have i2 := own_idx hdp
  have i3 := own_idx hnn
  have neg : ∀ {x : Int32} {q : Nat}, x.toInt = (q : Int) → ¬ x < 0 := fun {x q} e => by rw [Int32.lt_iff_toInt_lt, e, show (0 : Int32).toInt = 0 from rfl]; omega
  obtain ⟨T', h', L, X', e', N', Kp, A', st⟩ := cpA X K.1 hZ hw w1 w2 w3 w4 eT A B (Or.inl ⟨rfl, hty⟩) (neg hsp) (neg hdp) (neg hnn) (by rw [i1, i3, qa1]; exact h4) (by rw [i2, i3, qb1]; exact h5) (by rw [i1, i3]) (by rw [i2, i3]; exact h5) N (H.2.2.1 _ (own_mem hb')).1 (g := mkF m pc Ls (.int nn :: .int dp :: .ref b :: .int sp :: .ref a :: st)) rfl (hsz.trans K.2.2.1.symm) rfl (hb K.2.1 hd) hf (W := W) (by show 2 * 0 + _ ≤ W; simpa using hW) hlo
  rw [i2, i3, ← own_range_take h4] at A'
  obtain ⟨cl, c1, -, c3, c4⟩ := own_of_arv A' (by rw [qb1]; simp; omega)
  exact ⟨T', h', L, X', N', e', Kp.1, H.keepA hb' Kp ⟨cl, c1, c3, c4⟩ hto, st⟩
theorem own_cast {g g' : JFrame} (q : g = g') (hr : own_G w p l e R s m args below meth c Z Q h k n g') : own_G w p l e R s m args below meth c Z Q h k n g := q ▸ hr
theorem own_topI {x x' : Int32} (q : x = x') (hr : own_G w p l e R s m args below meth c Z Q h k n (mkF m pc Ls (.int x' :: st))) : own_G w p l e R s m args below meth c Z Q h k n (mkF m pc Ls (.int x :: st)) := q ▸ hr
theorem own_topL {x x' : Int64} (q : x = x') (hr : own_G w p l e R s m args below meth c Z Q h k n (mkF m pc Ls (.long x' :: st))) : own_G w p l e R s m args below meth c Z Q h k n (mkF m pc Ls (.long x :: st)) := q ▸ hr
theorem own_topD {x x' : UInt64} (q : x = x') (hr : own_G w p l e R s m args below meth c Z Q h k n (mkF m pc Ls (.double x' :: st))) : own_G w p l e R s m args below meth c Z Q h k n (mkF m pc Ls (.double x :: st)) := q ▸ hr
theorem own_H.perm (H : own_H Z h os as) (po : os.Perm os') (pa : as.Perm as') : own_H Z h os' as' :=
  ⟨H.1, fun o ho => H.2.1 o (po.mem_iff.mpr ho), fun a ha => H.2.2.1 a (pa.mem_iff.mpr ha), ((po.map _).append (pa.map _)).nodup_iff.mp H.2.2.2⟩
theorem own_front {α : Type} {L : List α} {x : α} : ∀ {i : Nat}, L[i]? = some x → L.Perm (x :: L.eraseIdx i) := by
  induction L with
  | nil => intro i hx; cases hx
  | cons y L ih =>
    intro i hx
    cases i with
    | zero => cases hx; exact List.Perm.refl _
    | succ i =>
      have q := ih (i := i) (by simpa using hx)
      exact ((q.cons y).trans (List.Perm.swap x y _))
theorem own_H.frontO (H : own_H Z h os as) (i : Nat) {x : own_O} (hx : os[i]? = some x) : own_H Z h (x :: os.eraseIdx i) as := H.perm (own_front hx) (List.Perm.refl _)
theorem own_H.frontA (H : own_H Z h os as) (i : Nat) {x : own_A} (hx : as[i]? = some x) : own_H Z h os (x :: as.eraseIdx i) := H.perm (List.Perm.refl _) (own_front hx)
end OwnKit
end Jvm.RoadKit
namespace Jvm.RoadKit
section OwnFlt
open Jvm.FP.Core
/-- a double in units of the least positive one -/
def own_z (a : UInt64) : Int := zval b64 (val64 a)
theorem own_fin {a : UInt64} (h : DFin a) : ∃ s c q, val64 a = .fin s c q ∧ b64.qmin ≤ q := by
  have hf := val64_fits a
  cases hv : val64 a with
  | nan => exact absurd hv (by have := h; unfold DFin at this; rw [hv] at this; exact absurd this (by simp))
  | inf s => exact absurd hv (by have := h; unfold DFin at this; rw [hv] at this; exact absurd this (by simp))
  | fin s c q => rw [hv] at hf; exact ⟨s, c, q, rfl, hf.2.1⟩
theorem own_units (c : Nat) {q : Int} {k : Nat} (hq : b64.qmin ≤ q) {e : Int} (he : e = b64.qmin - (k : Int)) : inUnits c q e = inUnits c q b64.qmin * 2 ^ k := by
  unfold inUnits
  have e1 : (q - e).toNat = (q - b64.qmin).toNat + k := by omega
  rw [e1, Nat.pow_add, Nat.mul_assoc]
theorem own_signed_mul (s t : Bool) (c d : Nat) : signed (s != t) (c * d) = signed s c * signed t d := by
  cases s <;> cases t <;> simp [signed, Int.natCast_mul, Int.neg_mul, Int.mul_neg]
theorem own_qmin : b64.qmin = -1074 := by decide
theorem own_mulU {a b : UInt64} {s t : Bool} {c d : Nat} {q r : Int} (ea : val64 a = .fin s c q) (eb : val64 b = .fin t d r) (hq : b64.qmin ≤ q) (hr : b64.qmin ≤ r) : signed (s != t) (inUnits (c * d) (q + r) (2 * b64.qmin)) = own_z a * own_z b := by
  have e1 : inUnits (c * d) (q + r) (2 * b64.qmin) = inUnits c q b64.qmin * inUnits d r b64.qmin := by
    unfold inUnits
    have : (q + r - 2 * b64.qmin).toNat = (q - b64.qmin).toNat + (r - b64.qmin).toNat := by omega
    rw [this, Nat.pow_add]; simp only [Nat.mul_assoc, Nat.mul_left_comm, Nat.mul_comm]
  rw [e1, own_signed_mul]
  unfold own_z zval; rw [ea, eb]; rfl
theorem own_pow1 : (2 ^ (b64.qmin - 2 * b64.qmin).toNat : Nat) = one64 := by decide +kernel
theorem own_mul_le {a b V : UInt64} (ha : DFin a) (hb : DFin b) (hV : val64 V ≠ .nan) (h : own_z a * own_z b ≤ own_z V * (one64 : Int)) : own_z (FP.dmul a b) ≤ own_z V := by
  obtain ⟨s, c, q, ea, hq⟩ := own_fin ha
  obtain ⟨t, d, r, eb, hr⟩ := own_fin hb
  have e := own_mulU ea eb hq hr
  have hm := own_qmin
  show zval b64 (val64 (dmul a b)) ≤ _
  rw [val64_dmul, ea, eb]
  refine zval_round_le good_b64 (val64_fits V) hV (e0 := 2 * b64.qmin) (by omega) (by omega) ?_
  rw [e, own_pow1]; exact h
theorem own_mul_ge {a b V : UInt64} (ha : DFin a) (hb : DFin b) (hV : val64 V ≠ .nan) (h : own_z V * (one64 : Int) ≤ own_z a * own_z b) : own_z V ≤ own_z (FP.dmul a b) := by
  obtain ⟨s, c, q, ea, hq⟩ := own_fin ha
  obtain ⟨t, d, r, eb, hr⟩ := own_fin hb
  have e := own_mulU ea eb hq hr
  have hm := own_qmin
  show _ ≤ zval b64 (val64 (dmul a b))
  rw [val64_dmul, ea, eb]
  refine zval_round_ge good_b64 (val64_fits V) hV (e0 := 2 * b64.qmin) (by omega) (by omega) ?_
  rw [e, own_pow1]; exact h
theorem own_sumU {a b : UInt64} {s t : Bool} {c d : Nat} {q r : Int} (ea : val64 a = .fin s c q) (eb : val64 b = .fin t d r) (hq : b64.qmin ≤ q) (hr : b64.qmin ≤ r) :
    signed (sumSign s t (sumUnits s c q t d r (min q r))) (inUnits (sumUnits s c q t d r (min q r)).natAbs (min q r) b64.qmin) = own_z a + own_z b := by
  have e1 : ∀ (v : Int) (k : Nat), signed (sumSign s t v) (v.natAbs * k) = v * k := by
    intro v k
    unfold sumSign
    by_cases hv : v = 0
    · subst hv; simp [signed]
    · rw [if_neg hv]
      by_cases hn : v < 0
      · simp only [hn, decide_true, signed, if_true, Int.natCast_mul]; rw [Int.ofNat_natAbs_of_nonpos (by omega), Int.neg_mul, Int.neg_neg]
      · simp only [hn, decide_false, signed, Int.natCast_mul]; simp; rw [Int.natAbs_of_nonneg (by omega)]
  have e2 : ∀ (x : Bool) (y : Nat) (k : Nat), signed x y * (k : Int) = signed x (y * k) := by
    intro x y k; cases x <;> simp [signed, Int.natCast_mul, Int.neg_mul]
  have e3 : ∀ (y : Nat) (q0 : Int), min q r ≤ q0 → inUnits y q0 (min q r) * 2 ^ (min q r - b64.qmin).toNat = inUnits y q0 b64.qmin := by
    intro y q0 h0
    unfold inUnits
    have : (q0 - b64.qmin).toNat = (q0 - min q r).toNat + (min q r - b64.qmin).toNat := by omega
    rw [this, Nat.pow_add, Nat.mul_assoc]
  have e4 : inUnits (sumUnits s c q t d r (min q r)).natAbs (min q r) b64.qmin = (sumUnits s c q t d r (min q r)).natAbs * 2 ^ (min q r - b64.qmin).toNat := rfl
  rw [e4, e1]
  unfold sumUnits
  rw [Int.add_mul, e2, e2, e3 c q (by omega), e3 d r (by omega)]
  unfold own_z zval; rw [ea, eb]; rfl
theorem own_add_le {a b V : UInt64} (ha : DFin a) (hb : DFin b) (hV : val64 V ≠ .nan) (h : own_z a + own_z b ≤ own_z V) : own_z (FP.dadd a b) ≤ own_z V := by
  obtain ⟨s, c, q, ea, hq⟩ := own_fin ha
  obtain ⟨t, d, r, eb, hr⟩ := own_fin hb
  have e := own_sumU ea eb hq hr
  show zval b64 (val64 (dadd a b)) ≤ _
  rw [val64_dadd, ea, eb]
  refine zval_round_le good_b64 (val64_fits V) hV (e0 := b64.qmin) (Int.le_refl _) (by omega) ?_
  rw [e, Int.sub_self]; simpa [own_z] using h
theorem own_add_ge {a b V : UInt64} (ha : DFin a) (hb : DFin b) (hV : val64 V ≠ .nan) (h : own_z V ≤ own_z a + own_z b) : own_z V ≤ own_z (FP.dadd a b) := by
  obtain ⟨s, c, q, ea, hq⟩ := own_fin ha
  obtain ⟨t, d, r, eb, hr⟩ := own_fin hb
  have e := own_sumU ea eb hq hr
  show _ ≤ zval b64 (val64 (dadd a b))
  rw [val64_dadd, ea, eb]
  refine zval_round_ge good_b64 (val64_fits V) hV (e0 := b64.qmin) (Int.le_refl _) (by omega) ?_
  rw [e, Int.sub_self]; simpa [own_z] using h
theorem own_divU {a b : UInt64} (ha : DFin a) (hb : DFin b) (na : 0 ≤ own_z a) (pb : 0 < own_z b) : ∃ (s : Bool) (c d : Nat) (q r : Int), val64 (ddiv a b) = roundRatio b64 s c d (q - r) ∧ 0 < d ∧ b64.qmin ≤ q ∧ b64.qmin ≤ r ∧ (inUnits c q b64.qmin : Int) = own_z a ∧ (inUnits d r b64.qmin : Int) = own_z b ∧ (s = false ∨ c = 0) := by
  obtain ⟨s, c, q, ea, hq⟩ := own_fin ha
  obtain ⟨t, d, r, eb, hr⟩ := own_fin hb
  have za : own_z a = signed s (inUnits c q b64.qmin) := by unfold own_z zval; rw [ea]; rfl
  have zb : own_z b = signed t (inUnits d r b64.qmin) := by unfold own_z zval; rw [eb]; rfl
  have pw : ∀ k : Nat, 0 < 2 ^ k := fun k => Nat.two_pow_pos k
  have ht : t = false := by
    cases t with
    | false => rfl
    | true => rw [zb] at pb; simp only [signed, if_true] at pb; omega
  subst ht
  have hd : 0 < d := by
    rcases Nat.eq_zero_or_pos d with h0 | h0
    · subst h0; rw [zb] at pb; simp [signed, inUnits] at pb
    · exact h0
  have zb' : (inUnits d r b64.qmin : Int) = own_z b := by rw [zb]; simp [signed]
  have hs : s = false ∨ c = 0 := by
    cases s with
    | false => exact Or.inl rfl
    | true =>
      right
      rw [za] at na; simp only [signed, if_true] at na
      have h0 : inUnits c q b64.qmin = 0 := by omega
      unfold inUnits at h0
      rcases Nat.mul_eq_zero.mp h0 with h1 | h1
      · exact h1
      · exact absurd h1 (Nat.ne_of_gt (pw _))
  have za' : (inUnits c q b64.qmin : Int) = own_z a := by
    rcases hs with rfl | rfl
    · rw [za]; simp [signed]
    · rw [za]; simp [inUnits, signed]
  refine ⟨s != false, c, d, q, r, ?_, hd, hq, hr, za', zb', ?_⟩
  · rw [val64_ddiv, ea, eb]
    show (if d = 0 then _ else _) = _
    rw [if_neg (Nat.ne_of_gt hd)]
  · rcases hs with rfl | rfl
    · exact Or.inl rfl
    · exact Or.inr rfl
theorem own_div_aux {c d : Nat} {q r : Int} (hq : b64.qmin ≤ q) (hr : b64.qmin ≤ r) : inUnits c (q - r) (2 * b64.qmin - r) = inUnits c q b64.qmin * one64 ∧ 2 ^ (b64.qmin - (2 * b64.qmin - r)).toNat * d = inUnits d r b64.qmin := by
  have hm := own_qmin
  constructor
  · have e1 : one64 = 2 ^ (-b64.qmin).toNat := by decide +kernel
    unfold inUnits
    have : (q - r - (2 * b64.qmin - r)).toNat = (q - b64.qmin).toNat + (-b64.qmin).toNat := by omega
    rw [e1, this, Nat.pow_add, Nat.mul_assoc]
  · unfold inUnits
    have : (b64.qmin - (2 * b64.qmin - r)).toNat = (r - b64.qmin).toNat := by omega
    rw [this, Nat.mul_comm]
theorem own_zq {s : Bool} {c d : Nat} {e : Int} (h : s = false ∨ c = 0) : zval b64 (roundRatio b64 s c d e) = (zmag b64 (roundRatio b64 s c d e) : Int) := by
  rcases h with rfl | rfl
  · unfold zval; rw [sgn_roundRatio]; simp [signed]
  · have : zmag b64 (roundRatio b64 s 0 d e) = 0 := by simp [roundRatio, zmag, inUnits]
    unfold zval; rw [this]; simp [signed]
theorem own_zV {V : UInt64} (vV : 0 ≤ own_z V) : (zmag b64 (val64 V) : Int) = own_z V := by
  unfold own_z zval at *
  cases hs : sgn (val64 V) with
  | false => simp [signed]
  | true => rw [hs] at vV; simp only [signed, if_true] at vV ⊢; omega
theorem own_div_le {a b V : UInt64} (ha : DFin a) (hb : DFin b) (na : 0 ≤ own_z a) (pb : 0 < own_z b) (hV : val64 V ≠ .nan) (vV : 0 ≤ own_z V) (h : own_z a * (one64 : Int) ≤ own_z V * own_z b) : own_z (FP.ddiv a b) ≤ own_z V := by
  obtain ⟨s, c, d, q, r, e, hd, hq, hr, za, zb, hs⟩ := own_divU ha hb na pb
  have hm := own_qmin
  obtain ⟨x1, x2⟩ := own_div_aux (c := c) (d := d) hq hr
  show zval b64 (val64 (ddiv a b)) ≤ _
  rw [e, own_zq hs, ← own_zV vV]
  have := zmag_roundRatio_le good_b64 (s := s) (A := c) (B := d) (e := q - r) (e0 := 2 * b64.qmin - r) hd (val64_fits V) hV (by omega) (by omega) (by
    rw [x1, Nat.mul_assoc, x2]
    have h' : ((inUnits c q b64.qmin * one64 : Nat) : Int) ≤ ((zmag b64 (val64 V) * inUnits d r b64.qmin : Nat) : Int) := by
      rw [Int.natCast_mul, Int.natCast_mul, za, zb, own_zV vV]; exact h
    exact Int.ofNat_le.mp h')
  exact Int.ofNat_le.mpr this
theorem own_div_ge {a b V : UInt64} (ha : DFin a) (hb : DFin b) (na : 0 ≤ own_z a) (pb : 0 < own_z b) (vV : 0 ≤ own_z V) (h : own_z V * own_z b ≤ own_z a * (one64 : Int)) : own_z V ≤ own_z (FP.ddiv a b) := by
  obtain ⟨s, c, d, q, r, e, hd, hq, hr, za, zb, hs⟩ := own_divU ha hb na pb
  have hm := own_qmin
  obtain ⟨x1, x2⟩ := own_div_aux (c := c) (d := d) hq hr
  show _ ≤ zval b64 (val64 (ddiv a b))
  rw [e, own_zq hs, ← own_zV vV]
  have := zmag_roundRatio_ge good_b64 (s := s) (A := c) (B := d) (e := q - r) (e0 := 2 * b64.qmin - r) hd (val64_fits V) (by omega) (by omega) (by
    rw [x1, Nat.mul_assoc, x2]
    have h' : ((zmag b64 (val64 V) * inUnits d r b64.qmin : Nat) : Int) ≤ ((inUnits c q b64.qmin * one64 : Nat) : Int) := by
      rw [Int.natCast_mul, Int.natCast_mul, za, zb, own_zV vV]; exact h
    exact Int.ofNat_le.mp h')
  exact Int.ofNat_le.mpr this
theorem own_dcmpz {a b : UInt64} (ha : Jvm.Free.Fl.NoNaN64 a) (hb : Jvm.Free.Fl.NoNaN64 b) : FP.dcmp a b = some (compare (own_z a) (own_z b)) := by
  show dcmp a b = _
  exact dcmp_zval ((notNaN_iff a).mp (Jvm.Free.Fl.noNaN64_no.mp ha)) ((notNaN_iff b).mp (Jvm.Free.Fl.noNaN64_no.mp hb))
theorem own_vn {a : UInt64} (ha : Jvm.Free.Fl.NoNaN64 a) : val64 a ≠ .nan := (notNaN_iff a).mp (Jvm.Free.Fl.noNaN64_no.mp ha)
theorem own_df {a : UInt64} (ha : Jvm.Free.Fl.Fin64 a) : DFin a := Jvm.Free.Fl.fin64_core.mp ha
end OwnFlt
end Jvm.RoadKit
namespace Jvm.RoadKit
section OwnRnd
open Jvm.FP.Core
/-- the rounding of A / B, in units of the least positive double -/
def own_N (A B : Nat) : Nat := zmag b64 (roundRatio b64 false A B b64.qmin)
/-- a finite double of sign +, of magnitude x -/
def own_P (a : UInt64) (x : Nat) : Prop := ∃ c q, val64 a = .fin false c q ∧ b64.qmin ≤ q ∧ inUnits c q b64.qmin = x
theorem own_P.fin {a : UInt64} {x : Nat} (h : own_P a x) : DFin a := by
  obtain ⟨c, q, e, -, -⟩ := h; unfold DFin; rw [e]; simp
theorem own_P.zmag {a : UInt64} {x : Nat} (h : own_P a x) : zmag b64 (val64 a) = x := by
  obtain ⟨c, q, e, -, h2⟩ := h; rw [e]; exact h2
theorem own_P.z {a : UInt64} {x : Nat} (h : own_P a x) : own_z a = (x : Int) := by
  obtain ⟨c, q, e, -, h2⟩ := h
  unfold own_z zval; rw [e]; show signed false (inUnits c q b64.qmin) = _; rw [h2]; simp [signed]
theorem own_P.nn {a : UInt64} {x : Nat} (h : own_P a x) : val64 a ≠ .nan := by
  obtain ⟨c, q, e, -, -⟩ := h; rw [e]; exact Datum.noConfusion
theorem own_N_le {A B v : Nat} {V : UInt64} (hB : 0 < B) (hV : own_P V v) (h : A ≤ v * B) : own_N A B ≤ v := by
  have := zmag_roundRatio_le good_b64 (s := false) (A := A) (B := B) (e := b64.qmin) (e0 := b64.qmin) hB (val64_fits V) hV.nn (Int.le_refl _) (Int.le_refl _) (by
    rw [hV.zmag, Int.sub_self]; simpa [inUnits] using h)
  rw [hV.zmag] at this; exact this
theorem own_N_ge {A B v : Nat} {V : UInt64} (hB : 0 < B) (hV : own_P V v) (h : v * B ≤ A) : v ≤ own_N A B := by
  have := zmag_roundRatio_ge good_b64 (s := false) (A := A) (B := B) (e := b64.qmin) (e0 := b64.qmin) hB (val64_fits V) (Int.le_refl _) (Int.le_refl _) (by
    rw [hV.zmag, Int.sub_self]; simpa [inUnits] using h)
  rw [hV.zmag] at this; exact this
theorem own_N_eq {A B v : Nat} {V : UInt64} (hB : 0 < B) (hV : own_P V v) (h : v * B = A) : own_N A B = v :=
  Nat.le_antisymm (own_N_le hB hV (by omega)) (own_N_ge hB hV (by omega))
/-- a great double: 2^1000 -/
def own_pw (n : Nat) : Nat := if n = 0 then 1 else 2 * own_pw (n - 1)
termination_by n
decreasing_by omega
theorem own_pw_eq (n : Nat) : own_pw n = 2 ^ n := by
  induction n with
  | zero => unfold own_pw; rfl
  | succ n ih => unfold own_pw; rw [if_neg (Nat.succ_ne_zero n), Nat.add_sub_cancel, ih, Nat.pow_succ, Nat.mul_comm]
def own_bX : Nat := own_pw 2074
theorem own_bX_eq : own_bX = 2 ^ 2074 := own_pw_eq 2074
theorem own_Pbig : own_P 9110782046170513408 (own_bX) := ⟨4503599627370496, 948, by decide +kernel, by decide +kernel, by rw [own_bX_eq]; decide +kernel⟩
theorem own_N_fin {A B : Nat} (hB : 0 < B) (h : A ≤ own_bX * B) : ∃ c q, roundRatio b64 false A B b64.qmin = .fin false c q ∧ b64.qmin ≤ q := by
  have hf := roundRatio_fits good_b64 false A hB b64.qmin
  rcases roundRatio_cases b64 false A B b64.qmin with ⟨c, q, e⟩ | e
  · rw [e] at hf; exact ⟨c, q, e, hf.2.1⟩
  · have k := own_N_le hB own_Pbig h
    unfold own_N at k; rw [e] at k
    rw [own_bX_eq] at k
    exact absurd k (by decide +kernel)
theorem own_PN {r : UInt64} {A B : Nat} (hB : 0 < B) (h : A ≤ own_bX * B) (e : val64 r = roundRatio b64 false A B b64.qmin) : own_P r (own_N A B) := by
  obtain ⟨c, q, e2, h2⟩ := own_N_fin hB h
  refine ⟨c, q, by rw [e, e2], h2, ?_⟩
  unfold own_N; rw [e2]; rfl
theorem own_Padd {a b : UInt64} {x y : Nat} (ha : own_P a x) (hb : own_P b y) (h : x + y ≤ own_bX) : own_P (FP.dadd a b) (own_N (x + y) 1) := by
  obtain ⟨c, q, ea, hq, za⟩ := ha
  obtain ⟨d, r, eb, hr, zb⟩ := hb
  refine own_PN (by decide) (by omega) ?_
  show val64 (dadd a b) = _
  rw [val64_dadd, ea, eb]
  have e1 : ∀ (y : Nat) (q0 : Int), min q r ≤ q0 → inUnits y q0 (min q r) * 2 ^ (min q r - b64.qmin).toNat = inUnits y q0 b64.qmin := by
    intro y q0 h0
    unfold inUnits
    have : (q0 - b64.qmin).toNat = (q0 - min q r).toNat + (min q r - b64.qmin).toNat := by omega
    rw [this, Nat.pow_add, Nat.mul_assoc]
  have e2 : sumUnits false c q false d r (min q r) = ((inUnits c q (min q r) + inUnits d r (min q r) : Nat) : Int) := by
    unfold sumUnits; simp [signed]
  have e3 : exactSum (.fin false c q) (.fin false d r) = .fin false (inUnits c q (min q r) + inUnits d r (min q r)) (min q r) := by
    show Datum.fin (sumSign false false (sumUnits false c q false d r (min q r))) (sumUnits false c q false d r (min q r)).natAbs (min q r) = _
    rw [e2, Int.natAbs_natCast]
    congr 1
    unfold sumSign
    split
    · rfl
    · exact decide_eq_false (by omega)
  rw [e3]
  show roundRatio b64 false _ 1 _ = _
  refine roundRatio_congr (by decide) (by decide) ?_
  rw [show (b64.qmin - min q r).toNat = 0 by omega, Nat.mul_one, Nat.mul_one, Nat.mul_one, Nat.add_mul, e1 c q (by omega), e1 d r (by omega), za, zb]
theorem own_Pmul {a b : UInt64} {x y : Nat} (ha : own_P a x) (hb : own_P b y) (h : x * y ≤ own_bX * one64) : own_P (FP.dmul a b) (own_N (x * y) one64) := by
  obtain ⟨c, q, ea, hq, za⟩ := ha
  obtain ⟨d, r, eb, hr, zb⟩ := hb
  have hm := own_qmin
  refine own_PN one64_pos h ?_
  show val64 (dmul a b) = _
  rw [val64_dmul, ea, eb]
  show roundRatio b64 false (c * d) 1 (q + r) = _
  refine roundRatio_congr (by decide) one64_pos ?_
  have e1 : one64 = 2 ^ (-b64.qmin).toNat := pow_qmin64.symm
  rw [Nat.mul_one, ← za, ← zb, e1]
  unfold inUnits
  have hM : (((-b64.qmin).toNat : Nat) : Int) = -b64.qmin := by omega
  generalize (-b64.qmin).toNat = M at hM
  generalize b64.qmin = Q at *
  have k : ∀ m n : Nat, 2 ^ m * 2 ^ n = 2 ^ (m + n) := fun m n => (Nat.pow_add 2 m n).symm
  have l : c * d * 2 ^ M * 2 ^ (q + r - Q).toNat = c * d * 2 ^ (M + (q + r - Q).toNat) := by rw [Nat.mul_assoc, k]
  have l2 : c * 2 ^ (q - Q).toNat * (d * 2 ^ (r - Q).toNat) * 2 ^ (Q - (q + r)).toNat = c * d * 2 ^ ((q - Q).toNat + (r - Q).toNat + (Q - (q + r)).toNat) := by
    rw [Nat.pow_add, Nat.pow_add]; ac_rfl
  rw [l, l2, show M + (q + r - Q).toNat = (q - Q).toNat + (r - Q).toNat + (Q - (q + r)).toNat by omega]
theorem own_Pdiv {a b : UInt64} {x y : Nat} (ha : own_P a x) (hb : own_P b y) (hy : 0 < y) (h : x * one64 ≤ own_bX * y) : own_P (FP.ddiv a b) (own_N (x * one64) y) := by
  obtain ⟨c, q, ea, hq, za⟩ := ha
  obtain ⟨d, r, eb, hr, zb⟩ := hb
  have hm := own_qmin
  have hd : 0 < d := by
    rcases Nat.eq_zero_or_pos d with h0 | h0
    · subst h0; unfold inUnits at zb; omega
    · exact h0
  refine own_PN hy h ?_
  show val64 (ddiv a b) = _
  rw [val64_ddiv, ea, eb]
  show (if d = 0 then _ else roundRatio b64 (false != false) c d (q - r)) = _
  rw [if_neg (Nat.ne_of_gt hd)]
  refine roundRatio_congr hd hy ?_
  have e1 : one64 = 2 ^ (-b64.qmin).toNat := pow_qmin64.symm
  rw [← za, ← zb, e1]
  unfold inUnits
  have hM : (((-b64.qmin).toNat : Nat) : Int) = -b64.qmin := by omega
  generalize (-b64.qmin).toNat = M at hM
  generalize b64.qmin = Q at *
  have l : c * (d * 2 ^ (r - Q).toNat) * 2 ^ (q - r - Q).toNat = c * d * 2 ^ ((r - Q).toNat + (q - r - Q).toNat) := by rw [Nat.pow_add]; ac_rfl
  have l2 : c * 2 ^ (q - Q).toNat * 2 ^ M * d * 2 ^ (Q - (q - r)).toNat = c * d * 2 ^ ((q - Q).toNat + M + (Q - (q - r)).toNat) := by
    rw [Nat.pow_add, Nat.pow_add]; ac_rfl
  rw [l, l2, show (r - Q).toNat + (q - r - Q).toNat = (q - Q).toNat + M + (Q - (q - r)).toNat by omega]
/-- rounding is monotone -/
theorem own_N_mono {A B A' B' : Nat} (hB : 0 < B) (hB' : 0 < B') (h1 : A ≤ own_bX * B) (h2 : A' ≤ own_bX * B') (h : A * B' ≤ A' * B) : own_N A B ≤ own_N A' B' := by
  rcases Nat.eq_or_lt_of_le h with h | h
  · have := roundRatio_congr (f := b64) (s := false) (A := A) (B := B) (A' := A') (B' := B') (e := b64.qmin) (e' := b64.qmin) hB hB' (by rw [Int.sub_self]; simpa using h)
    unfold own_N; rw [this]; exact Nat.le_refl _
  · obtain ⟨c, q, e, hq⟩ := own_N_fin hB h1
    obtain ⟨d, r, e', hr⟩ := own_N_fin hB' h2
    have f1 := roundRatio_fits good_b64 false A hB b64.qmin
    have f2 := roundRatio_fits good_b64 false A' hB' b64.qmin
    rw [e] at f1; rw [e'] at f2
    have n1 := roundRatio_nearest good_b64 (e0 := b64.qmin) hB e f2.1 hr (Int.le_refl _) (Int.le_refl _)
    have n2 := roundRatio_nearest good_b64 (e0 := b64.qmin) hB' e' f1.1 hq (Int.le_refl _) (Int.le_refl _)
    have u1 : own_N A B = inUnits c q b64.qmin := by unfold own_N; rw [e]; rfl
    have u2 : own_N A' B' = inUnits d r b64.qmin := by unfold own_N; rw [e']; rfl
    unfold distance at n1 n2
    rw [← u1, ← u2] at n1 n2
    have ia : ∀ X : Nat, inUnits X b64.qmin b64.qmin = X := fun X => by unfold inUnits; rw [Int.sub_self]; simp
    rw [ia] at n1 n2
    generalize own_N A B = u at n1 n2 ⊢
    generalize own_N A' B' = w at n1 n2 ⊢
    refine Nat.le_of_not_lt fun hw => ?_
    -- w < u
    have m1 : 2 * (A : Int) ≥ (u + w : Int) * B := by
      have hlt : (w : Int) * B < (u : Int) * B := Int.mul_lt_mul_of_pos_right (by omega) (by omega)
      rw [Int.add_mul]; omega
    have m2 : 2 * (A' : Int) ≤ (u + w : Int) * B' := by
      have hlt : (w : Int) * B' < (u : Int) * B' := Int.mul_lt_mul_of_pos_right (by omega) (by omega)
      rw [Int.add_mul]; omega
    have m3 := Int.mul_le_mul_of_nonneg_right m1 (show (0 : Int) ≤ B' by omega)
    have m4 := Int.mul_le_mul_of_nonneg_right m2 (show (0 : Int) ≤ B by omega)
    have hc : (A : Int) * B' < (A' : Int) * B := by rw [← Int.natCast_mul, ← Int.natCast_mul]; omega
    have x1 : (u + w : Int) * B * B' = (u + w : Int) * B' * B := by rw [Int.mul_assoc, Int.mul_assoc, Int.mul_comm (B : Int)]
    rw [Int.mul_assoc 2] at m3 m4
    omega
/-- a double near below: c digits -/
theorem own_rel {A B : Nat} (hB : 0 < B) (h1 : 2 ^ 52 * B ≤ A) (h2 : A ≤ 2 ^ 2000 * B) : 2 ^ 52 * A ≤ own_N A B * B * (2 ^ 52 + 1) ∧ own_N A B * B * 2 ^ 52 ≤ (2 ^ 52 + 1) * A := by
  have hn1 : 2 ^ 52 ≤ A / B := (Nat.le_div_iff_mul_le hB).mpr h1
  have hn2 : A / B ≤ 2 ^ 2000 := Nat.div_le_of_le_mul (by rw [Nat.mul_comm]; exact h2)
  have hn0 : A / B ≠ 0 := by omega
  have d1 : A / B * B ≤ A := Nat.div_mul_le_self A B
  have d2 : A < (A / B + 1) * B := by
    have := Nat.lt_div_mul_add (a := A) hB; rw [Nat.add_mul, Nat.one_mul]; exact this
  have l1 : 2 ^ (A / B).log2 ≤ A / B := Nat.log2_self_le hn0
  have l2 : A / B < 2 ^ ((A / B).log2 + 1) := Nat.lt_log2_self
  have l3 : 52 ≤ (A / B).log2 := by
    have : 2 ^ 52 < 2 ^ ((A / B).log2 + 1) := Nat.lt_of_le_of_lt hn1 l2
    have := (Nat.pow_lt_pow_iff_right (by decide : 1 < 2)).mp this; omega
  have l4 : (A / B).log2 ≤ 2000 := by
    have : 2 ^ (A / B).log2 ≤ 2 ^ 2000 := Nat.le_trans l1 hn2
    exact (Nat.pow_le_pow_iff_right (by decide : 1 < 2)).mp this
  generalize hL : (A / B).log2 = L at l1 l2 l3 l4
  generalize hn : A / B = n at *
  obtain ⟨k, rfl⟩ : ∃ k, L = 52 + k := ⟨L - 52, by omega⟩
  have pk : 0 < 2 ^ k := Nat.two_pow_pos k
  have c1 : 2 ^ 52 ≤ n / 2 ^ k := (Nat.le_div_iff_mul_le pk).mpr (by rw [← Nat.pow_add]; exact l1)
  have c2 : n / 2 ^ k < 2 ^ 53 := (Nat.div_lt_iff_lt_mul pk).mpr (by rw [← Nat.pow_add]; have : 53 + k = 52 + k + 1 := by omega
                                                                     rw [this]; exact l2)
  have c3 : n / 2 ^ k * 2 ^ k ≤ n := Nat.div_mul_le_self n _
  have c4 : n + 1 ≤ (n / 2 ^ k + 1) * 2 ^ k := by
    have := Nat.lt_div_mul_add (a := n) pk; rw [Nat.add_mul, Nat.one_mul]; exact this
  generalize n / 2 ^ k = c at c1 c2 c3 c4
  have hm := own_qmin
  have iu : ∀ (c j : Nat), inUnits c (b64.qmin + (j : Int)) b64.qmin = c * 2 ^ j := by
    intro c j; unfold inUnits; rw [show (b64.qmin + (j : Int) - b64.qmin).toNat = j by omega]
  have hp : b64.p = 53 := by decide
  have ht : b64.tails = 2 ^ 52 := by decide
  have hqx : b64.qmax = 971 := by decide
  have hfit : ∀ c j : Nat, 2 ^ 52 ≤ c → c < 2 ^ 53 → j ≤ 1999 → FP.Core.fits b64 (Datum.fin false c (b64.qmin + (j : Int))) := by
    intro c j a1 a2 a3
    refine ⟨by rw [hp]; exact a2, by omega, by omega, Or.inr (by rw [ht]; exact a1)⟩
  have lo : c * 2 ^ k ≤ own_N A B := by
    have := zmag_roundRatio_ge good_b64 (s := false) (A := A) (B := B) (e := b64.qmin) (e0 := b64.qmin) hB (hfit c k c1 c2 (by omega)) (Int.le_refl _) (Int.le_refl _) (by
      show inUnits c (b64.qmin + (k : Int)) b64.qmin * _ * B ≤ _
      rw [iu, Int.sub_self]
      show c * 2 ^ k * 2 ^ 0 * B ≤ inUnits A b64.qmin b64.qmin
      rw [show inUnits A b64.qmin b64.qmin = A by unfold inUnits; rw [Int.sub_self]; simp, Nat.pow_zero, Nat.mul_one]
      exact Nat.le_trans (Nat.mul_le_mul_right _ c3) d1)
    have e : zmag b64 (.fin false c (b64.qmin + (k : Int))) = c * 2 ^ k := iu c k
    rw [e] at this; exact this
  have hi0 : ∀ (c' j : Nat), 2 ^ 52 ≤ c' → c' < 2 ^ 53 → j ≤ 1999 → c' * 2 ^ j = (c + 1) * 2 ^ k → own_N A B ≤ (c + 1) * 2 ^ k := by
    intro c' j a1 a2 a3 a4
    have := zmag_roundRatio_le good_b64 (s := false) (A := A) (B := B) (e := b64.qmin) (e0 := b64.qmin) hB (hfit c' j a1 a2 a3) Datum.noConfusion (Int.le_refl _) (Int.le_refl _) (by
      show _ ≤ inUnits c' (b64.qmin + (j : Int)) b64.qmin * _ * B
      rw [iu, Int.sub_self, a4]
      show inUnits A b64.qmin b64.qmin ≤ (c + 1) * 2 ^ k * 2 ^ 0 * B
      rw [show inUnits A b64.qmin b64.qmin = A by unfold inUnits; rw [Int.sub_self]; simp, Nat.pow_zero, Nat.mul_one]
      exact Nat.le_trans (Nat.le_of_lt d2) (Nat.mul_le_mul_right _ c4))
    have e : zmag b64 (.fin false c' (b64.qmin + (j : Int))) = c' * 2 ^ j := iu c' j
    rw [e, a4] at this; exact this
  have hi : own_N A B ≤ (c + 1) * 2 ^ k := by
    rcases Nat.lt_or_ge (c + 1) (2 ^ 53) with g | g
    · exact hi0 (c + 1) k (by omega) g (by omega) rfl
    · have gc : c + 1 = 2 ^ 52 * 2 := by omega
      exact hi0 (2 ^ 52) (k + 1) (by omega) (by omega) (by omega) (by rw [gc, Nat.pow_succ 2 k]; generalize 2 ^ k = w; omega)
  generalize own_N A B = z at lo hi
  -- c * 2^k * B ≤ A < (c+1) * 2^k * B
  have A1 : c * (2 ^ k * B) ≤ A := by rw [← Nat.mul_assoc]; exact Nat.le_trans (Nat.mul_le_mul_right _ c3) d1
  have A2 : A ≤ (c + 1) * (2 ^ k * B) := by rw [← Nat.mul_assoc]; exact Nat.le_trans (Nat.le_of_lt d2) (Nat.mul_le_mul_right _ c4)
  have Z1 : c * (2 ^ k * B) ≤ z * B := by rw [← Nat.mul_assoc]; exact Nat.mul_le_mul_right _ lo
  have Z2 : z * B ≤ (c + 1) * (2 ^ k * B) := by rw [← Nat.mul_assoc]; exact Nat.mul_le_mul_right _ hi
  generalize 2 ^ k * B = w at *
  generalize z * B = y at *
  rw [Nat.add_mul, Nat.one_mul] at A2 Z2
  have W : 2 ^ 52 * w ≤ c * w := Nat.mul_le_mul_right _ c1
  constructor <;> omega
end OwnRnd
end Jvm.RoadKit
namespace Jvm.RoadKit
section OwnBm
open Jvm.FP.Core ClassFile Op
/-- 2^-54, in units of the least double -/
def own_u : Nat := own_pw 1020
theorem own_u_eq : own_u = 2 ^ 1020 := own_pw_eq 1020
theorem own_bone : one64 = 2 ^ 54 * own_u := by rw [own_u_eq]; decide +kernel
theorem own_u1 : 2 ^ 100 ≤ own_u := by rw [own_u_eq]; decide +kernel
theorem own_uG : 2 ^ 154 * own_u ≤ 2 ^ 2000 := by rw [own_u_eq]; decide +kernel
theorem own_uG' : 2 ^ 2000 ≤ own_bX := by rw [own_bX_eq]; decide +kernel
theorem own_P0 : own_P 0 0 := ⟨0, b64.qmin, by decide +kernel, by decide +kernel, by decide +kernel⟩
theorem own_Pof {a : UInt64} {c : Nat} {q : Int} {x : Nat} (h1 : val64 a = .fin false c q) (h2 : b64.qmin ≤ q) (h3 : inUnits c q b64.qmin = x) : own_P a x := ⟨c, q, h1, h2, h3⟩
theorem own_P12 : own_P 4608083138725491507 (21617278211378380 * own_u) := own_Pof (c := 5404319552844595) (q := -52) (by decide +kernel) (by decide +kernel) (by rw [own_u_eq]; decide +kernel)
theorem own_P03 : own_P 4599075939470750515 (5404319552844595 * own_u) := own_Pof (c := 5404319552844595) (q := -54) (by decide +kernel) (by decide +kernel) (by rw [own_u_eq]; decide +kernel)
theorem own_P025 : own_P 4598175219545276416 (2 ^ 52 * own_u) := own_Pof (c := 2 ^ 52) (q := -54) (by decide +kernel) (by decide +kernel) (by rw [own_u_eq]; decide +kernel)
theorem own_P075 : own_P 4604930618986332160 (3 * 2 ^ 52 * own_u) := own_Pof (c := 3 * 2 ^ 51) (q := -53) (by decide +kernel) (by decide +kernel) (by rw [own_u_eq]; decide +kernel)
theorem own_P1 : own_P 4607182418800017408 (2 ^ 54 * own_u) := own_Pof (c := 2 ^ 52) (q := -52) (by decide +kernel) (by decide +kernel) (by rw [own_u_eq]; decide +kernel)
theorem own_P4 : own_P 4616189618054758400 (2 ^ 56 * own_u) := own_Pof (c := 2 ^ 52) (q := -50) (by decide +kernel) (by decide +kernel) (by rw [own_u_eq]; decide +kernel)
theorem own_Ptwo (k : Nat) (hk : k ≤ 36) : ∃ V, own_P V (2 ^ k * (2 ^ 54 * own_u)) := by
  have : ∀ k : Fin 37, val64 (UInt64.ofNat ((1023 + k.val) * 2 ^ 52)) = .fin false (2 ^ 52) (-52 + (k.val : Int)) ∧ inUnits (2 ^ 52) (-52 + (k.val : Int)) b64.qmin = 2 ^ k.val * (2 ^ 54 * own_u) := by rw [own_u_eq]; decide +kernel
  have t := this ⟨k, by omega⟩
  exact ⟨_, own_Pof t.1 (by have := own_qmin; show b64.qmin ≤ -52 + (k : Int); omega) t.2⟩
theorem own_Psm : ∃ V, own_P V (2 ^ 18 * own_u) := ⟨UInt64.ofNat ((1023 - 36) * 2 ^ 52), own_Pof (c := 2 ^ 52) (q := -88) (by decide +kernel) (by decide +kernel) (by rw [own_u_eq]; decide +kernel)⟩
theorem own_Pnear : ∃ V, own_P V ((2 ^ 54 - 2 ^ 24) * own_u) := ⟨UInt64.ofNat (1023 * 2 ^ 52 - 2 ^ 23), own_Pof (c := 2 ^ 53 - 2 ^ 23) (q := -53) (by decide +kernel) (by decide +kernel) (by rw [own_u_eq]; decide +kernel)⟩
/-- bounds in units of u -/
theorem own_bG {A B : Nat} (h : A ≤ 2 ^ 154 * own_u * B) : A ≤ own_bX * B ∧ A ≤ 2 ^ 2000 * B :=
  ⟨Nat.le_trans h (Nat.mul_le_mul_right B (Nat.le_trans own_uG own_uG')), Nat.le_trans h (Nat.mul_le_mul_right B own_uG)⟩
theorem own_bmono {A B A' B' : Nat} (hB : 0 < B) (hB' : 0 < B') (h1 : A ≤ 2 ^ 154 * own_u * B) (h2 : A' ≤ 2 ^ 154 * own_u * B') (h : A * B' ≤ A' * B) : own_N A B ≤ own_N A' B' :=
  own_N_mono hB hB' (own_bG h1).1 (own_bG h2).1 h
theorem own_N_dy {c j B : Nat} (hB : 0 < B) (hc : c < 2 ^ 53) (hj : j ≤ 2045) : own_N (c * 2 ^ j * B) B = c * 2 ^ j := by
  have hp : b64.p = 53 := by decide
  have hx : b64.qmax = 971 := by decide
  have hm := own_qmin
  have e := roundRatio_congr (f := b64) (s := false) (A := c * 2 ^ j * B) (B := B) (A' := c) (B' := 1) (e := b64.qmin) (e' := b64.qmin + (j : Int)) hB (by decide) (by
    rw [show (b64.qmin - (b64.qmin + (j : Int))).toNat = 0 by omega, show (b64.qmin + (j : Int) - b64.qmin).toNat = j by omega, Nat.pow_zero, Nat.mul_one, Nat.mul_one]
    ac_rfl)
  obtain ⟨c', q', e2, e3⟩ := round_exact good_b64 false (c := c) (q := b64.qmin + (j : Int)) (by rw [hp]; exact hc) (by omega) (by omega)
  unfold own_N
  rw [e]
  show zmag b64 (round b64 (.fin false c (b64.qmin + (j : Int)))) = _
  rw [e2]
  show inUnits c' q' b64.qmin = _
  rw [e3]; unfold inUnits; rw [show (b64.qmin + (j : Int) - b64.qmin).toNat = j by omega]
def own_bD (l : Nat) : Nat := own_N (3 * 2 ^ 52 * own_u * (l * (2 ^ 54 * own_u))) (2 ^ 54 * own_u)
def own_bQ (l A : Nat) : Nat := own_N (own_bD l * (2 ^ 54 * own_u)) A
def own_bg (l A : Nat) : Nat := own_N (2 ^ 52 * own_u + own_bQ l A) 1
def own_bk (l A : Nat) : Nat := own_N (21617278211378380 * own_u * own_bg l A) (2 ^ 54 * own_u)
def own_bS (F l A : Nat) : Nat := own_N (F + own_bk l A) 1
def own_bT (F l A : Nat) : Nat := own_N (F * (2 ^ 54 * own_u)) (own_bS F l A)
theorem own_up : 0 < own_u := by rw [own_u_eq]; exact Nat.two_pow_pos _
theorem own_Up : 0 < 2 ^ 54 * own_u := Nat.mul_pos (by decide) own_up
theorem own_Dle {l : Nat} (hl : l ≤ 2 ^ 31) : own_bD l ≤ 2 ^ 31 * (2 ^ 54 * own_u) := by
  obtain ⟨V, hV⟩ := own_Ptwo 31 (by decide)
  refine own_N_le own_Up hV ?_
  rw [← Nat.mul_assoc]
  refine Nat.mul_le_mul_right _ ?_
  have : 3 * 2 ^ 52 * own_u * l ≤ 3 * 2 ^ 52 * own_u * 2 ^ 31 := Nat.mul_le_mul_left _ hl
  generalize own_u = u at *
  omega
theorem own_Qle {l A : Nat} (hl : l ≤ 2 ^ 31) (hA : 2 ^ 52 * own_u ≤ A) : own_bQ l A ≤ 2 ^ 33 * (2 ^ 54 * own_u) := by
  obtain ⟨V, hV⟩ := own_Ptwo 33 (by decide)
  have up := own_up
  refine own_N_le (by omega) hV ?_
  have d := own_Dle hl
  have : own_bD l ≤ 2 ^ 33 * A := by omega
  calc own_bD l * (2 ^ 54 * own_u) ≤ 2 ^ 33 * A * (2 ^ 54 * own_u) := Nat.mul_le_mul_right _ this
    _ = _ := by ac_rfl
theorem own_gle {l A : Nat} (hl : l ≤ 2 ^ 31) (hA : 2 ^ 52 * own_u ≤ A) : own_bg l A ≤ 2 ^ 34 * (2 ^ 54 * own_u) := by
  obtain ⟨V, hV⟩ := own_Ptwo 34 (by decide)
  have q := own_Qle hl hA
  exact own_N_le (by decide) hV (by omega)
theorem own_gge {l A : Nat} : 2 ^ 52 * own_u ≤ own_bg l A := own_N_ge (by decide) own_P025 (by omega)
theorem own_kle {l A : Nat} (hl : l ≤ 2 ^ 31) (hA : 2 ^ 52 * own_u ≤ A) : own_bk l A ≤ 2 ^ 35 * (2 ^ 54 * own_u) := by
  obtain ⟨V, hV⟩ := own_Ptwo 35 (by decide)
  have g := own_gle hl hA
  refine own_N_le own_Up hV ?_
  calc 21617278211378380 * own_u * own_bg l A ≤ 2 * (2 ^ 54 * own_u) * (2 ^ 34 * (2 ^ 54 * own_u)) := Nat.mul_le_mul (by omega) g
    _ = _ := by rw [show (2 : Nat) ^ 35 = 2 * 2 ^ 34 by decide]; generalize 2 ^ 54 * own_u = U; generalize 2 ^ 34 = x; ac_rfl
theorem own_kge {l A : Nat} : 2 ^ 52 * own_u ≤ own_bk l A := by
  refine own_N_ge own_Up own_P025 ?_
  calc 2 ^ 52 * own_u * (2 ^ 54 * own_u) = (2 ^ 54 * own_u) * (2 ^ 52 * own_u) := Nat.mul_comm _ _
    _ ≤ 21617278211378380 * own_u * own_bg l A := Nat.mul_le_mul (by omega) own_gge
theorem own_Sle {F l A : Nat} (hF : F ≤ 2 ^ 21 * (2 ^ 54 * own_u)) (hl : l ≤ 2 ^ 31) (hA : 2 ^ 52 * own_u ≤ A) : own_bS F l A ≤ 2 ^ 36 * (2 ^ 54 * own_u) := by
  obtain ⟨V, hV⟩ := own_Ptwo 36 (by decide)
  have k := own_kle hl hA
  exact own_N_le (by decide) hV (by omega)
theorem own_Sge {F l A : Nat} : 2 ^ 52 * own_u ≤ own_bS F l A := by
  have k := own_kge (l := l) (A := A)
  exact own_N_ge (by decide) own_P025 (by omega)
theorem own_aux1 (u : Nat) : 3 * 2 ^ 52 * u * 2 ^ 31 ≤ 2 ^ 154 * u * 1 := by omega
theorem own_tfP {fd ad : UInt64} {dl : Int32} {F l A : Nat} (hF : own_P fd F) (hL : own_P (FP.i2d dl) (l * (2 ^ 54 * own_u))) (hA : own_P ad A) (bF : F ≤ 2 ^ 21 * (2 ^ 54 * own_u)) (bl : l ≤ 2 ^ 31) (bA : 2 ^ 52 * own_u ≤ A) :
    own_P (FP.dmul 4604930618986332160 (FP.i2d dl)) (own_bD l) ∧ own_P (FP.ddiv (FP.dmul 4604930618986332160 (FP.i2d dl)) ad) (own_bQ l A) ∧ own_P (FP.dadd 4598175219545276416 (FP.ddiv (FP.dmul 4604930618986332160 (FP.i2d dl)) ad)) (own_bg l A) ∧
    own_P (FP.dmul 4608083138725491507 (FP.dadd 4598175219545276416 (FP.ddiv (FP.dmul 4604930618986332160 (FP.i2d dl)) ad))) (own_bk l A) ∧
    own_P (FP.dadd fd (FP.dmul 4608083138725491507 (FP.dadd 4598175219545276416 (FP.ddiv (FP.dmul 4604930618986332160 (FP.i2d dl)) ad)))) (own_bS F l A) ∧
    own_P (FP.ddiv fd (FP.dadd fd (FP.dmul 4608083138725491507 (FP.dadd 4598175219545276416 (FP.ddiv (FP.dmul 4604930618986332160 (FP.i2d dl)) ad))))) (own_bT F l A) := by
  have up := own_up
  have u1 := own_u1
  have one := own_bone
  have Dl := own_Dle bl
  have Ql := own_Qle bl bA
  have gl := own_gle bl bA
  have kl := own_kle bl bA
  have Sg := own_Sge (F := F) (l := l) (A := A)
  have p1 : own_P (FP.dmul 4604930618986332160 (FP.i2d dl)) (own_bD l) := by
    have := own_Pmul own_P075 hL (by
      rw [one, ← Nat.mul_assoc]
      refine Nat.mul_le_mul_right _ ?_
      have h1 : 3 * 2 ^ 52 * own_u * l ≤ 3 * 2 ^ 52 * own_u * 2 ^ 31 := Nat.mul_le_mul_left _ bl
      have h2 : 3 * 2 ^ 52 * own_u * 2 ^ 31 ≤ 2 ^ 154 * own_u * 1 := own_aux1 _
      have h3 := (own_bG (Nat.le_trans h1 h2)).1
      rw [Nat.mul_one] at h3; exact h3)
    rw [one] at this; exact this
  have p2 : own_P _ (own_N (own_bD l * one64) A) := own_Pdiv p1 hA (by omega) (by
    rw [one]
    refine (own_bG ?_).1
    have h1 : own_bD l ≤ 2 ^ 33 * A := by omega
    calc own_bD l * (2 ^ 54 * own_u) ≤ 2 ^ 33 * A * (2 ^ 54 * own_u) := Nat.mul_le_mul_right _ h1
      _ = 2 ^ 87 * own_u * A := by rw [show (2 : Nat) ^ 87 = 2 ^ 33 * 2 ^ 54 by decide]; ac_rfl
      _ ≤ _ := Nat.mul_le_mul_right _ (by omega))
  rw [one] at p2
  replace p2 : own_P _ (own_bQ l A) := p2
  have p3 : own_P _ (own_bg l A) := own_Padd own_P025 p2 (by
    have := (own_bG (A := 2 ^ 52 * own_u + own_bQ l A) (B := 1) (by omega)).1
    omega)
  have p4 := own_Pmul own_P12 p3 (by
    rw [one]
    refine (own_bG ?_).1
    calc 21617278211378380 * own_u * own_bg l A ≤ 2 * (2 ^ 54 * own_u) * (2 ^ 34 * (2 ^ 54 * own_u)) := Nat.mul_le_mul (by omega) gl
      _ = 2 ^ 89 * own_u * (2 ^ 54 * own_u) := by rw [show (2 : Nat) ^ 89 = 2 * 2 ^ 54 * 2 ^ 34 by decide]; ac_rfl
      _ ≤ _ := Nat.mul_le_mul_right _ (by omega))
  rw [one] at p4
  replace p4 : own_P _ (own_bk l A) := p4
  have p5 : own_P _ (own_bS F l A) := own_Padd hF p4 (by
    have := (own_bG (A := F + own_bk l A) (B := 1) (by omega)).1
    omega)
  have p6 := own_Pdiv hF p5 (by omega) (by
    rw [one]
    refine (own_bG ?_).1
    have h1 : F ≤ 2 ^ 23 * own_bS F l A := by omega
    calc F * (2 ^ 54 * own_u) ≤ 2 ^ 23 * own_bS F l A * (2 ^ 54 * own_u) := Nat.mul_le_mul_right _ h1
      _ = 2 ^ 77 * own_u * own_bS F l A := by rw [show (2 : Nat) ^ 77 = 2 ^ 23 * 2 ^ 54 by decide]; ac_rfl
      _ ≤ _ := Nat.mul_le_mul_right _ (by omega))
  rw [one] at p6
  exact ⟨p1, p2, p3, p4, p5, p6⟩
/-- longer fields, shorter averages: a greater divisor -/
theorem own_bSmono {F l A l' A' : Nat} (hF : F ≤ 2 ^ 21 * (2 ^ 54 * own_u)) (hl : l ≤ l') (hl' : l' ≤ 2 ^ 31) (hA : A' ≤ A) (hA' : 2 ^ 52 * own_u ≤ A') : own_bS F l A ≤ own_bS F l' A' := by
  have up := own_up
  have dl := own_Dle (l := l) (by omega)
  have dl' := own_Dle hl'
  have Qb := own_Qle (l := l) (A := A) (by omega) (by omega)
  have Qb' := own_Qle hl' hA'
  have gb := own_gle (l := l) (A := A) (by omega) (by omega)
  have gb' := own_gle hl' hA'
  have kb := own_kle (l := l) (A := A) (by omega) (by omega)
  have kb' := own_kle hl' hA'
  have D : own_bD l ≤ own_bD l' := by
    have a1 : ∀ y : Nat, y ≤ 2 ^ 31 → 3 * 2 ^ 52 * own_u * (y * (2 ^ 54 * own_u)) ≤ 2 ^ 154 * own_u * (2 ^ 54 * own_u) := by
      intro y hy
      rw [← Nat.mul_assoc]
      refine Nat.mul_le_mul_right _ (Nat.le_trans (Nat.mul_le_mul_left _ hy) ?_)
      have := own_aux1 own_u; rw [Nat.mul_one] at this; exact this
    refine own_bmono own_Up own_Up (a1 l (by omega)) (a1 l' hl') (Nat.mul_le_mul_right _ (Nat.mul_le_mul_left _ (Nat.mul_le_mul_right _ hl)))
  have Q : own_bQ l A ≤ own_bQ l' A' := by
    have a1 : ∀ d a : Nat, d ≤ 2 ^ 31 * (2 ^ 54 * own_u) → 2 ^ 52 * own_u ≤ a → d * (2 ^ 54 * own_u) ≤ 2 ^ 154 * own_u * a := by
      intro d a h1 h2
      have h3 : d ≤ 2 ^ 33 * a := by omega
      calc d * (2 ^ 54 * own_u) ≤ 2 ^ 33 * a * (2 ^ 54 * own_u) := Nat.mul_le_mul_right _ h3
        _ = 2 ^ 87 * own_u * a := by rw [show (2 : Nat) ^ 87 = 2 ^ 33 * 2 ^ 54 by decide]; ac_rfl
        _ ≤ _ := Nat.mul_le_mul_right _ (by omega)
    refine own_bmono (by omega) (by omega) (a1 _ _ dl (by omega)) (a1 _ _ dl' hA') (Nat.mul_le_mul (Nat.mul_le_mul_right _ D) hA)
  have g : own_bg l A ≤ own_bg l' A' := own_bmono (by decide) (by decide) (by omega) (by omega) (by omega)
  have k : own_bk l A ≤ own_bk l' A' := by
    have a1 : ∀ g : Nat, g ≤ 2 ^ 34 * (2 ^ 54 * own_u) → 21617278211378380 * own_u * g ≤ 2 ^ 154 * own_u * (2 ^ 54 * own_u) := by
      intro g hg
      calc 21617278211378380 * own_u * g ≤ 2 * (2 ^ 54 * own_u) * (2 ^ 34 * (2 ^ 54 * own_u)) := Nat.mul_le_mul (by omega) hg
        _ = 2 ^ 89 * own_u * (2 ^ 54 * own_u) := by rw [show (2 : Nat) ^ 89 = 2 * 2 ^ 54 * 2 ^ 34 by decide]; ac_rfl
        _ ≤ _ := Nat.mul_le_mul_right _ (by omega)
    exact own_bmono own_Up own_Up (a1 _ gb) (a1 _ gb') (Nat.mul_le_mul_right _ (Nat.mul_le_mul_left _ g))
  exact own_bmono (by decide) (by decide) (by omega) (by omega) (by omega)
theorem own_Tb {F s : Nat} (hF : F ≤ 2 ^ 21 * (2 ^ 54 * own_u)) (hs : 2 ^ 52 * own_u ≤ s) : F * (2 ^ 54 * own_u) ≤ 2 ^ 154 * own_u * s := by
  have h1 : F ≤ 2 ^ 23 * s := by omega
  calc F * (2 ^ 54 * own_u) ≤ 2 ^ 23 * s * (2 ^ 54 * own_u) := Nat.mul_le_mul_right _ h1
    _ = 2 ^ 77 * own_u * s := by rw [show (2 : Nat) ^ 77 = 2 ^ 23 * 2 ^ 54 by decide]; ac_rfl
    _ ≤ _ := Nat.mul_le_mul_right _ (by omega)
theorem own_bTmono {F l A l' A' : Nat} (hF : F ≤ 2 ^ 21 * (2 ^ 54 * own_u)) (hl : l ≤ l') (hl' : l' ≤ 2 ^ 31) (hA : A' ≤ A) (hA' : 2 ^ 52 * own_u ≤ A') : own_bT F l' A' ≤ own_bT F l A := by
  have up := own_up
  have S := own_bSmono hF hl hl' hA hA'
  have s1 := own_Sge (F := F) (l := l) (A := A)
  have s2 := own_Sge (F := F) (l := l') (A := A')
  exact own_bmono (by omega) (by omega) (own_Tb hF s2) (own_Tb hF s1) (Nat.mul_le_mul_left _ S)
/-- below one -/
theorem own_bTlt {F l A : Nat} (hF : F ≤ 2 ^ 20 * (2 ^ 54 * own_u)) (hl : l ≤ 2 ^ 31) (hA : 2 ^ 52 * own_u ≤ A) : own_bT F l A < 2 ^ 54 * own_u := by
  have up := own_up
  have u1 := own_u1
  have kg := own_kge (l := l) (A := A)
  have kl := own_kle hl hA
  have sg := own_Sge (F := F) (l := l) (A := A)
  have r := (own_rel (A := F + own_bk l A) (B := 1) (by decide) (by omega) (own_bG (by omega)).2).1
  have r' : 2 ^ 52 * (F + own_bk l A) ≤ own_bS F l A * 1 * (2 ^ 52 + 1) := r
  obtain ⟨V, hV⟩ := own_Pnear
  have t : own_bT F l A ≤ (2 ^ 54 - 2 ^ 24) * own_u := by
    refine own_N_le (by omega) hV ?_
    have h1 : F * 2 ^ 54 ≤ (2 ^ 54 - 2 ^ 24) * own_bS F l A := by omega
    calc F * (2 ^ 54 * own_u) = F * 2 ^ 54 * own_u := (Nat.mul_assoc _ _ _).symm
      _ ≤ (2 ^ 54 - 2 ^ 24) * own_bS F l A * own_u := Nat.mul_le_mul_right _ h1
      _ = _ := by rw [Nat.mul_assoc, Nat.mul_assoc, Nat.mul_comm own_u]
  omega
theorem own_bTpos {F l A : Nat} (hF0 : 2 ^ 54 * own_u ≤ F) (hF : F ≤ 2 ^ 21 * (2 ^ 54 * own_u)) (hl : l ≤ 2 ^ 31) (hA : 2 ^ 52 * own_u ≤ A) : 0 < own_bT F l A := by
  have up := own_up
  have sg := own_Sge (F := F) (l := l) (A := A)
  have sl := own_Sle hF hl hA
  obtain ⟨V, hV⟩ := own_Psm
  have t : 2 ^ 18 * own_u ≤ own_bT F l A := by
    refine own_N_ge (by omega) hV ?_
    calc 2 ^ 18 * own_u * own_bS F l A ≤ 2 ^ 18 * own_u * (2 ^ 36 * (2 ^ 54 * own_u)) := Nat.mul_le_mul_left _ sl
      _ = 2 ^ 54 * own_u * (2 ^ 54 * own_u) := by rw [show 2 ^ 18 * own_u * (2 ^ 36 * (2 ^ 54 * own_u)) = 2 ^ 18 * 2 ^ 36 * own_u * (2 ^ 54 * own_u) by ac_rfl]
      _ ≤ _ := Nat.mul_le_mul_right _ hF0
  omega
theorem own_bTzero {l A : Nat} : own_bT 0 l A = 0 := by
  have up := own_up
  have sg := own_Sge (F := 0) (l := l) (A := A)
  exact own_N_eq (by omega) own_P0 (by rw [Nat.zero_mul, Nat.zero_mul])
theorem own_more {F U k s s' t t' : Nat} (hs : 2 ^ 52 * (F + k) ≤ s * (2 ^ 52 + 1)) (hs' : s' * 2 ^ 52 ≤ (2 ^ 52 + 1) * (F + U + k)) (ht : t * s * 2 ^ 52 ≤ (2 ^ 52 + 1) * (F * U)) (ht' : 2 ^ 52 * ((F + U) * U) ≤ t' * s' * (2 ^ 52 + 1))
    (hF : F ≤ 2 ^ 20 * U) (hk : U ≤ 4 * k) (hU : 0 < U) : t < t' := by
  refine Nat.lt_of_not_le fun hh => ?_
  generalize hT : (2 : Nat) ^ 52 = T at *
  have a1 : T * ((F + U) * U) ≤ t * s' * (T + 1) := Nat.le_trans ht' (Nat.mul_le_mul_right _ (Nat.mul_le_mul_right _ hh))
  have a2 : T * ((F + U) * U) * (s * T) ≤ (T + 1) * (F * U) * (s' * (T + 1)) := by
    calc T * ((F + U) * U) * (s * T) ≤ t * s' * (T + 1) * (s * T) := Nat.mul_le_mul_right _ a1
      _ = t * s * T * (s' * (T + 1)) := by generalize T + 1 = R; ac_rfl
      _ ≤ _ := Nat.mul_le_mul_right _ ht
  have a3 : T * T * ((F + U) * s) ≤ (T + 1) * (T + 1) * (F * s') := by
    refine Nat.le_of_mul_le_mul_right (c := U) ?_ hU
    calc T * T * ((F + U) * s) * U = T * ((F + U) * U) * (s * T) := by generalize F + U = R; ac_rfl
      _ ≤ _ := a2
      _ = _ := by generalize T + 1 = R; ac_rfl
  have a4 : T * T * T * T * ((F + U) * (F + k)) ≤ (T + 1) * (T + 1) * (T + 1) * (T + 1) * (F * (F + U + k)) := by
    calc T * T * T * T * ((F + U) * (F + k)) = T * T * T * (F + U) * (T * (F + k)) := by generalize F + U = R; generalize F + k = R'; ac_rfl
      _ ≤ T * T * T * (F + U) * (s * (T + 1)) := Nat.mul_le_mul_left _ hs
      _ = T * T * ((F + U) * s) * (T * (T + 1)) := by generalize F + U = R; generalize T + 1 = R'; ac_rfl
      _ ≤ (T + 1) * (T + 1) * (F * s') * (T * (T + 1)) := Nat.mul_le_mul_right _ a3
      _ = (T + 1) * (T + 1) * (T + 1) * F * (s' * T) := by generalize T + 1 = R'; ac_rfl
      _ ≤ (T + 1) * (T + 1) * (T + 1) * F * ((T + 1) * (F + U + k)) := Nat.mul_le_mul_left _ hs'
      _ = _ := by generalize T + 1 = R'; generalize F + U + k = R; ac_rfl
  have e1 : (F + U) * (F + k) = F * (F + U + k) + U * k := by
    simp only [Nat.add_mul, Nat.mul_add]; rw [Nat.mul_comm U F]; omega
  rw [e1] at a4
  have y1 : F * (F + U + k) ≤ 2 ^ 20 * (2 ^ 20 * (U * U) + U * U + U * k) := by
    calc F * (F + U + k) ≤ 2 ^ 20 * U * (2 ^ 20 * U + U + k) := Nat.mul_le_mul hF (by omega)
      _ = _ := by rw [Nat.mul_assoc, Nat.mul_add U, Nat.mul_add U, Nat.mul_left_comm U (2 ^ 20) U]
  have y2 : U * U ≤ 4 * (U * k) := by
    calc U * U ≤ U * (4 * k) := Nat.mul_le_mul_left _ hk
      _ = _ := Nat.mul_left_comm _ _ _
  have W0 : 0 < U * k := Nat.mul_pos hU (by omega)
  generalize F * (F + U + k) = Y at *
  generalize U * k = W at *
  generalize U * U = X at *
  rw [← hT] at a4
  omega
theorem own_bTmore {F l A : Nat} (hF : F ≤ 2 ^ 20 * (2 ^ 54 * own_u)) (h0 : F = 0 ∨ 2 ^ 54 * own_u ≤ F) (hl : l ≤ 2 ^ 31) (hA : 2 ^ 52 * own_u ≤ A) : own_bT F l A < own_bT (F + 2 ^ 54 * own_u) l A := by
  have up := own_up
  have u1 := own_u1
  rcases h0 with rfl | h0
  · rw [own_bTzero]; exact own_bTpos (by omega) (by omega) hl hA
  · have kg := own_kge (l := l) (A := A)
    have kl := own_kle hl hA
    have sg := own_Sge (F := F) (l := l) (A := A)
    have sg' := own_Sge (F := F + 2 ^ 54 * own_u) (l := l) (A := A)
    have sl := own_Sle (F := F) (l := l) (A := A) (by omega) hl hA
    have sl' := own_Sle (F := F + 2 ^ 54 * own_u) (l := l) (A := A) (by omega) hl hA
    have r1 := (own_rel (A := F + own_bk l A) (B := 1) (by decide) (by omega) (own_bG (by omega)).2).1
    have r2 := (own_rel (A := F + 2 ^ 54 * own_u + own_bk l A) (B := 1) (by decide) (by omega) (own_bG (by omega)).2).2
    have lo : ∀ F s : Nat, 2 ^ 54 * own_u ≤ F → s ≤ 2 ^ 36 * (2 ^ 54 * own_u) → 2 ^ 52 * s ≤ F * (2 ^ 54 * own_u) := by
      intro F s h1 h2
      calc 2 ^ 52 * s ≤ 2 ^ 52 * (2 ^ 36 * (2 ^ 54 * own_u)) := Nat.mul_le_mul_left _ h2
        _ = 2 ^ 88 * (2 ^ 54 * own_u) := by rw [← Nat.mul_assoc]
        _ ≤ _ := Nat.mul_le_mul_right _ (by omega)
    have r3 := (own_rel (A := F * (2 ^ 54 * own_u)) (B := own_bS F l A) (by omega) (lo _ _ h0 sl) (own_bG (own_Tb (by omega) sg)).2).2
    have r4 := (own_rel (A := (F + 2 ^ 54 * own_u) * (2 ^ 54 * own_u)) (B := own_bS (F + 2 ^ 54 * own_u) l A) (by omega) (lo _ _ (by omega) sl') (own_bG (own_Tb (by omega) sg')).2).1
    rw [Nat.mul_one] at r1 r2
    exact own_more (U := 2 ^ 54 * own_u) r1 r2 r3 r4 hF (by omega) own_Up
/-- at the average -/
theorem own_bTavg {F m : Nat} (hm : 1 ≤ m) (hm' : m ≤ 2 ^ 30) : own_bT F m (m * (2 ^ 54 * own_u)) = own_N (F * (2 ^ 54 * own_u)) (own_N (F + 21617278211378380 * own_u) 1) := by
  have up := own_up
  have D : own_bD m = 3 * m * 2 ^ 52 * own_u := by
    have e := own_N_dy (c := 3 * m) (j := 1072) (B := 2 ^ 54 * own_u) own_Up (by omega) (by decide)
    have e2 : 2 ^ 1072 = 2 ^ 52 * own_u := by rw [own_u_eq]; decide +kernel
    rw [e2] at e
    unfold own_bD
    rw [show 3 * 2 ^ 52 * own_u * (m * (2 ^ 54 * own_u)) = 3 * m * (2 ^ 52 * own_u) * (2 ^ 54 * own_u) by ac_rfl, e]; ac_rfl
  have Q : own_bQ m (m * (2 ^ 54 * own_u)) = 3 * 2 ^ 52 * own_u := by
    unfold own_bQ
    rw [D]
    exact own_N_eq (Nat.mul_pos (by omega) own_Up) own_P075 (by ac_rfl)
  have g : own_bg m (m * (2 ^ 54 * own_u)) = 2 ^ 54 * own_u := by
    unfold own_bg
    rw [Q]
    exact own_N_eq (by decide) own_P1 (by omega)
  have k : own_bk m (m * (2 ^ 54 * own_u)) = 21617278211378380 * own_u := by
    unfold own_bk
    rw [g]
    exact own_N_eq own_Up own_P12 rfl
  unfold own_bT own_bS
  rw [k]
theorem own_bTempty {F A : Nat} (hA : 2 ^ 52 * own_u ≤ A) : own_bT F 0 A = own_N (F * (2 ^ 54 * own_u)) (own_N (F + 5404319552844595 * own_u) 1) := by
  have up := own_up
  have D : own_bD 0 = 0 := own_N_eq own_Up own_P0 (by rw [Nat.zero_mul]; exact (Nat.mul_zero _).symm)
  have Q : own_bQ 0 A = 0 := by
    unfold own_bQ
    rw [D]
    exact own_N_eq (by omega) own_P0 (by rw [Nat.zero_mul, Nat.zero_mul])
  have g : own_bg 0 A = 2 ^ 52 * own_u := by
    unfold own_bg
    rw [Q]
    exact own_N_eq (by decide) own_P025 (by omega)
  have k : own_bk 0 A = 5404319552844595 * own_u := by
    unfold own_bk
    rw [g]
    refine own_N_eq own_Up own_P03 ?_
    rw [show 21617278211378380 * own_u * (2 ^ 52 * own_u) = 21617278211378380 * 2 ^ 52 * (own_u * own_u) by ac_rfl, show 5404319552844595 * own_u * (2 ^ 54 * own_u) = 5404319552844595 * 2 ^ 54 * (own_u * own_u) by ac_rfl]
  unfold own_bT own_bS
  rw [k]
/-- an int from nought on, as a double -/
theorem own_Pi2d {a : Int32} {n : Nat} (h : a.toInt = (n : Int)) : own_P (FP.i2d a) (n * (2 ^ 54 * own_u)) := by
  rcases Nat.eq_zero_or_pos n with rfl | hn
  · have e : a = 0 := Int32.toInt_inj.mp (by rw [h]; rfl)
    subst e
    rw [Nat.zero_mul]
    exact ⟨0, b64.qmin, by decide +kernel, by decide +kernel, by decide +kernel⟩
  · have z : own_z (FP.i2d a) = a.toInt * (one64 : Int) := DInt_zval (i2d_int a)
    have U0 := one64_pos
    obtain ⟨s, c, q, e, hq⟩ := own_fin (i2d_fin a)
    have z2 : own_z (FP.i2d a) = signed s (inUnits c q b64.qmin) := by unfold own_z zval; show signed (sgn (val64 (i2d a))) (zmag b64 (val64 (i2d a))) = _; rw [e]; rfl
    have pos : 0 < own_z (FP.i2d a) := by rw [z, h]; exact Int.mul_pos (by omega) (by omega)
    have hs : s = false := by
      cases s with
      | false => rfl
      | true => rw [z2] at pos; simp only [signed, if_true] at pos; omega
    subst hs
    refine ⟨c, q, e, hq, ?_⟩
    rw [z, h, ← Int.natCast_mul] at z2
    simp only [signed] at z2
    rw [← own_bone]
    simp at z2
    omega
theorem own_P.nd {a : UInt64} {x : Nat} (h : own_P a x) : Jvm.Free.Fl.NoNaN64 a := Jvm.Free.Fl.noNaN64_no.mpr ((notNaN_iff a).mpr h.nn)
theorem own_cmpP {a b : UInt64} {x y : Nat} (ha : own_P a x) (hb : own_P b y) : FP.dcmp a b = some (compare (x : Int) (y : Int)) := by
  rw [own_dcmpz ha.nd hb.nd, ha.z, hb.z]
theorem own_cgt {a b : UInt64} {x y : Nat} (ha : own_P a x) (hb : own_P b y) (h : y < x) (m : CmpOp) : Op.cmpValue (FP.dcmp a b) m = (1 : Int32) := by
  rw [own_cmpP ha hb, (compare_gt_iff _ _).mpr (by omega)]; rfl
theorem own_ceq {a b : UInt64} {x y : Nat} (ha : own_P a x) (hb : own_P b y) (h : x = y) (m : CmpOp) : Op.cmpValue (FP.dcmp a b) m = (0 : Int32) := by
  rw [own_cmpP ha hb, (compare_eq_iff _ _).mpr (by omega)]; rfl
theorem own_clt {a b : UInt64} {x y : Nat} (ha : own_P a x) (hb : own_P b y) (h : x < y) (m : CmpOp) : Op.cmpValue (FP.dcmp a b) m = (-1 : Int32) := by
  rw [own_cmpP ha hb, (compare_lt_iff _ _).mpr (by omega)]; rfl
end OwnBm
end Jvm.RoadKit
namespace Jvm.Pilot.@@N@@
open Jvm Jvm.ClassFile Sem Op Lib Jvm.Free Jvm.Stand Jvm.LawKit Jvm.RoadKit Bundle Jvm.Pilot.@@N@@.Jvm.D
def own_Z (Z : State) (a0 : Array Value) : Prop := ∀ d ∈ tables_1, d.before a0 Z = true
theorem own_w0 {Z : State} {a0 : Array Value} (hw : own_Z Z a0) : (Jvm.Cond.constant "com/example/fielder/fielder/service/Bm25TfPinLaw" (7 : Nat) (1048575 : Int32)).before a0 Z = true := hw _ (List.mem_of_getElem? (i := 0) rfl)
theorem own_w1 {Z : State} {a0 : Array Value} (hw : own_Z Z a0) : (Jvm.Cond.constant "com/example/fielder/fielder/service/Bm25TfPinLaw" (8 : Nat) (1073741823 : Int32)).before a0 Z = true := hw _ (List.mem_of_getElem? (i := 1) rfl)
theorem own_w2 {Z : State} {a0 : Array Value} (hw : own_Z Z a0) : (Jvm.Cond.constant "com/example/fielder/fielder/service/Bm25TfPinLaw" (9 : Nat) (268435455 : Int32)).before a0 Z = true := hw _ (List.mem_of_getElem? (i := 2) rfl)
theorem own_w3 {Z : State} {a0 : Array Value} (hw : own_Z Z a0) : (Jvm.Cond.constantDouble "com/example/fielder/fielder/service/Bm25TfPinLaw" (10 : Nat) (4616189618054758400 : UInt64)).before a0 Z = true := hw _ (List.mem_of_getElem? (i := 3) rfl)
theorem own_w4 {Z : State} {a0 : Array Value} (hw : own_Z Z a0) : (Jvm.Cond.methodLink "com/example/fielder/fielder/service/Bm25TfPinLaw" (12 : Nat) ({ cls := "com/example/fielder/fielder/service/Bm25", name := "tf", desc := "(DID)D" } : Jvm.MethodName)).before a0 Z = true := hw _ (List.mem_of_getElem? (i := 4) rfl)
theorem own_w5 {Z : State} {a0 : Array Value} (hw : own_Z Z a0) : (Jvm.Cond.static ({ cls := "com/example/fielder/fielder/service/Bm25", name := "tf", desc := "(DID)D" } : Jvm.MethodName)).before a0 Z = true := hw _ (List.mem_of_getElem? (i := 5) rfl)
theorem own_w6 {Z : State} {a0 : Array Value} (hw : own_Z Z a0) : (Jvm.Cond.initialized "com/example/fielder/fielder/service/Bm25").before a0 Z = true := hw _ (List.mem_of_getElem? (i := 6) rfl)
theorem own_w7 {Z : State} {a0 : Array Value} (hw : own_Z Z a0) : (Jvm.Cond.code ({ cls := "com/example/fielder/fielder/service/Bm25", name := "tf", desc := "(DID)D" } : Jvm.MethodName) prog_25_method_3_code (5 : Nat) (Option.some Jvm.ClassFile.FieldType.double)).before a0 Z = true := hw _ (List.mem_of_getElem? (i := 7) rfl)
theorem own_w8 {Z : State} {a0 : Array Value} (hw : own_Z Z a0) : (Jvm.Cond.constantDouble "com/example/fielder/fielder/service/Bm25" (17 : Nat) (4608083138725491507 : UInt64)).before a0 Z = true := hw _ (List.mem_of_getElem? (i := 8) rfl)
theorem own_w9 {Z : State} {a0 : Array Value} (hw : own_Z Z a0) : (Jvm.Cond.constantDouble "com/example/fielder/fielder/service/Bm25" (19 : Nat) (4598175219545276416 : UInt64)).before a0 Z = true := hw _ (List.mem_of_getElem? (i := 9) rfl)
theorem own_w10 {Z : State} {a0 : Array Value} (hw : own_Z Z a0) : (Jvm.Cond.constantDouble "com/example/fielder/fielder/service/Bm25" (21 : Nat) (4604930618986332160 : UInt64)).before a0 Z = true := hw _ (List.mem_of_getElem? (i := 10) rfl)
theorem own_w11 {Z : State} {a0 : Array Value} (hw : own_Z Z a0) : (Jvm.Cond.constantDouble "com/example/fielder/fielder/service/Bm25TfPinLaw" (18 : Nat) (4608083138725491507 : UInt64)).before a0 Z = true := hw _ (List.mem_of_getElem? (i := 11) rfl)
theorem own_w12 {Z : State} {a0 : Array Value} (hw : own_Z Z a0) : (Jvm.Cond.constantDouble "com/example/fielder/fielder/service/Bm25TfPinLaw" (20 : Nat) (4599075939470750515 : UInt64)).before a0 Z = true := hw _ (List.mem_of_getElem? (i := 12) rfl)
theorem own_d0_0 : own_D prog_25_method_3_code 0 (.dload_n 0) 1 1 := ⟨by decide +kernel, rfl⟩
theorem own_d0_1 : own_D prog_25_method_3_code 1 (.dload_n 0) 1 2 := ⟨by decide +kernel, rfl⟩
theorem own_d0_2 : own_D prog_25_method_3_code 2 (.ldc2_w 17) 3 5 := ⟨by decide +kernel, rfl⟩
theorem own_d0_5 : own_D prog_25_method_3_code 5 (.ldc2_w 19) 3 8 := ⟨by decide +kernel, rfl⟩
theorem own_d0_8 : own_D prog_25_method_3_code 8 (.ldc2_w 21) 3 11 := ⟨by decide +kernel, rfl⟩
theorem own_d0_11 : own_D prog_25_method_3_code 11 (.iload_n 2) 1 12 := ⟨by decide +kernel, rfl⟩
theorem own_d0_12 : own_D prog_25_method_3_code 12 (.i2d) 1 13 := ⟨by decide +kernel, rfl⟩
theorem own_d0_13 : own_D prog_25_method_3_code 13 (.dmul) 1 14 := ⟨by decide +kernel, rfl⟩
theorem own_d0_14 : own_D prog_25_method_3_code 14 (.dload_n 3) 1 15 := ⟨by decide +kernel, rfl⟩
theorem own_d0_15 : own_D prog_25_method_3_code 15 (.ddiv) 1 16 := ⟨by decide +kernel, rfl⟩
theorem own_d0_16 : own_D prog_25_method_3_code 16 (.dadd) 1 17 := ⟨by decide +kernel, rfl⟩
theorem own_d0_17 : own_D prog_25_method_3_code 17 (.dmul) 1 18 := ⟨by decide +kernel, rfl⟩
theorem own_d0_18 : own_D prog_25_method_3_code 18 (.dadd) 1 19 := ⟨by decide +kernel, rfl⟩
theorem own_d0_19 : own_D prog_25_method_3_code 19 (.ddiv) 1 20 := ⟨by decide +kernel, rfl⟩
theorem own_d0_20 : own_D prog_25_method_3_code 20 (.dreturn) 1 21 := ⟨by decide +kernel, rfl⟩
theorem own_d1_0 : own_D code 0 (.iload_n 0) 1 1 := ⟨by decide +kernel, rfl⟩
theorem own_d1_1 : own_D code 1 (.ldc 7) 2 3 := ⟨by decide +kernel, rfl⟩
theorem own_d1_3 : own_D code 3 (.iand) 1 4 := ⟨by decide +kernel, rfl⟩
theorem own_d1_4 : own_D code 4 (.i2d) 1 5 := ⟨by decide +kernel, rfl⟩
theorem own_d1_5 : own_D code 5 (.dstore 4) 2 7 := ⟨by decide +kernel, rfl⟩
theorem own_d1_7 : own_D code 7 (.iload_n 1) 1 8 := ⟨by decide +kernel, rfl⟩
theorem own_d1_8 : own_D code 8 (.ldc 8) 2 10 := ⟨by decide +kernel, rfl⟩
theorem own_d1_10 : own_D code 10 (.iand) 1 11 := ⟨by decide +kernel, rfl⟩
theorem own_d1_11 : own_D code 11 (.istore 6) 2 13 := ⟨by decide +kernel, rfl⟩
theorem own_d1_13 : own_D code 13 (.iload_n 2) 1 14 := ⟨by decide +kernel, rfl⟩
theorem own_d1_14 : own_D code 14 (.ldc 9) 2 16 := ⟨by decide +kernel, rfl⟩
theorem own_d1_16 : own_D code 16 (.iand) 1 17 := ⟨by decide +kernel, rfl⟩
theorem own_d1_17 : own_D code 17 (.iconst 1) 1 18 := ⟨by decide +kernel, rfl⟩
theorem own_d1_18 : own_D code 18 (.iadd) 1 19 := ⟨by decide +kernel, rfl⟩
theorem own_d1_19 : own_D code 19 (.i2d) 1 20 := ⟨by decide +kernel, rfl⟩
theorem own_d1_20 : own_D code 20 (.ldc2_w 10) 3 23 := ⟨by decide +kernel, rfl⟩
theorem own_d1_23 : own_D code 23 (.ddiv) 1 24 := ⟨by decide +kernel, rfl⟩
theorem own_d1_24 : own_D code 24 (.dstore 7) 2 26 := ⟨by decide +kernel, rfl⟩
theorem own_d1_26 : own_D code 26 (.iload_n 3) 1 27 := ⟨by decide +kernel, rfl⟩
theorem own_d1_27 : own_D code 27 (.ldc 8) 2 29 := ⟨by decide +kernel, rfl⟩
theorem own_d1_29 : own_D code 29 (.iand) 1 30 := ⟨by decide +kernel, rfl⟩
theorem own_d1_30 : own_D code 30 (.iconst 1) 1 31 := ⟨by decide +kernel, rfl⟩
theorem own_d1_31 : own_D code 31 (.iadd) 1 32 := ⟨by decide +kernel, rfl⟩
theorem own_d1_32 : own_D code 32 (.istore 9) 2 34 := ⟨by decide +kernel, rfl⟩
theorem own_d1_34 : own_D code 34 (.dload 4) 2 36 := ⟨by decide +kernel, rfl⟩
theorem own_d1_36 : own_D code 36 (.iload 6) 2 38 := ⟨by decide +kernel, rfl⟩
theorem own_d1_38 : own_D code 38 (.dload 7) 2 40 := ⟨by decide +kernel, rfl⟩
theorem own_d1_40 : own_D code 40 (.invokestatic 12) 3 43 := ⟨by decide +kernel, rfl⟩
theorem own_d1_43 : own_D code 43 (.dstore 10) 2 45 := ⟨by decide +kernel, rfl⟩
theorem own_d1_45 : own_D code 45 (.dload 10) 2 47 := ⟨by decide +kernel, rfl⟩
theorem own_d1_47 : own_D code 47 (.dconst 0) 1 48 := ⟨by decide +kernel, rfl⟩
theorem own_d1_48 : own_D code 48 (.dcmp .l) 1 49 := ⟨by decide +kernel, rfl⟩
theorem own_d1_49 : own_B code 49 (.ifCond .lt 41) 41 52 90 := ⟨by decide +kernel, rfl, by decide, by decide⟩
theorem own_d1_52 : own_D code 52 (.dload 10) 2 54 := ⟨by decide +kernel, rfl⟩
theorem own_d1_54 : own_D code 54 (.dconst 1) 1 55 := ⟨by decide +kernel, rfl⟩
theorem own_d1_55 : own_D code 55 (.dcmp .g) 1 56 := ⟨by decide +kernel, rfl⟩
theorem own_d1_56 : own_B code 56 (.ifCond .ge 34) 34 59 90 := ⟨by decide +kernel, rfl, by decide, by decide⟩
theorem own_d1_59 : own_D code 59 (.dload 10) 2 61 := ⟨by decide +kernel, rfl⟩
theorem own_d1_61 : own_D code 61 (.dconst 0) 1 62 := ⟨by decide +kernel, rfl⟩
theorem own_d1_62 : own_D code 62 (.dcmp .l) 1 63 := ⟨by decide +kernel, rfl⟩
theorem own_d1_63 : own_B code 63 (.ifCond .ne 7) 7 66 70 := ⟨by decide +kernel, rfl, by decide, by decide⟩
theorem own_d1_66 : own_D code 66 (.iconst 1) 1 67 := ⟨by decide +kernel, rfl⟩
theorem own_d1_67 : own_B code 67 (.goto 4) 4 70 71 := ⟨by decide +kernel, rfl, by decide, by decide⟩
theorem own_d1_71 : own_D code 71 (.dload 4) 2 73 := ⟨by decide +kernel, rfl⟩
theorem own_d1_73 : own_D code 73 (.dconst 0) 1 74 := ⟨by decide +kernel, rfl⟩
theorem own_d1_74 : own_D code 74 (.dcmp .l) 1 75 := ⟨by decide +kernel, rfl⟩
theorem own_d1_75 : own_B code 75 (.ifCond .ne 7) 7 78 82 := ⟨by decide +kernel, rfl, by decide, by decide⟩
theorem own_d1_78 : own_D code 78 (.iconst 1) 1 79 := ⟨by decide +kernel, rfl⟩
theorem own_d1_79 : own_B code 79 (.goto 4) 4 82 83 := ⟨by decide +kernel, rfl, by decide, by decide⟩
theorem own_d1_83 : own_B code 83 (.if_icmp .ne 7) 7 86 90 := ⟨by decide +kernel, rfl, by decide, by decide⟩
theorem own_d1_86 : own_D code 86 (.iconst 1) 1 87 := ⟨by decide +kernel, rfl⟩
theorem own_d1_87 : own_B code 87 (.goto 4) 4 90 91 := ⟨by decide +kernel, rfl, by decide, by decide⟩
theorem own_d1_91 : own_D code 91 (.istore 12) 2 93 := ⟨by decide +kernel, rfl⟩
theorem own_d1_93 : own_D code 93 (.dload 4) 2 95 := ⟨by decide +kernel, rfl⟩
theorem own_d1_95 : own_D code 95 (.dconst 1) 1 96 := ⟨by decide +kernel, rfl⟩
theorem own_d1_96 : own_D code 96 (.dadd) 1 97 := ⟨by decide +kernel, rfl⟩
theorem own_d1_97 : own_D code 97 (.iload 6) 2 99 := ⟨by decide +kernel, rfl⟩
theorem own_d1_99 : own_D code 99 (.dload 7) 2 101 := ⟨by decide +kernel, rfl⟩
theorem own_d1_101 : own_D code 101 (.invokestatic 12) 3 104 := ⟨by decide +kernel, rfl⟩
theorem own_d1_104 : own_D code 104 (.dload 10) 2 106 := ⟨by decide +kernel, rfl⟩
theorem own_d1_106 : own_D code 106 (.dcmp .l) 1 107 := ⟨by decide +kernel, rfl⟩
theorem own_d1_107 : own_B code 107 (.ifCond .le 7) 7 110 114 := ⟨by decide +kernel, rfl, by decide, by decide⟩
theorem own_d1_110 : own_D code 110 (.iconst 1) 1 111 := ⟨by decide +kernel, rfl⟩
theorem own_d1_111 : own_B code 111 (.goto 4) 4 114 115 := ⟨by decide +kernel, rfl, by decide, by decide⟩
theorem own_d1_115 : own_D code 115 (.istore 13) 2 117 := ⟨by decide +kernel, rfl⟩
theorem own_d1_117 : own_D code 117 (.dload 4) 2 119 := ⟨by decide +kernel, rfl⟩
theorem own_d1_119 : own_D code 119 (.iload 6) 2 121 := ⟨by decide +kernel, rfl⟩
theorem own_d1_121 : own_D code 121 (.iconst 1) 1 122 := ⟨by decide +kernel, rfl⟩
theorem own_d1_122 : own_D code 122 (.iadd) 1 123 := ⟨by decide +kernel, rfl⟩
theorem own_d1_123 : own_D code 123 (.dload 7) 2 125 := ⟨by decide +kernel, rfl⟩
theorem own_d1_125 : own_D code 125 (.invokestatic 12) 3 128 := ⟨by decide +kernel, rfl⟩
theorem own_d1_128 : own_D code 128 (.dload 10) 2 130 := ⟨by decide +kernel, rfl⟩
theorem own_d1_130 : own_D code 130 (.dcmp .g) 1 131 := ⟨by decide +kernel, rfl⟩
theorem own_d1_131 : own_B code 131 (.ifCond .gt 7) 7 134 138 := ⟨by decide +kernel, rfl, by decide, by decide⟩
theorem own_d1_134 : own_D code 134 (.iconst 1) 1 135 := ⟨by decide +kernel, rfl⟩
theorem own_d1_135 : own_B code 135 (.goto 4) 4 138 139 := ⟨by decide +kernel, rfl, by decide, by decide⟩
theorem own_d1_139 : own_D code 139 (.istore 14) 2 141 := ⟨by decide +kernel, rfl⟩
theorem own_d1_141 : own_D code 141 (.dload 4) 2 143 := ⟨by decide +kernel, rfl⟩
theorem own_d1_143 : own_D code 143 (.iload 6) 2 145 := ⟨by decide +kernel, rfl⟩
theorem own_d1_145 : own_D code 145 (.dload 7) 2 147 := ⟨by decide +kernel, rfl⟩
theorem own_d1_147 : own_D code 147 (.dconst 1) 1 148 := ⟨by decide +kernel, rfl⟩
theorem own_d1_148 : own_D code 148 (.dadd) 1 149 := ⟨by decide +kernel, rfl⟩
theorem own_d1_149 : own_D code 149 (.invokestatic 12) 3 152 := ⟨by decide +kernel, rfl⟩
theorem own_d1_152 : own_D code 152 (.dload 10) 2 154 := ⟨by decide +kernel, rfl⟩
theorem own_d1_154 : own_D code 154 (.dcmp .l) 1 155 := ⟨by decide +kernel, rfl⟩
theorem own_d1_155 : own_B code 155 (.ifCond .lt 7) 7 158 162 := ⟨by decide +kernel, rfl, by decide, by decide⟩
theorem own_d1_158 : own_D code 158 (.iconst 1) 1 159 := ⟨by decide +kernel, rfl⟩
theorem own_d1_159 : own_B code 159 (.goto 4) 4 162 163 := ⟨by decide +kernel, rfl, by decide, by decide⟩
theorem own_d1_163 : own_D code 163 (.istore 15) 2 165 := ⟨by decide +kernel, rfl⟩
theorem own_d1_165 : own_D code 165 (.dload 4) 2 167 := ⟨by decide +kernel, rfl⟩
theorem own_d1_167 : own_D code 167 (.iload 9) 2 169 := ⟨by decide +kernel, rfl⟩
theorem own_d1_169 : own_D code 169 (.iload 9) 2 171 := ⟨by decide +kernel, rfl⟩
theorem own_d1_171 : own_D code 171 (.i2d) 1 172 := ⟨by decide +kernel, rfl⟩
theorem own_d1_172 : own_D code 172 (.invokestatic 12) 3 175 := ⟨by decide +kernel, rfl⟩
theorem own_d1_175 : own_D code 175 (.dload 4) 2 177 := ⟨by decide +kernel, rfl⟩
theorem own_d1_177 : own_D code 177 (.dload 4) 2 179 := ⟨by decide +kernel, rfl⟩
theorem own_d1_179 : own_D code 179 (.ldc2_w 18) 3 182 := ⟨by decide +kernel, rfl⟩
theorem own_d1_182 : own_D code 182 (.dadd) 1 183 := ⟨by decide +kernel, rfl⟩
theorem own_d1_183 : own_D code 183 (.ddiv) 1 184 := ⟨by decide +kernel, rfl⟩
theorem own_d1_184 : own_D code 184 (.dcmp .l) 1 185 := ⟨by decide +kernel, rfl⟩
theorem own_d1_185 : own_B code 185 (.ifCond .ne 7) 7 188 192 := ⟨by decide +kernel, rfl, by decide, by decide⟩
theorem own_d1_188 : own_D code 188 (.iconst 1) 1 189 := ⟨by decide +kernel, rfl⟩
theorem own_d1_189 : own_B code 189 (.goto 4) 4 192 193 := ⟨by decide +kernel, rfl, by decide, by decide⟩
theorem own_d1_193 : own_D code 193 (.istore 16) 2 195 := ⟨by decide +kernel, rfl⟩
theorem own_d1_195 : own_D code 195 (.dload 4) 2 197 := ⟨by decide +kernel, rfl⟩
theorem own_d1_197 : own_D code 197 (.iconst 0) 1 198 := ⟨by decide +kernel, rfl⟩
theorem own_d1_198 : own_D code 198 (.dload 7) 2 200 := ⟨by decide +kernel, rfl⟩
theorem own_d1_200 : own_D code 200 (.invokestatic 12) 3 203 := ⟨by decide +kernel, rfl⟩
theorem own_d1_203 : own_D code 203 (.dload 4) 2 205 := ⟨by decide +kernel, rfl⟩
theorem own_d1_205 : own_D code 205 (.dload 4) 2 207 := ⟨by decide +kernel, rfl⟩
theorem own_d1_207 : own_D code 207 (.ldc2_w 20) 3 210 := ⟨by decide +kernel, rfl⟩
theorem own_d1_210 : own_D code 210 (.dadd) 1 211 := ⟨by decide +kernel, rfl⟩
theorem own_d1_211 : own_D code 211 (.ddiv) 1 212 := ⟨by decide +kernel, rfl⟩
theorem own_d1_212 : own_D code 212 (.dcmp .l) 1 213 := ⟨by decide +kernel, rfl⟩
theorem own_d1_213 : own_B code 213 (.ifCond .ne 7) 7 216 220 := ⟨by decide +kernel, rfl, by decide, by decide⟩
theorem own_d1_216 : own_D code 216 (.iconst 1) 1 217 := ⟨by decide +kernel, rfl⟩
theorem own_d1_217 : own_B code 217 (.goto 4) 4 220 221 := ⟨by decide +kernel, rfl, by decide, by decide⟩
theorem own_d1_221 : own_D code 221 (.istore 17) 2 223 := ⟨by decide +kernel, rfl⟩
theorem own_d1_223 : own_D code 223 (.iload 12) 2 225 := ⟨by decide +kernel, rfl⟩
theorem own_d1_225 : own_B code 225 (.ifCond .eq 32) 32 228 257 := ⟨by decide +kernel, rfl, by decide, by decide⟩
theorem own_d1_228 : own_D code 228 (.iload 13) 2 230 := ⟨by decide +kernel, rfl⟩
theorem own_d1_230 : own_B code 230 (.ifCond .eq 27) 27 233 257 := ⟨by decide +kernel, rfl, by decide, by decide⟩
theorem own_d1_233 : own_D code 233 (.iload 14) 2 235 := ⟨by decide +kernel, rfl⟩
theorem own_d1_235 : own_B code 235 (.ifCond .eq 22) 22 238 257 := ⟨by decide +kernel, rfl, by decide, by decide⟩
theorem own_d1_238 : own_D code 238 (.iload 15) 2 240 := ⟨by decide +kernel, rfl⟩
theorem own_d1_240 : own_B code 240 (.ifCond .eq 17) 17 243 257 := ⟨by decide +kernel, rfl, by decide, by decide⟩
theorem own_d1_243 : own_D code 243 (.iload 16) 2 245 := ⟨by decide +kernel, rfl⟩
theorem own_d1_245 : own_B code 245 (.ifCond .eq 12) 12 248 257 := ⟨by decide +kernel, rfl, by decide, by decide⟩
theorem own_d1_248 : own_D code 248 (.iload 17) 2 250 := ⟨by decide +kernel, rfl⟩
theorem own_d1_250 : own_B code 250 (.ifCond .eq 7) 7 253 257 := ⟨by decide +kernel, rfl, by decide, by decide⟩
theorem own_d1_253 : own_D code 253 (.iconst 1) 1 254 := ⟨by decide +kernel, rfl⟩
theorem own_d1_254 : own_B code 254 (.goto 4) 4 257 258 := ⟨by decide +kernel, rfl, by decide, by decide⟩
theorem own_d1_258 : own_D code 258 (.ireturn) 1 259 := ⟨by decide +kernel, rfl⟩
theorem own_d1_70 : own_D code 70 (.iconst 0) 1 71 := ⟨by decide +kernel, rfl⟩
theorem own_d1_82 : own_D code 82 (.iconst 0) 1 83 := ⟨by decide +kernel, rfl⟩
theorem own_pd0 : parseMethodDescriptor "(DID)D" = some ⟨[.double, .int, .double], some .double⟩ := by decide +kernel
theorem own_and3 (k : Int32) : k &&& 3 = 0 ∨ k &&& 3 = 1 ∨ k &&& 3 = 2 ∨ k &&& 3 = 3 := by
  have h : ∀ b : BitVec 32, b &&& 3#32 = 0#32 ∨ b &&& 3#32 = 1#32 ∨ b &&& 3#32 = 2#32 ∨ b &&& 3#32 = 3#32 := by
    intro b
    have q : (b &&& 3#32).toNat ≤ 3 := by rw [BitVec.toNat_and]; exact Nat.and_le_right
    bv_omega
  rcases h k.toBitVec with q | q | q | q
  · exact Or.inl (Int32.toBitVec_inj.mp q)
  · exact Or.inr (Or.inl (Int32.toBitVec_inj.mp q))
  · exact Or.inr (Or.inr (Or.inl (Int32.toBitVec_inj.mp q)))
  · exact Or.inr (Or.inr (Or.inr (Int32.toBitVec_inj.mp q)))
theorem own_and_bound (a b : Int32) (hb : 0 ≤ b.toInt) : 0 ≤ (a &&& b).toInt ∧ (a &&& b).toInt ≤ b.toInt := by
  have q : (a &&& b).toBitVec.toNat ≤ b.toBitVec.toNat := by
    show (a.toBitVec &&& b.toBitVec).toNat ≤ _
    rw [BitVec.toNat_and]; exact Nat.and_le_right
  have hb' : b.toInt = (b.toBitVec.toNat : Int) := by
    have : b.toInt = b.toBitVec.toInt := rfl
    rw [this] at hb ⊢
    rw [BitVec.toInt_eq_toNat_cond] at hb ⊢
    have := b.toBitVec.isLt
    split at hb <;> split <;> omega
  have hlt : 2 * b.toBitVec.toNat < 2 ^ 32 := by have := Int32.toInt_lt b; omega
  have : (a &&& b).toInt = (a &&& b).toBitVec.toInt := rfl
  rw [this, BitVec.toInt_eq_toNat_cond]
  split <;> omega
theorem own_add32 {a b : Int32} (h1 : -2147483648 ≤ a.toInt + b.toInt) (h2 : a.toInt + b.toInt ≤ 2147483647) : (a + b).toInt = a.toInt + b.toInt := by
  rw [Int32.toInt_add]; exact Int.bmod_eq_of_le (by omega) (by omega)
theorem own_sub32 {a b : Int32} (h1 : -2147483648 ≤ a.toInt - b.toInt) (h2 : a.toInt - b.toInt ≤ 2147483647) : (a - b).toInt = a.toInt - b.toInt := by
  rw [Int32.toInt_sub]; exact Int.bmod_eq_of_le (by omega) (by omega)
theorem own_mul32 {a b : Int32} (h1 : -2147483648 ≤ a.toInt * b.toInt) (h2 : a.toInt * b.toInt ≤ 2147483647) : (a * b).toInt = a.toInt * b.toInt := by
  rw [Int32.toInt_mul]; exact Int.bmod_eq_of_le (by omega) (by omega)
theorem own_rem32 {a b : Int32} (ha : 0 ≤ a.toInt) (hb : 0 < b.toInt) : 0 ≤ (a % b).toInt ∧ (a % b).toInt < b.toInt := by
  rw [Int32.toInt_mod]
  have h1 := Int.tmod_nonneg b.toInt ha
  have h2 := Int.tmod_lt_of_pos a.toInt hb
  omega
theorem own_i64 (a : Int32) : a.toInt64.toInt = a.toInt := by simp

set_option maxRecDepth 65536 in
set_option maxHeartbeats 40000000 in
theorem own_tf_ef (m : MethodId) (x0 : UInt64) (x1 : Int32) (x2 : UInt64) : entryFrame m #[(.double x0), (.int x1), (.double x2)] 5 = mkF m 0 #[.val (.double x0), .second, .val (.int x1), .val (.double x2), .second] [] := by first | (simp [entryFrame, mkF, argsToLocals, Value.category]; done) | rfl
set_option maxRecDepth 65536 in
set_option maxHeartbeats 40000000 in
theorem own_tf {l : Launch} {Z : State} {a0 : Array Value} (hw : own_Z Z a0) {h : Heap} {fd ad : UInt64} {dl : Int32} {F ln A : Nat} (hF : own_P fd F) (hL : own_P (FP.i2d dl) (ln * (2 ^ 54 * own_u))) (hA : own_P ad A) (bF : F ≤ 2 ^ 21 * (2 ^ 54 * own_u)) (bl : ln ≤ 2 ^ 31) (bA : 2 ^ 52 * own_u ≤ A) : own_Met false l Z (⟨"com/example/fielder/fielder/service/Bm25", "tf", "(DID)D"⟩ : MethodName) prog_25_method_3_code 5 (some .double) [] ({ frames := 0, cells := 0, slots := 0, locals := 0 } : Room) #[(.double fd), (.int dl), (.double ad)] h (fun v h' => (∃ t, v = some (.double t) ∧ own_P t (own_bT F ln A)) ∧ h = h') := by
  refine own_met (by first | exact plainFor_of_name (by decide +kernel) | decide +kernel) ?_
  intro p e s m below meth c K
  refine own_cast (own_tf_ef m _ _ _) ?_
  have hh := own_tfP hF hL hA bF bl bA
  refine own_dloadN K own_d0_0 rfl ?_
  refine own_dloadN K own_d0_1 rfl ?_
  refine own_ldc2D K own_d0_2 (own_w8 hw) ?_
  refine own_ldc2D K own_d0_5 (own_w9 hw) ?_
  refine own_ldc2D K own_d0_8 (own_w10 hw) ?_
  refine own_iloadN K own_d0_11 rfl ?_
  refine own_i2d K own_d0_12 ?_
  refine own_dmul K own_d0_13 (hh.1.nd) ?_
  refine own_dloadN K own_d0_14 rfl ?_
  refine own_ddiv K own_d0_15 (hh.2.1.nd) ?_
  refine own_dadd K own_d0_16 (hh.2.2.1.nd) ?_
  refine own_dmul K own_d0_17 (hh.2.2.2.1.nd) ?_
  refine own_dadd K own_d0_18 (hh.2.2.2.2.1.nd) ?_
  refine own_ddiv K own_d0_19 (hh.2.2.2.2.2.nd) ?_
  exact own_retD K own_d0_20 (by decide) (by decide) (⟨⟨_, rfl, hh.2.2.2.2.2⟩, rfl⟩)
theorem own_msk (a k : Int32) (hk : 0 ≤ k.toInt) : ∃ n : Nat, (a &&& k).toInt = (n : Int) ∧ n ≤ k.toInt.toNat := by
  have h := own_and_bound a k hk
  exact ⟨(a &&& k).toInt.toNat, by omega, by omega⟩
theorem own_bavg {x : UInt64} {n : Nat} (h : own_P x (n * (2 ^ 54 * own_u))) (h1 : 1 ≤ n) (h2 : n ≤ 2 ^ 28) : ∃ A, own_P (FP.ddiv x 4616189618054758400) A ∧ 2 ^ 52 * own_u ≤ A ∧ A ≤ 2 ^ 28 * (2 ^ 54 * own_u) := by
  have up := own_up
  have n1 : 1 * (2 ^ 54 * own_u) ≤ n * (2 ^ 54 * own_u) := Nat.mul_le_mul_right _ h1
  have n2 : n * (2 ^ 54 * own_u) ≤ 2 ^ 28 * (2 ^ 54 * own_u) := Nat.mul_le_mul_right _ h2
  obtain ⟨V, hV⟩ := own_Ptwo 28 (by decide)
  generalize n * (2 ^ 54 * own_u) = y at h n1 n2
  have k := own_Pdiv h own_P4 (by omega) (by
    rw [own_bone]
    exact (own_bG (Nat.mul_le_mul (by omega) (by omega))).1)
  rw [own_bone] at k
  refine ⟨_, k, own_N_ge (by omega) own_P025 ?_, own_N_le (by omega) hV ?_⟩
  · rw [show 2 ^ 52 * own_u * (2 ^ 56 * own_u) = 2 ^ 54 * own_u * (2 ^ 54 * own_u) by
      rw [show 2 ^ 52 * own_u * (2 ^ 56 * own_u) = 2 ^ 52 * 2 ^ 56 * own_u * own_u by ac_rfl, show 2 ^ 54 * own_u * (2 ^ 54 * own_u) = 2 ^ 54 * 2 ^ 54 * own_u * own_u by ac_rfl]]
    exact Nat.mul_le_mul_right _ (by omega)
  · exact Nat.mul_le_mul n2 (by omega)
theorem own_bone1 {x : UInt64} {A : Nat} (h : own_P x A) (h1 : 2 ^ 52 * own_u ≤ A) (h2 : A ≤ 2 ^ 28 * (2 ^ 54 * own_u)) : ∃ A', own_P (FP.dadd x 4607182418800017408) A' ∧ A ≤ A' := by
  have k := own_Padd h own_P1 (by
    have := (own_bG (A := A + (2 ^ 54 * own_u)) (B := 1) (by omega)).1
    omega)
  exact ⟨_, k, own_N_ge (by decide) h (by omega)⟩
theorem own_bf1 {x : UInt64} {a : Int32} {f : Nat} (h : own_P x (f * (2 ^ 54 * own_u))) (ha : a.toInt = (f : Int)) (hf : f ≤ 2 ^ 20) : own_P (FP.dadd x 4607182418800017408) (f * (2 ^ 54 * own_u) + (2 ^ 54 * own_u)) := by
  have fb : f * (2 ^ 54 * own_u) ≤ 2 ^ 20 * (2 ^ 54 * own_u) := Nat.mul_le_mul_right _ hf
  have e1 : (1 : Int32).toInt = 1 := rfl
  have h1 : (a + 1).toInt = ((f + 1 : Nat) : Int) := by rw [own_add32 (by omega) (by omega)]; omega
  have v := own_Pi2d h1
  rw [Nat.add_mul, Nat.one_mul] at v
  have k := own_Padd h own_P1 (by
    have := (own_bG (A := f * (2 ^ 54 * own_u) + (2 ^ 54 * own_u)) (B := 1) (by omega)).1
    omega)
  rw [own_N_eq (by decide) v (Nat.mul_one _)] at k
  exact k
theorem own_bfr {x c : UInt64} {F y : Nat} (h : own_P x F) (hc : own_P c y) (hF : F ≤ 2 ^ 20 * (2 ^ 54 * own_u)) (h1 : 2 ^ 52 * own_u ≤ y) (h2 : y ≤ 2 * (2 ^ 54 * own_u)) : own_P (FP.dadd x c) (own_N (F + y) 1) ∧ own_P (FP.ddiv x (FP.dadd x c)) (own_N (F * (2 ^ 54 * own_u)) (own_N (F + y) 1)) := by
  have up := own_up
  have k := own_Padd h hc (by
    have := (own_bG (A := F + y) (B := 1) (by omega)).1
    omega)
  have ge : 2 ^ 52 * own_u ≤ own_N (F + y) 1 := own_N_ge (by decide) own_P025 (by omega)
  have q := own_Pdiv h k (by omega) (by
    rw [own_bone]
    exact (own_bG (own_Tb (by omega) ge)).1)
  rw [own_bone] at q
  exact ⟨k, q⟩
open FP.Core in
theorem own_ngt {a b : UInt64} {x y : Nat} (ha : own_P a x) (hb : own_P b y) (h : x ≤ y) {mm : CmpOp} : ¬ (0 < (cmpValue (FP.dcmp a b) mm).toInt) := by
  rcases Nat.lt_or_eq_of_le h with h | h
  · rw [own_clt ha hb h]; decide
  · rw [own_ceq ha hb h]; decide
theorem own_nlt {a b : UInt64} {x y : Nat} (ha : own_P a x) (hb : own_P b y) (h : y ≤ x) {mm : CmpOp} : ¬ ((cmpValue (FP.dcmp a b) mm).toInt < 0) := by
  rcases Nat.lt_or_eq_of_le h with h | h
  · rw [own_cgt ha hb h]; decide
  · rw [own_ceq ha hb h.symm]; decide
set_option maxRecDepth 65536 in
set_option maxHeartbeats 40000000 in
theorem own_law_ef (m : MethodId) (x0 : Int32) (x1 : Int32) (x2 : Int32) (x3 : Int32) : entryFrame m #[(.int x0), (.int x1), (.int x2), (.int x3)] 18 = mkF m 0 #[.val (.int x0), .val (.int x1), .val (.int x2), .val (.int x3), .unset, .unset, .unset, .unset, .unset, .unset, .unset, .unset, .unset, .unset, .unset, .unset, .unset, .unset] [] := by first | (simp [entryFrame, mkF, argsToLocals, Value.category]; done) | rfl
set_option maxRecDepth 65536 in
set_option maxHeartbeats 40000000 in
theorem own_law {l : Launch} {Z : State} {a0 : Array Value} (hw : own_Z Z a0) {pp qq rr ss : Int32} : own_Met false l Z (⟨"com/example/fielder/fielder/service/Bm25TfPinLaw", "law", "(IIII)Z"⟩ : MethodName) code 18 (some .boolean) tables_1 room_1 #[(.int pp), (.int qq), (.int rr), (.int ss)] Z.heap (fun v h' => v = some (.int 1)) := by
  refine own_met (by first | exact plainFor_of_name (by decide +kernel) | decide +kernel) ?_
  intro p e s m below meth c K
  refine own_cast (own_law_ef m _ _ _ _) ?_
  have up := own_up
  obtain ⟨f, hf, bf⟩ := own_msk pp (1048575 : Int32) (by decide)
  obtain ⟨ln, hl, bl⟩ := own_msk qq (1073741823 : Int32) (by decide)
  obtain ⟨r0, hr, br⟩ := own_msk rr (268435455 : Int32) (by decide)
  obtain ⟨m0, hm0, bm⟩ := own_msk ss (1073741823 : Int32) (by decide)
  replace bf : f ≤ 1048575 := bf
  replace bl : ln ≤ 1073741823 := bl
  replace br : r0 ≤ 268435455 := br
  replace bm : m0 ≤ 1073741823 := bm
  have e1 : (1 : Int32).toInt = 1 := rfl
  have hl1 : ((qq &&& (1073741823 : Int32)) + (1 : Int32)).toInt = ((ln + 1 : Nat) : Int) := by rw [own_add32 (by omega) (by omega)]; omega
  have hr1 : ((rr &&& (268435455 : Int32)) + (1 : Int32)).toInt = ((r0 + 1 : Nat) : Int) := by rw [own_add32 (by omega) (by omega)]; omega
  have hm1 : ((ss &&& (1073741823 : Int32)) + (1 : Int32)).toInt = ((m0 + 1 : Nat) : Int) := by rw [own_add32 (by omega) (by omega)]; omega
  have PF := own_Pi2d hf
  have PL := own_Pi2d hl
  have PL1 := own_Pi2d hl1
  have PR := own_Pi2d hr1
  have PM := own_Pi2d hm1
  have PZ : own_P (FP.i2d (0 : Int32)) (0 * (2 ^ 54 * own_u)) := own_Pi2d rfl
  have bF : f * (2 ^ 54 * own_u) ≤ 2 ^ 20 * (2 ^ 54 * own_u) := Nat.mul_le_mul_right _ (by omega)
  have PF1 := own_bf1 PF hf (by omega)
  have F0 : f * (2 ^ 54 * own_u) = 0 ∨ 2 ^ 54 * own_u ≤ f * (2 ^ 54 * own_u) := by
    rcases Nat.eq_zero_or_pos f with h0 | h0
    · exact Or.inl (by rw [h0, Nat.zero_mul])
    · have := Nat.mul_le_mul_right (2 ^ 54 * own_u) h0
      exact Or.inr (by omega)
  obtain ⟨A, PA, a1, a2⟩ := own_bavg PR (by omega) (by omega)
  obtain ⟨A', PA1, aa⟩ := own_bone1 PA a1 a2
  have MA : 2 ^ 52 * own_u ≤ (m0 + 1) * (2 ^ 54 * own_u) := by
    have := Nat.mul_le_mul_right (2 ^ 54 * own_u) (show 1 ≤ m0 + 1 by omega)
    omega
  have Q12 := own_bfr PF own_P12 bF (by omega) (by omega)
  have Q03 := own_bfr PF own_P03 bF (by omega) (by omega)
  have e12 := own_bTavg (F := f * (2 ^ 54 * own_u)) (m := m0 + 1) (by omega) (by omega)
  have e03 := own_bTempty (F := f * (2 ^ 54 * own_u)) a1
  generalize hFF : f * (2 ^ 54 * own_u) = F at *
  rcases (show F = 0 ∨ 2 ^ 54 * own_u ≤ F from F0) with FZ | FZ
  · refine own_iloadN K own_d1_0 rfl ?_
    refine own_ldcI K own_d1_1 (v := (1048575 : Int32)) (own_w0 hw) ?_
    refine own_iand K own_d1_3 ?_
    refine own_i2d K own_d1_4 ?_
    refine own_dstore K own_d1_5 (Ls' := #[.val (.int pp), .val (.int qq), .val (.int rr), .val (.int ss), .val (.double (FP.i2d (pp &&& (1048575 : Int32)))), .second, .unset, .unset, .unset, .unset, .unset, .unset, .unset, .unset, .unset, .unset, .unset, .unset]) rfl ?_
    refine own_iloadN K own_d1_7 rfl ?_
    refine own_ldcI K own_d1_8 (v := (1073741823 : Int32)) (own_w1 hw) ?_
    refine own_iand K own_d1_10 ?_
    refine own_istore K own_d1_11 (Ls' := #[.val (.int pp), .val (.int qq), .val (.int rr), .val (.int ss), .val (.double (FP.i2d (pp &&& (1048575 : Int32)))), .second, .val (.int (qq &&& (1073741823 : Int32))), .unset, .unset, .unset, .unset, .unset, .unset, .unset, .unset, .unset, .unset, .unset]) rfl ?_
    refine own_iloadN K own_d1_13 rfl ?_
    refine own_ldcI K own_d1_14 (v := (268435455 : Int32)) (own_w2 hw) ?_
    refine own_iand K own_d1_16 ?_
    refine own_iconst K own_d1_17 (v := (1 : Int32)) rfl ?_
    refine own_iadd K own_d1_18 ?_
    refine own_i2d K own_d1_19 ?_
    refine own_ldc2D K own_d1_20 (own_w3 hw) ?_
    refine own_ddiv K own_d1_23 (PA.nd) ?_
    refine own_dstore K own_d1_24 (Ls' := #[.val (.int pp), .val (.int qq), .val (.int rr), .val (.int ss), .val (.double (FP.i2d (pp &&& (1048575 : Int32)))), .second, .val (.int (qq &&& (1073741823 : Int32))), .val (.double (FP.ddiv (FP.i2d ((rr &&& (268435455 : Int32)) + (1 : Int32))) (4616189618054758400 : UInt64))), .second, .unset, .unset, .unset, .unset, .unset, .unset, .unset, .unset, .unset]) rfl ?_
    refine own_iloadN K own_d1_26 rfl ?_
    refine own_ldcI K own_d1_27 (v := (1073741823 : Int32)) (own_w1 hw) ?_
    refine own_iand K own_d1_29 ?_
    refine own_iconst K own_d1_30 (v := (1 : Int32)) rfl ?_
    refine own_iadd K own_d1_31 ?_
    refine own_istore K own_d1_32 (Ls' := #[.val (.int pp), .val (.int qq), .val (.int rr), .val (.int ss), .val (.double (FP.i2d (pp &&& (1048575 : Int32)))), .second, .val (.int (qq &&& (1073741823 : Int32))), .val (.double (FP.ddiv (FP.i2d ((rr &&& (268435455 : Int32)) + (1 : Int32))) (4616189618054758400 : UInt64))), .second, .val (.int ((ss &&& (1073741823 : Int32)) + (1 : Int32))), .unset, .unset, .unset, .unset, .unset, .unset, .unset, .unset]) rfl ?_
    refine own_dload K own_d1_34 rfl ?_
    refine own_iload K own_d1_36 rfl ?_
    refine own_dload K own_d1_38 rfl ?_
    refine own_static K own_d1_40 (own_w4 hw) (own_w5 hw) (own_w6 hw) (own_w7 hw) (argsL := [(.double (FP.i2d (pp &&& (1048575 : Int32)))), (.int (qq &&& (1073741823 : Int32))), (.double (FP.ddiv (FP.i2d ((rr &&& (268435455 : Int32)) + (1 : Int32))) (4616189618054758400 : UInt64)))]) (rest := []) (own_tf hw PF PL PA (by omega) (by omega) a1) own_pd0 rfl rfl rfl (by decide) (W := 0) (Nat.le_of_eq rfl) (by decide) (by decide) (by decide) (by decide) ?_
    intro v3 h1 q2
    obtain ⟨⟨t0, rfl, P0⟩, rfl⟩ := q2
    refine own_dstore K own_d1_43 (Ls' := #[.val (.int pp), .val (.int qq), .val (.int rr), .val (.int ss), .val (.double (FP.i2d (pp &&& (1048575 : Int32)))), .second, .val (.int (qq &&& (1073741823 : Int32))), .val (.double (FP.ddiv (FP.i2d ((rr &&& (268435455 : Int32)) + (1 : Int32))) (4616189618054758400 : UInt64))), .second, .val (.int ((ss &&& (1073741823 : Int32)) + (1 : Int32))), .val (.double t0), .second, .unset, .unset, .unset, .unset, .unset, .unset]) rfl ?_
    refine own_dload K own_d1_45 rfl ?_
    refine own_dconst0 K own_d1_47 (v := (0 : UInt64)) rfl ?_
    refine own_dcmp K own_d1_48 ?_
    refine own_topI (x' := (0 : Int32)) (own_ceq P0 own_P0 (by rw [FZ]; exact own_bTzero) _) ?_
    refine own_iflt K own_d1_49 (fun q => absurd q (by decide)) (fun _ => ?_)
    refine own_dload K own_d1_52 rfl ?_
    refine own_dconst1 K own_d1_54 (v := (4607182418800017408 : UInt64)) rfl ?_
    refine own_dcmp K own_d1_55 ?_
    refine own_topI (x' := (-1 : Int32)) (own_clt P0 own_P1 (own_bTlt bF (by omega) a1) _) ?_
    refine own_ifge K own_d1_56 (fun q => absurd q (by decide)) (fun _ => ?_)
    refine own_dload K own_d1_59 rfl ?_
    refine own_dconst0 K own_d1_61 (v := (0 : UInt64)) rfl ?_
    refine own_dcmp K own_d1_62 ?_
    refine own_topI (x' := (0 : Int32)) (own_ceq P0 own_P0 (by rw [FZ]; exact own_bTzero) _) ?_
    refine own_ifne K own_d1_63 (fun q => absurd q (by decide)) (fun _ => ?_)
    refine own_iconst K own_d1_66 (v := (1 : Int32)) rfl ?_
    refine own_goto K own_d1_67 ?_
    refine own_dload K own_d1_71 rfl ?_
    refine own_dconst0 K own_d1_73 (v := (0 : UInt64)) rfl ?_
    refine own_dcmp K own_d1_74 ?_
    refine own_topI (x' := (0 : Int32)) (own_ceq PF own_P0 FZ _) ?_
    refine own_ifne K own_d1_75 (fun q => absurd q (by decide)) (fun _ => ?_)
    refine own_iconst K own_d1_78 (v := (1 : Int32)) rfl ?_
    refine own_goto K own_d1_79 ?_
    refine own_icmpne K own_d1_83 (fun q => absurd q (by decide)) (fun _ => ?_)
    refine own_iconst K own_d1_86 (v := (1 : Int32)) rfl ?_
    refine own_goto K own_d1_87 ?_
    refine own_istore K own_d1_91 (Ls' := #[.val (.int pp), .val (.int qq), .val (.int rr), .val (.int ss), .val (.double (FP.i2d (pp &&& (1048575 : Int32)))), .second, .val (.int (qq &&& (1073741823 : Int32))), .val (.double (FP.ddiv (FP.i2d ((rr &&& (268435455 : Int32)) + (1 : Int32))) (4616189618054758400 : UInt64))), .second, .val (.int ((ss &&& (1073741823 : Int32)) + (1 : Int32))), .val (.double t0), .second, .val (.int (1 : Int32)), .unset, .unset, .unset, .unset, .unset]) rfl ?_
    refine own_dload K own_d1_93 rfl ?_
    refine own_dconst1 K own_d1_95 (v := (4607182418800017408 : UInt64)) rfl ?_
    refine own_dadd K own_d1_96 (PF1.nd) ?_
    refine own_iload K own_d1_97 rfl ?_
    refine own_dload K own_d1_99 rfl ?_
    refine own_static K own_d1_101 (own_w4 hw) (own_w5 hw) (own_w6 hw) (own_w7 hw) (argsL := [(.double (FP.dadd (FP.i2d (pp &&& (1048575 : Int32))) (4607182418800017408 : UInt64))), (.int (qq &&& (1073741823 : Int32))), (.double (FP.ddiv (FP.i2d ((rr &&& (268435455 : Int32)) + (1 : Int32))) (4616189618054758400 : UInt64)))]) (rest := []) (own_tf hw PF1 PL PA (by omega) (by omega) a1) own_pd0 rfl rfl rfl (by decide) (W := 0) (Nat.le_of_eq rfl) (by decide) (by decide) (by decide) (by decide) ?_
    intro v6 h4 q5
    obtain ⟨⟨t1, rfl, P1⟩, rfl⟩ := q5
    refine own_dload K own_d1_104 rfl ?_
    refine own_dcmp K own_d1_106 ?_
    refine own_topI (x' := (1 : Int32)) (own_cgt P1 P0 (own_bTmore bF F0 (by omega) a1) _) ?_
    refine own_ifle K own_d1_107 (fun q => absurd q (by decide)) (fun _ => ?_)
    refine own_iconst K own_d1_110 (v := (1 : Int32)) rfl ?_
    refine own_goto K own_d1_111 ?_
    refine own_istore K own_d1_115 (Ls' := #[.val (.int pp), .val (.int qq), .val (.int rr), .val (.int ss), .val (.double (FP.i2d (pp &&& (1048575 : Int32)))), .second, .val (.int (qq &&& (1073741823 : Int32))), .val (.double (FP.ddiv (FP.i2d ((rr &&& (268435455 : Int32)) + (1 : Int32))) (4616189618054758400 : UInt64))), .second, .val (.int ((ss &&& (1073741823 : Int32)) + (1 : Int32))), .val (.double t0), .second, .val (.int (1 : Int32)), .val (.int (1 : Int32)), .unset, .unset, .unset, .unset]) rfl ?_
    refine own_dload K own_d1_117 rfl ?_
    refine own_iload K own_d1_119 rfl ?_
    refine own_iconst K own_d1_121 (v := (1 : Int32)) rfl ?_
    refine own_iadd K own_d1_122 ?_
    refine own_dload K own_d1_123 rfl ?_
    refine own_static K own_d1_125 (own_w4 hw) (own_w5 hw) (own_w6 hw) (own_w7 hw) (argsL := [(.double (FP.i2d (pp &&& (1048575 : Int32)))), (.int ((qq &&& (1073741823 : Int32)) + (1 : Int32))), (.double (FP.ddiv (FP.i2d ((rr &&& (268435455 : Int32)) + (1 : Int32))) (4616189618054758400 : UInt64)))]) (rest := []) (own_tf hw PF PL1 PA (by omega) (by omega) a1) own_pd0 rfl rfl rfl (by decide) (W := 0) (Nat.le_of_eq rfl) (by decide) (by decide) (by decide) (by decide) ?_
    intro v9 h7 q8
    obtain ⟨⟨t2, rfl, P2⟩, rfl⟩ := q8
    refine own_dload K own_d1_128 rfl ?_
    refine own_dcmp K own_d1_130 ?_
    have le2 := own_bTmono (F := F) (l := ln) (A := A) (l' := ln + 1) (A' := A) (by omega) (by omega) (by omega) (Nat.le_refl _) a1
    refine own_ifgt K own_d1_131 (fun q => absurd q (own_ngt P2 P0 le2)) (fun _ => ?_)
    refine own_iconst K own_d1_134 (v := (1 : Int32)) rfl ?_
    refine own_goto K own_d1_135 ?_
    refine own_istore K own_d1_139 (Ls' := #[.val (.int pp), .val (.int qq), .val (.int rr), .val (.int ss), .val (.double (FP.i2d (pp &&& (1048575 : Int32)))), .second, .val (.int (qq &&& (1073741823 : Int32))), .val (.double (FP.ddiv (FP.i2d ((rr &&& (268435455 : Int32)) + (1 : Int32))) (4616189618054758400 : UInt64))), .second, .val (.int ((ss &&& (1073741823 : Int32)) + (1 : Int32))), .val (.double t0), .second, .val (.int (1 : Int32)), .val (.int (1 : Int32)), .val (.int (1 : Int32)), .unset, .unset, .unset]) rfl ?_
    refine own_dload K own_d1_141 rfl ?_
    refine own_iload K own_d1_143 rfl ?_
    refine own_dload K own_d1_145 rfl ?_
    refine own_dconst1 K own_d1_147 (v := (4607182418800017408 : UInt64)) rfl ?_
    refine own_dadd K own_d1_148 (PA1.nd) ?_
    refine own_static K own_d1_149 (own_w4 hw) (own_w5 hw) (own_w6 hw) (own_w7 hw) (argsL := [(.double (FP.i2d (pp &&& (1048575 : Int32)))), (.int (qq &&& (1073741823 : Int32))), (.double (FP.dadd (FP.ddiv (FP.i2d ((rr &&& (268435455 : Int32)) + (1 : Int32))) (4616189618054758400 : UInt64)) (4607182418800017408 : UInt64)))]) (rest := []) (own_tf hw PF PL PA1 (by omega) (by omega) (by omega)) own_pd0 rfl rfl rfl (by decide) (W := 0) (Nat.le_of_eq rfl) (by decide) (by decide) (by decide) (by decide) ?_
    intro v12 h10 q11
    obtain ⟨⟨t3, rfl, P3⟩, rfl⟩ := q11
    refine own_dload K own_d1_152 rfl ?_
    refine own_dcmp K own_d1_154 ?_
    have le3 := own_bTmono (F := F) (l := ln) (A := A') (l' := ln) (A' := A) (by omega) (Nat.le_refl _) (by omega) aa a1
    refine own_iflt K own_d1_155 (fun q => absurd q (own_nlt P3 P0 le3)) (fun _ => ?_)
    refine own_iconst K own_d1_158 (v := (1 : Int32)) rfl ?_
    refine own_goto K own_d1_159 ?_
    refine own_istore K own_d1_163 (Ls' := #[.val (.int pp), .val (.int qq), .val (.int rr), .val (.int ss), .val (.double (FP.i2d (pp &&& (1048575 : Int32)))), .second, .val (.int (qq &&& (1073741823 : Int32))), .val (.double (FP.ddiv (FP.i2d ((rr &&& (268435455 : Int32)) + (1 : Int32))) (4616189618054758400 : UInt64))), .second, .val (.int ((ss &&& (1073741823 : Int32)) + (1 : Int32))), .val (.double t0), .second, .val (.int (1 : Int32)), .val (.int (1 : Int32)), .val (.int (1 : Int32)), .val (.int (1 : Int32)), .unset, .unset]) rfl ?_
    refine own_dload K own_d1_165 rfl ?_
    refine own_iload K own_d1_167 rfl ?_
    refine own_iload K own_d1_169 rfl ?_
    refine own_i2d K own_d1_171 ?_
    refine own_static K own_d1_172 (own_w4 hw) (own_w5 hw) (own_w6 hw) (own_w7 hw) (argsL := [(.double (FP.i2d (pp &&& (1048575 : Int32)))), (.int ((ss &&& (1073741823 : Int32)) + (1 : Int32))), (.double (FP.i2d ((ss &&& (1073741823 : Int32)) + (1 : Int32))))]) (rest := []) (own_tf hw PF PM PM (by omega) (by omega) MA) own_pd0 rfl rfl rfl (by decide) (W := 0) (Nat.le_of_eq rfl) (by decide) (by decide) (by decide) (by decide) ?_
    intro v15 h13 q14
    obtain ⟨⟨t4, rfl, P4⟩, rfl⟩ := q14
    refine own_dload K own_d1_175 rfl ?_
    refine own_dload K own_d1_177 rfl ?_
    refine own_ldc2D K own_d1_179 (own_w11 hw) ?_
    refine own_dadd K own_d1_182 (Q12.1.nd) ?_
    refine own_ddiv K own_d1_183 (Q12.2.nd) ?_
    refine own_dcmp K own_d1_184 ?_
    refine own_topI (x' := (0 : Int32)) (own_ceq P4 Q12.2 e12 _) ?_
    refine own_ifne K own_d1_185 (fun q => absurd q (by decide)) (fun _ => ?_)
    refine own_iconst K own_d1_188 (v := (1 : Int32)) rfl ?_
    refine own_goto K own_d1_189 ?_
    refine own_istore K own_d1_193 (Ls' := #[.val (.int pp), .val (.int qq), .val (.int rr), .val (.int ss), .val (.double (FP.i2d (pp &&& (1048575 : Int32)))), .second, .val (.int (qq &&& (1073741823 : Int32))), .val (.double (FP.ddiv (FP.i2d ((rr &&& (268435455 : Int32)) + (1 : Int32))) (4616189618054758400 : UInt64))), .second, .val (.int ((ss &&& (1073741823 : Int32)) + (1 : Int32))), .val (.double t0), .second, .val (.int (1 : Int32)), .val (.int (1 : Int32)), .val (.int (1 : Int32)), .val (.int (1 : Int32)), .val (.int (1 : Int32)), .unset]) rfl ?_
    refine own_dload K own_d1_195 rfl ?_
    refine own_iconst K own_d1_197 (v := (0 : Int32)) rfl ?_
    refine own_dload K own_d1_198 rfl ?_
    refine own_static K own_d1_200 (own_w4 hw) (own_w5 hw) (own_w6 hw) (own_w7 hw) (argsL := [(.double (FP.i2d (pp &&& (1048575 : Int32)))), (.int (0 : Int32)), (.double (FP.ddiv (FP.i2d ((rr &&& (268435455 : Int32)) + (1 : Int32))) (4616189618054758400 : UInt64)))]) (rest := []) (own_tf hw PF PZ PA (by omega) (by omega) a1) own_pd0 rfl rfl rfl (by decide) (W := 0) (Nat.le_of_eq rfl) (by decide) (by decide) (by decide) (by decide) ?_
    intro v18 h16 q17
    obtain ⟨⟨t5, rfl, P5⟩, rfl⟩ := q17
    refine own_dload K own_d1_203 rfl ?_
    refine own_dload K own_d1_205 rfl ?_
    refine own_ldc2D K own_d1_207 (own_w12 hw) ?_
    refine own_dadd K own_d1_210 (Q03.1.nd) ?_
    refine own_ddiv K own_d1_211 (Q03.2.nd) ?_
    refine own_dcmp K own_d1_212 ?_
    refine own_topI (x' := (0 : Int32)) (own_ceq P5 Q03.2 e03 _) ?_
    refine own_ifne K own_d1_213 (fun q => absurd q (by decide)) (fun _ => ?_)
    refine own_iconst K own_d1_216 (v := (1 : Int32)) rfl ?_
    refine own_goto K own_d1_217 ?_
    refine own_istore K own_d1_221 (Ls' := #[.val (.int pp), .val (.int qq), .val (.int rr), .val (.int ss), .val (.double (FP.i2d (pp &&& (1048575 : Int32)))), .second, .val (.int (qq &&& (1073741823 : Int32))), .val (.double (FP.ddiv (FP.i2d ((rr &&& (268435455 : Int32)) + (1 : Int32))) (4616189618054758400 : UInt64))), .second, .val (.int ((ss &&& (1073741823 : Int32)) + (1 : Int32))), .val (.double t0), .second, .val (.int (1 : Int32)), .val (.int (1 : Int32)), .val (.int (1 : Int32)), .val (.int (1 : Int32)), .val (.int (1 : Int32)), .val (.int (1 : Int32))]) rfl ?_
    refine own_iload K own_d1_223 rfl ?_
    refine own_ifeq K own_d1_225 (fun q => absurd q (by decide)) (fun _ => ?_)
    refine own_iload K own_d1_228 rfl ?_
    refine own_ifeq K own_d1_230 (fun q => absurd q (by decide)) (fun _ => ?_)
    refine own_iload K own_d1_233 rfl ?_
    refine own_ifeq K own_d1_235 (fun q => absurd q (by decide)) (fun _ => ?_)
    refine own_iload K own_d1_238 rfl ?_
    refine own_ifeq K own_d1_240 (fun q => absurd q (by decide)) (fun _ => ?_)
    refine own_iload K own_d1_243 rfl ?_
    refine own_ifeq K own_d1_245 (fun q => absurd q (by decide)) (fun _ => ?_)
    refine own_iload K own_d1_248 rfl ?_
    refine own_ifeq K own_d1_250 (fun q => absurd q (by decide)) (fun _ => ?_)
    refine own_iconst K own_d1_253 (v := (1 : Int32)) rfl ?_
    refine own_goto K own_d1_254 ?_
    exact own_retZ K (by first | exact Or.inl rfl | exact Or.inr rfl | decide) own_d1_258 (by decide) (by decide) (rfl)
  · refine own_iloadN K own_d1_0 rfl ?_
    refine own_ldcI K own_d1_1 (v := (1048575 : Int32)) (own_w0 hw) ?_
    refine own_iand K own_d1_3 ?_
    refine own_i2d K own_d1_4 ?_
    refine own_dstore K own_d1_5 (Ls' := #[.val (.int pp), .val (.int qq), .val (.int rr), .val (.int ss), .val (.double (FP.i2d (pp &&& (1048575 : Int32)))), .second, .unset, .unset, .unset, .unset, .unset, .unset, .unset, .unset, .unset, .unset, .unset, .unset]) rfl ?_
    refine own_iloadN K own_d1_7 rfl ?_
    refine own_ldcI K own_d1_8 (v := (1073741823 : Int32)) (own_w1 hw) ?_
    refine own_iand K own_d1_10 ?_
    refine own_istore K own_d1_11 (Ls' := #[.val (.int pp), .val (.int qq), .val (.int rr), .val (.int ss), .val (.double (FP.i2d (pp &&& (1048575 : Int32)))), .second, .val (.int (qq &&& (1073741823 : Int32))), .unset, .unset, .unset, .unset, .unset, .unset, .unset, .unset, .unset, .unset, .unset]) rfl ?_
    refine own_iloadN K own_d1_13 rfl ?_
    refine own_ldcI K own_d1_14 (v := (268435455 : Int32)) (own_w2 hw) ?_
    refine own_iand K own_d1_16 ?_
    refine own_iconst K own_d1_17 (v := (1 : Int32)) rfl ?_
    refine own_iadd K own_d1_18 ?_
    refine own_i2d K own_d1_19 ?_
    refine own_ldc2D K own_d1_20 (own_w3 hw) ?_
    refine own_ddiv K own_d1_23 (PA.nd) ?_
    refine own_dstore K own_d1_24 (Ls' := #[.val (.int pp), .val (.int qq), .val (.int rr), .val (.int ss), .val (.double (FP.i2d (pp &&& (1048575 : Int32)))), .second, .val (.int (qq &&& (1073741823 : Int32))), .val (.double (FP.ddiv (FP.i2d ((rr &&& (268435455 : Int32)) + (1 : Int32))) (4616189618054758400 : UInt64))), .second, .unset, .unset, .unset, .unset, .unset, .unset, .unset, .unset, .unset]) rfl ?_
    refine own_iloadN K own_d1_26 rfl ?_
    refine own_ldcI K own_d1_27 (v := (1073741823 : Int32)) (own_w1 hw) ?_
    refine own_iand K own_d1_29 ?_
    refine own_iconst K own_d1_30 (v := (1 : Int32)) rfl ?_
    refine own_iadd K own_d1_31 ?_
    refine own_istore K own_d1_32 (Ls' := #[.val (.int pp), .val (.int qq), .val (.int rr), .val (.int ss), .val (.double (FP.i2d (pp &&& (1048575 : Int32)))), .second, .val (.int (qq &&& (1073741823 : Int32))), .val (.double (FP.ddiv (FP.i2d ((rr &&& (268435455 : Int32)) + (1 : Int32))) (4616189618054758400 : UInt64))), .second, .val (.int ((ss &&& (1073741823 : Int32)) + (1 : Int32))), .unset, .unset, .unset, .unset, .unset, .unset, .unset, .unset]) rfl ?_
    refine own_dload K own_d1_34 rfl ?_
    refine own_iload K own_d1_36 rfl ?_
    refine own_dload K own_d1_38 rfl ?_
    refine own_static K own_d1_40 (own_w4 hw) (own_w5 hw) (own_w6 hw) (own_w7 hw) (argsL := [(.double (FP.i2d (pp &&& (1048575 : Int32)))), (.int (qq &&& (1073741823 : Int32))), (.double (FP.ddiv (FP.i2d ((rr &&& (268435455 : Int32)) + (1 : Int32))) (4616189618054758400 : UInt64)))]) (rest := []) (own_tf hw PF PL PA (by omega) (by omega) a1) own_pd0 rfl rfl rfl (by decide) (W := 0) (Nat.le_of_eq rfl) (by decide) (by decide) (by decide) (by decide) ?_
    intro v3 h1 q2
    obtain ⟨⟨t0, rfl, P0⟩, rfl⟩ := q2
    refine own_dstore K own_d1_43 (Ls' := #[.val (.int pp), .val (.int qq), .val (.int rr), .val (.int ss), .val (.double (FP.i2d (pp &&& (1048575 : Int32)))), .second, .val (.int (qq &&& (1073741823 : Int32))), .val (.double (FP.ddiv (FP.i2d ((rr &&& (268435455 : Int32)) + (1 : Int32))) (4616189618054758400 : UInt64))), .second, .val (.int ((ss &&& (1073741823 : Int32)) + (1 : Int32))), .val (.double t0), .second, .unset, .unset, .unset, .unset, .unset, .unset]) rfl ?_
    refine own_dload K own_d1_45 rfl ?_
    refine own_dconst0 K own_d1_47 (v := (0 : UInt64)) rfl ?_
    refine own_dcmp K own_d1_48 ?_
    refine own_topI (x' := (1 : Int32)) (own_cgt P0 own_P0 (own_bTpos FZ (by omega) (by omega) a1) _) ?_
    refine own_iflt K own_d1_49 (fun q => absurd q (by decide)) (fun _ => ?_)
    refine own_dload K own_d1_52 rfl ?_
    refine own_dconst1 K own_d1_54 (v := (4607182418800017408 : UInt64)) rfl ?_
    refine own_dcmp K own_d1_55 ?_
    refine own_topI (x' := (-1 : Int32)) (own_clt P0 own_P1 (own_bTlt bF (by omega) a1) _) ?_
    refine own_ifge K own_d1_56 (fun q => absurd q (by decide)) (fun _ => ?_)
    refine own_dload K own_d1_59 rfl ?_
    refine own_dconst0 K own_d1_61 (v := (0 : UInt64)) rfl ?_
    refine own_dcmp K own_d1_62 ?_
    refine own_topI (x' := (1 : Int32)) (own_cgt P0 own_P0 (own_bTpos FZ (by omega) (by omega) a1) _) ?_
    refine own_ifne K own_d1_63 (fun _ => ?_) (fun q => absurd (by decide) q)
    refine own_iconst K own_d1_70 (v := (0 : Int32)) rfl ?_
    refine own_dload K own_d1_71 rfl ?_
    refine own_dconst0 K own_d1_73 (v := (0 : UInt64)) rfl ?_
    refine own_dcmp K own_d1_74 ?_
    refine own_topI (x' := (1 : Int32)) (own_cgt PF own_P0 (by omega) _) ?_
    refine own_ifne K own_d1_75 (fun _ => ?_) (fun q => absurd (by decide) q)
    refine own_iconst K own_d1_82 (v := (0 : Int32)) rfl ?_
    refine own_icmpne K own_d1_83 (fun q => absurd q (by decide)) (fun _ => ?_)
    refine own_iconst K own_d1_86 (v := (1 : Int32)) rfl ?_
    refine own_goto K own_d1_87 ?_
    refine own_istore K own_d1_91 (Ls' := #[.val (.int pp), .val (.int qq), .val (.int rr), .val (.int ss), .val (.double (FP.i2d (pp &&& (1048575 : Int32)))), .second, .val (.int (qq &&& (1073741823 : Int32))), .val (.double (FP.ddiv (FP.i2d ((rr &&& (268435455 : Int32)) + (1 : Int32))) (4616189618054758400 : UInt64))), .second, .val (.int ((ss &&& (1073741823 : Int32)) + (1 : Int32))), .val (.double t0), .second, .val (.int (1 : Int32)), .unset, .unset, .unset, .unset, .unset]) rfl ?_
    refine own_dload K own_d1_93 rfl ?_
    refine own_dconst1 K own_d1_95 (v := (4607182418800017408 : UInt64)) rfl ?_
    refine own_dadd K own_d1_96 (PF1.nd) ?_
    refine own_iload K own_d1_97 rfl ?_
    refine own_dload K own_d1_99 rfl ?_
    refine own_static K own_d1_101 (own_w4 hw) (own_w5 hw) (own_w6 hw) (own_w7 hw) (argsL := [(.double (FP.dadd (FP.i2d (pp &&& (1048575 : Int32))) (4607182418800017408 : UInt64))), (.int (qq &&& (1073741823 : Int32))), (.double (FP.ddiv (FP.i2d ((rr &&& (268435455 : Int32)) + (1 : Int32))) (4616189618054758400 : UInt64)))]) (rest := []) (own_tf hw PF1 PL PA (by omega) (by omega) a1) own_pd0 rfl rfl rfl (by decide) (W := 0) (Nat.le_of_eq rfl) (by decide) (by decide) (by decide) (by decide) ?_
    intro v6 h4 q5
    obtain ⟨⟨t1, rfl, P1⟩, rfl⟩ := q5
    refine own_dload K own_d1_104 rfl ?_
    refine own_dcmp K own_d1_106 ?_
    refine own_topI (x' := (1 : Int32)) (own_cgt P1 P0 (own_bTmore bF F0 (by omega) a1) _) ?_
    refine own_ifle K own_d1_107 (fun q => absurd q (by decide)) (fun _ => ?_)
    refine own_iconst K own_d1_110 (v := (1 : Int32)) rfl ?_
    refine own_goto K own_d1_111 ?_
    refine own_istore K own_d1_115 (Ls' := #[.val (.int pp), .val (.int qq), .val (.int rr), .val (.int ss), .val (.double (FP.i2d (pp &&& (1048575 : Int32)))), .second, .val (.int (qq &&& (1073741823 : Int32))), .val (.double (FP.ddiv (FP.i2d ((rr &&& (268435455 : Int32)) + (1 : Int32))) (4616189618054758400 : UInt64))), .second, .val (.int ((ss &&& (1073741823 : Int32)) + (1 : Int32))), .val (.double t0), .second, .val (.int (1 : Int32)), .val (.int (1 : Int32)), .unset, .unset, .unset, .unset]) rfl ?_
    refine own_dload K own_d1_117 rfl ?_
    refine own_iload K own_d1_119 rfl ?_
    refine own_iconst K own_d1_121 (v := (1 : Int32)) rfl ?_
    refine own_iadd K own_d1_122 ?_
    refine own_dload K own_d1_123 rfl ?_
    refine own_static K own_d1_125 (own_w4 hw) (own_w5 hw) (own_w6 hw) (own_w7 hw) (argsL := [(.double (FP.i2d (pp &&& (1048575 : Int32)))), (.int ((qq &&& (1073741823 : Int32)) + (1 : Int32))), (.double (FP.ddiv (FP.i2d ((rr &&& (268435455 : Int32)) + (1 : Int32))) (4616189618054758400 : UInt64)))]) (rest := []) (own_tf hw PF PL1 PA (by omega) (by omega) a1) own_pd0 rfl rfl rfl (by decide) (W := 0) (Nat.le_of_eq rfl) (by decide) (by decide) (by decide) (by decide) ?_
    intro v9 h7 q8
    obtain ⟨⟨t2, rfl, P2⟩, rfl⟩ := q8
    refine own_dload K own_d1_128 rfl ?_
    refine own_dcmp K own_d1_130 ?_
    have le2 := own_bTmono (F := F) (l := ln) (A := A) (l' := ln + 1) (A' := A) (by omega) (by omega) (by omega) (Nat.le_refl _) a1
    refine own_ifgt K own_d1_131 (fun q => absurd q (own_ngt P2 P0 le2)) (fun _ => ?_)
    refine own_iconst K own_d1_134 (v := (1 : Int32)) rfl ?_
    refine own_goto K own_d1_135 ?_
    refine own_istore K own_d1_139 (Ls' := #[.val (.int pp), .val (.int qq), .val (.int rr), .val (.int ss), .val (.double (FP.i2d (pp &&& (1048575 : Int32)))), .second, .val (.int (qq &&& (1073741823 : Int32))), .val (.double (FP.ddiv (FP.i2d ((rr &&& (268435455 : Int32)) + (1 : Int32))) (4616189618054758400 : UInt64))), .second, .val (.int ((ss &&& (1073741823 : Int32)) + (1 : Int32))), .val (.double t0), .second, .val (.int (1 : Int32)), .val (.int (1 : Int32)), .val (.int (1 : Int32)), .unset, .unset, .unset]) rfl ?_
    refine own_dload K own_d1_141 rfl ?_
    refine own_iload K own_d1_143 rfl ?_
    refine own_dload K own_d1_145 rfl ?_
    refine own_dconst1 K own_d1_147 (v := (4607182418800017408 : UInt64)) rfl ?_
    refine own_dadd K own_d1_148 (PA1.nd) ?_
    refine own_static K own_d1_149 (own_w4 hw) (own_w5 hw) (own_w6 hw) (own_w7 hw) (argsL := [(.double (FP.i2d (pp &&& (1048575 : Int32)))), (.int (qq &&& (1073741823 : Int32))), (.double (FP.dadd (FP.ddiv (FP.i2d ((rr &&& (268435455 : Int32)) + (1 : Int32))) (4616189618054758400 : UInt64)) (4607182418800017408 : UInt64)))]) (rest := []) (own_tf hw PF PL PA1 (by omega) (by omega) (by omega)) own_pd0 rfl rfl rfl (by decide) (W := 0) (Nat.le_of_eq rfl) (by decide) (by decide) (by decide) (by decide) ?_
    intro v12 h10 q11
    obtain ⟨⟨t3, rfl, P3⟩, rfl⟩ := q11
    refine own_dload K own_d1_152 rfl ?_
    refine own_dcmp K own_d1_154 ?_
    have le3 := own_bTmono (F := F) (l := ln) (A := A') (l' := ln) (A' := A) (by omega) (Nat.le_refl _) (by omega) aa a1
    refine own_iflt K own_d1_155 (fun q => absurd q (own_nlt P3 P0 le3)) (fun _ => ?_)
    refine own_iconst K own_d1_158 (v := (1 : Int32)) rfl ?_
    refine own_goto K own_d1_159 ?_
    refine own_istore K own_d1_163 (Ls' := #[.val (.int pp), .val (.int qq), .val (.int rr), .val (.int ss), .val (.double (FP.i2d (pp &&& (1048575 : Int32)))), .second, .val (.int (qq &&& (1073741823 : Int32))), .val (.double (FP.ddiv (FP.i2d ((rr &&& (268435455 : Int32)) + (1 : Int32))) (4616189618054758400 : UInt64))), .second, .val (.int ((ss &&& (1073741823 : Int32)) + (1 : Int32))), .val (.double t0), .second, .val (.int (1 : Int32)), .val (.int (1 : Int32)), .val (.int (1 : Int32)), .val (.int (1 : Int32)), .unset, .unset]) rfl ?_
    refine own_dload K own_d1_165 rfl ?_
    refine own_iload K own_d1_167 rfl ?_
    refine own_iload K own_d1_169 rfl ?_
    refine own_i2d K own_d1_171 ?_
    refine own_static K own_d1_172 (own_w4 hw) (own_w5 hw) (own_w6 hw) (own_w7 hw) (argsL := [(.double (FP.i2d (pp &&& (1048575 : Int32)))), (.int ((ss &&& (1073741823 : Int32)) + (1 : Int32))), (.double (FP.i2d ((ss &&& (1073741823 : Int32)) + (1 : Int32))))]) (rest := []) (own_tf hw PF PM PM (by omega) (by omega) MA) own_pd0 rfl rfl rfl (by decide) (W := 0) (Nat.le_of_eq rfl) (by decide) (by decide) (by decide) (by decide) ?_
    intro v15 h13 q14
    obtain ⟨⟨t4, rfl, P4⟩, rfl⟩ := q14
    refine own_dload K own_d1_175 rfl ?_
    refine own_dload K own_d1_177 rfl ?_
    refine own_ldc2D K own_d1_179 (own_w11 hw) ?_
    refine own_dadd K own_d1_182 (Q12.1.nd) ?_
    refine own_ddiv K own_d1_183 (Q12.2.nd) ?_
    refine own_dcmp K own_d1_184 ?_
    refine own_topI (x' := (0 : Int32)) (own_ceq P4 Q12.2 e12 _) ?_
    refine own_ifne K own_d1_185 (fun q => absurd q (by decide)) (fun _ => ?_)
    refine own_iconst K own_d1_188 (v := (1 : Int32)) rfl ?_
    refine own_goto K own_d1_189 ?_
    refine own_istore K own_d1_193 (Ls' := #[.val (.int pp), .val (.int qq), .val (.int rr), .val (.int ss), .val (.double (FP.i2d (pp &&& (1048575 : Int32)))), .second, .val (.int (qq &&& (1073741823 : Int32))), .val (.double (FP.ddiv (FP.i2d ((rr &&& (268435455 : Int32)) + (1 : Int32))) (4616189618054758400 : UInt64))), .second, .val (.int ((ss &&& (1073741823 : Int32)) + (1 : Int32))), .val (.double t0), .second, .val (.int (1 : Int32)), .val (.int (1 : Int32)), .val (.int (1 : Int32)), .val (.int (1 : Int32)), .val (.int (1 : Int32)), .unset]) rfl ?_
    refine own_dload K own_d1_195 rfl ?_
    refine own_iconst K own_d1_197 (v := (0 : Int32)) rfl ?_
    refine own_dload K own_d1_198 rfl ?_
    refine own_static K own_d1_200 (own_w4 hw) (own_w5 hw) (own_w6 hw) (own_w7 hw) (argsL := [(.double (FP.i2d (pp &&& (1048575 : Int32)))), (.int (0 : Int32)), (.double (FP.ddiv (FP.i2d ((rr &&& (268435455 : Int32)) + (1 : Int32))) (4616189618054758400 : UInt64)))]) (rest := []) (own_tf hw PF PZ PA (by omega) (by omega) a1) own_pd0 rfl rfl rfl (by decide) (W := 0) (Nat.le_of_eq rfl) (by decide) (by decide) (by decide) (by decide) ?_
    intro v18 h16 q17
    obtain ⟨⟨t5, rfl, P5⟩, rfl⟩ := q17
    refine own_dload K own_d1_203 rfl ?_
    refine own_dload K own_d1_205 rfl ?_
    refine own_ldc2D K own_d1_207 (own_w12 hw) ?_
    refine own_dadd K own_d1_210 (Q03.1.nd) ?_
    refine own_ddiv K own_d1_211 (Q03.2.nd) ?_
    refine own_dcmp K own_d1_212 ?_
    refine own_topI (x' := (0 : Int32)) (own_ceq P5 Q03.2 e03 _) ?_
    refine own_ifne K own_d1_213 (fun q => absurd q (by decide)) (fun _ => ?_)
    refine own_iconst K own_d1_216 (v := (1 : Int32)) rfl ?_
    refine own_goto K own_d1_217 ?_
    refine own_istore K own_d1_221 (Ls' := #[.val (.int pp), .val (.int qq), .val (.int rr), .val (.int ss), .val (.double (FP.i2d (pp &&& (1048575 : Int32)))), .second, .val (.int (qq &&& (1073741823 : Int32))), .val (.double (FP.ddiv (FP.i2d ((rr &&& (268435455 : Int32)) + (1 : Int32))) (4616189618054758400 : UInt64))), .second, .val (.int ((ss &&& (1073741823 : Int32)) + (1 : Int32))), .val (.double t0), .second, .val (.int (1 : Int32)), .val (.int (1 : Int32)), .val (.int (1 : Int32)), .val (.int (1 : Int32)), .val (.int (1 : Int32)), .val (.int (1 : Int32))]) rfl ?_
    refine own_iload K own_d1_223 rfl ?_
    refine own_ifeq K own_d1_225 (fun q => absurd q (by decide)) (fun _ => ?_)
    refine own_iload K own_d1_228 rfl ?_
    refine own_ifeq K own_d1_230 (fun q => absurd q (by decide)) (fun _ => ?_)
    refine own_iload K own_d1_233 rfl ?_
    refine own_ifeq K own_d1_235 (fun q => absurd q (by decide)) (fun _ => ?_)
    refine own_iload K own_d1_238 rfl ?_
    refine own_ifeq K own_d1_240 (fun q => absurd q (by decide)) (fun _ => ?_)
    refine own_iload K own_d1_243 rfl ?_
    refine own_ifeq K own_d1_245 (fun q => absurd q (by decide)) (fun _ => ?_)
    refine own_iload K own_d1_248 rfl ?_
    refine own_ifeq K own_d1_250 (fun q => absurd q (by decide)) (fun _ => ?_)
    refine own_iconst K own_d1_253 (v := (1 : Int32)) rfl ?_
    refine own_goto K own_d1_254 ?_
    exact own_retZ K (by first | exact Or.inl rfl | exact Or.inr rfl | decide) own_d1_258 (by decide) (by decide) (rfl)
set_option maxRecDepth 65536 in
set_option maxHeartbeats 40000000 in
theorem comes_1 {Post : Tables → Env → Array Value → State → Outcome → State → Prop} (hpost : ∀ tb e args s v u, (limb_1_1.after args s (.returned v) u = true ∧ limb_1_2.after args s (.returned v) u = true ∧ True) → FrameEnd s (.returned v) u (Jvm.fieldLocs frame_1_writes args s ++ Jvm.arrayLocs frame_1_arrays args s ++ Jvm.staticLocs frame_1_statics s) 0 0 → Post tb e args s (.returned v) u) :
    ArmFor flags0 classFile x code maxLocals ret World_1 tables_1 room_1 Calls_1 rest_1 Pre_1 Post := by
  intro l hfl _ _ p e ha hc hk s m args below hf hA hF happ hP
  obtain ⟨hcalls, hrest, hpre⟩ := hP
  obtain ⟨-, -, -, hnamed, -, -, -, hat⟩ := (Spec.applies_iff hf).mp happ
  obtain ⟨hg, hn⟩ := and_e (Cond.before_iff.mp (show (Jvm.Cond.and given_1 narrow_1).before args s = true from hpre))
  obtain ⟨h1, hq0⟩ := and_e hg
  obtain ⟨hi0, hq1⟩ := and_e hq0
  obtain ⟨hi1, hq2⟩ := and_e hq1
  obtain ⟨hi2, hq3⟩ := and_e hq2
  have hi3 := hq3
  obtain ⟨w0, w1, w2, w3, rfl⟩ : ∃ w0 w1 w2 w3 : Value, args = #[w0, w1, w2, w3] := by
    have hs : args.size = 4 := by simpa [Cond.value, given_1] using h1
    obtain ⟨L⟩ := args
    match L, hs with
    | [w0, w1, w2, w3], _ => exact ⟨w0, w1, w2, w3, rfl⟩
  have hw : own_Z s #[w0, w1, w2, w3] := fun d (hd : d ∈ tables_1) => atoms_spec (ws := Jvm.Cond.code x code maxLocals ret :: tables_1) hat d (List.mem_cons_of_mem _ hd)
  obtain ⟨i0, e0⟩ := is_v hi0
  obtain rfl : w0 = (.int i0) := Option.some.inj e0
  obtain ⟨i1, e1⟩ := is_v hi1
  obtain rfl : w1 = (.int i1) := Option.some.inj e1
  obtain ⟨i2, e2⟩ := is_v hi2
  obtain rfl : w2 = (.int i2) := Option.some.inj e2
  obtain ⟨i3, e3⟩ := is_v hi3
  obtain rfl : w3 = (.int i3) := Option.some.inj e3
  obtain ⟨n, o, h1, h2, h3, v, L, rfl, ⟨rfl, N, -⟩, hq⟩ := own_law hw p e ha hc hk s m _ below hf ((Spec.applies_iff_loose hf).mp happ).1 ⟨rfl, State.Warmed39.refl s, rfl⟩ trivial
  refine ⟨n, _, h1, h2, h3, hpost _ _ _ _ _ _ ⟨Cond.after_iff.mpr rfl, Cond.after_iff.mpr (eq_i res_at (Term.int_eval (1)) rfl), trivial⟩ ⟨hq.1, hq.2.1, (hq.2.2.sift fun y hy => Or.inr (N y hy)).mono (by decide) (by decide)⟩⟩
theorem main_1_1 : Claimed_1_1 := comes_1 fun _ _ _ _ _ _ h hF => ⟨h.1, hF⟩
theorem main_1_2 : Claimed_1_2 := comes_1 fun _ _ _ _ _ _ h hF => ⟨h.2.1, hF⟩
end Jvm.Pilot.@@N@@
namespace Jvm.Pilot.@@N@@
open Jvm Jvm.ClassFile Sem Op Lib Jvm.Free Jvm.Stand Jvm.Pilot.@@N@@.Jvm.D
/-! MADE BY PROGRAM (witnessworld.py) out of the Statement's table words and the real class files: 9 classes; the members and pool entries that the words name. The judged class is class 1, her method 1. -/
namespace start1
open Jvm.ClassFile
def u (s : String) : CpInfo := .utf8 (stringToUtf16 s)
/-- a pool by its gaps: so many unusable entries, then the entry; so many at the end -/
def gap : Nat → List CpInfo → List CpInfo
  | 0, r => r
  | n + 1, r => .unusable :: gap n r
def poolList (es : List (Nat × CpInfo)) (last : Nat) : List CpInfo := es.foldr (fun e r => gap e.1 (e.2 :: r)) (gap last [])
def pool (es : List (Nat × CpInfo)) (last : Nat) : Array CpInfo := ⟨poolList es last⟩
def fileOf (pool : Array CpInfo) (this : Nat) (attrs : Array Attribute := #[]) (ms : Array MethodInfo := #[]) (fl : Nat := 33) (sup : Nat := 0) (ifs : Array Nat := #[]) (fds : Array FieldInfo := #[]) : ClassFile where
  minorVersion := 0
  majorVersion := 65
  constantPool := pool
  accessFlags := fl
  thisClass := this
  superClass := sup
  interfaces := ifs
  fields := fds
  methods := ms
  attributes := attrs
def plain (name : String) (sup : Option ClassId) : Class where
  name := name
  kind := .ordinary
  loader := none
  accessFlags := 33
  super := sup
  interfaces := #[]
  cf := none
  fields := #[]
  methods := #[]
  instanceTypes := #[]
  staticTypes := #[]
  resolved := #[]
  callSites := []
  init := .initialized
  statics := none
  mirror := none

def pool0 : Array CpInfo := pool [(5, u "<init>"), (0, u "()V"), (1, .class_ 10), (1, u "java/lang/Object")] 113

def k0m0 : Method := { name := "<init>", desc := "()V", sig := { parameters := [], returnType := none }, accessFlags := 1, code := none }
/-- java/lang/Object -/
def k0 : Class := { plain "java/lang/Object" none with
  accessFlags := 33
  interfaces := #[]
  cf := some (fileOf pool0 8 #[] #[{ accessFlags := 1, nameIndex := 5, descriptorIndex := 6, attributes := #[] }] 33 0 #[] #[])
  fields := #[]
  methods := #[k0m0]
  instanceTypes := #[]
  staticTypes := #[]
  resolved := Array.replicate 124 none
  statics := none }

def pool1 : Array CpInfo := pool [(2, .class_ 4), (1, u "java/lang/Object"), (0, u "<init>"), (0, u "()V"), (0, .integer 1048575), (0, .integer 1073741823), (0, .integer 268435455), (0, .double 4616189618054758400), (1, .methodref 13 14), (0, .class_ 15), (0, .nameAndType 16 17), (0, u "com/example/fielder/fielder/service/Bm25"), (0, u "tf"), (0, u "(DID)D"), (0, .double 4608083138725491507), (1, .double 4599075939470750515), (1, .class_ 23), (0, u "com/example/fielder/fielder/service/Bm25TfPinLaw"), (2, u "law"), (0, u "(IIII)Z")] 3

def k1m0 : Method := { name := "<init>", desc := "()V", sig := { parameters := [], returnType := none }, accessFlags := 1, code := none }
def k1c1 : Code := { maxStack := 8, maxLocals := 18, code := code, exceptionTable := #[], attributes := #[] }
def k1m1 : Method := { name := "law", desc := "(IIII)Z", sig := { parameters := [.int, .int, .int, .int], returnType := some .boolean }, accessFlags := 9, code := some k1c1 }
/-- com/example/fielder/fielder/service/Bm25TfPinLaw -/
def k1 : Class := { plain "com/example/fielder/fielder/service/Bm25TfPinLaw" (some 0) with
  accessFlags := 49
  interfaces := #[]
  cf := some (fileOf pool1 22 #[] #[{ accessFlags := 1, nameIndex := 5, descriptorIndex := 6, attributes := #[] }, { accessFlags := 9, nameIndex := 26, descriptorIndex := 27, attributes := #[] }] 49 2 #[] #[])
  fields := #[]
  methods := #[k1m0, k1m1]
  instanceTypes := #[]
  staticTypes := #[]
  resolved := Array.replicate 31 none
  statics := none }

def pool2 : Array CpInfo := pool [(2, .class_ 4), (1, u "java/lang/Object"), (0, u "<init>"), (0, u "()V"), (8, .class_ 16), (0, u "com/example/fielder/fielder/service/Bm25"), (0, .double 4608083138725491507), (1, .double 4598175219545276416), (1, .double 4604930618986332160), (1, u "K1"), (0, u "D"), (1, u "B"), (4, u "tf"), (0, u "(DID)D")] 2

def k2m0 : Method := { name := "<init>", desc := "()V", sig := { parameters := [], returnType := none }, accessFlags := 2, code := none }
def k2c1 : Code := { maxStack := 12, maxLocals := 5, code := prog_25_method_3_code, exceptionTable := #[], attributes := #[] }
def k2m1 : Method := { name := "tf", desc := "(DID)D", sig := { parameters := [.double, .int, .double], returnType := some .double }, accessFlags := 8, code := some k2c1 }
/-- com/example/fielder/fielder/service/Bm25 -/
def k2 : Class := { plain "com/example/fielder/fielder/service/Bm25" (some 0) with
  accessFlags := 48
  interfaces := #[]
  cf := some (fileOf pool2 15 #[] #[{ accessFlags := 2, nameIndex := 5, descriptorIndex := 6, attributes := #[] }, { accessFlags := 8, nameIndex := 31, descriptorIndex := 32, attributes := #[] }] 48 2 #[] #[{ accessFlags := 26, nameIndex := 23, descriptorIndex := 24, attributes := #[] }, { accessFlags := 26, nameIndex := 26, descriptorIndex := 24, attributes := #[] }])
  fields := #[{ name := "K1", type := .double, accessFlags := 26, slot := 0, constantValue := 0 }, { name := "B", type := .double, accessFlags := 26, slot := 1, constantValue := 0 }]
  methods := #[k2m0, k2m1]
  instanceTypes := #[]
  staticTypes := #[.double, .double]
  resolved := Array.replicate 35 none
  statics := none }

def pool3 : Array CpInfo := pool [(1, u "java/lang/Cloneable"), (0, .class_ 1), (0, u "java/lang/Object"), (0, .class_ 3)] 3

/-- java/lang/Cloneable -/
def k3 : Class := { plain "java/lang/Cloneable" (some 0) with
  accessFlags := 1537
  interfaces := #[]
  cf := some (fileOf pool3 2 #[] #[] 1537 4 #[] #[])
  fields := #[]
  methods := #[]
  instanceTypes := #[]
  staticTypes := #[]
  resolved := Array.replicate 8 none
  statics := none }

def pool4 : Array CpInfo := pool [(1, u "java/io/Serializable"), (0, .class_ 1), (0, u "java/lang/Object"), (0, .class_ 3)] 3

/-- java/io/Serializable -/
def k4 : Class := { plain "java/io/Serializable" (some 0) with
  accessFlags := 1537
  interfaces := #[]
  cf := some (fileOf pool4 2 #[] #[] 1537 4 #[] #[])
  fields := #[]
  methods := #[]
  instanceTypes := #[]
  staticTypes := #[]
  resolved := Array.replicate 8 none
  statics := none }

/-- the primitive byte -/
def k5 : Class := { plain "byte" none with kind := .primitive 'B', accessFlags := 0x411 }
/-- [B -/
def k6 : Class := { plain "[B" (some 0) with kind := .array 5 .byte, interfaces := #[3, 4], accessFlags := 1041 }

/-- the primitive int -/
def k7 : Class := { plain "int" none with kind := .primitive 'I', accessFlags := 0x411 }
/-- [I -/
def k8 : Class := { plain "[I" (some 0) with kind := .array 7 .int, interfaces := #[3, 4], accessFlags := 1041 }

def heap : Heap := #[]
def classes : Array Class := #[k0, k1, k2, k3, k4, k5, k6, k7, k8]
def interned : List (Array UInt16 × Addr) := []
def slotsUsed : Nat := 0
def theMethod : MethodId := ⟨1, 1⟩
def args0 : Array Value := #[.int 5, .int 7, .int 9, .int 11]
def aboutOver (below : List Frame) : State where
  vm := { classes := classes, interned := interned.toArray }
  heap := heap
  slotsUsed := slotsUsed
  threads := #[{ frames := .invoking theMethod args0 :: below }]
def below0 : List Frame := [.native { method := ⟨0, 0⟩, args := #[] }]
def about1 : State := aboutOver below0
def p0 : Program := .bare "" "" ""
def e0 : Env := launch0.env 0 0 0
theorem w_frames : about1.frames = Frame.invoking theMethod args0 :: below0 := rfl
set_option maxRecDepth 65536 in
theorem w_args : argsFit about1.vm theMethod args0 = true := by decide +kernel
set_option maxRecDepth 65536 in
theorem w_heap : heapFits about1 = true := by decide +kernel
set_option maxRecDepth 65536 in
theorem w_runnable : about1.curStatus? = some .runnable := by decide +kernel
set_option maxRecDepth 65536 in
theorem w_alone : about1.alone = true := by decide +kernel
set_option maxRecDepth 65536 in
theorem w_named : about1.methodNamed? x = some theMethod := by decide +kernel
set_option maxRecDepth 65536 in
theorem w_hears : about1.hears theMethod below0 = true := by decide +kernel
set_option maxRecDepth 65536 in
theorem w_ripe : about1.ripe theMethod args0 below0 = true := by decide +kernel
theorem w_running : about1.status = .running := rfl
set_option maxRecDepth 65536 in
theorem w_room : about1.hasRoom e0.platform room_1 = true :=
  launch0.hasRoom_least _ room_1 (by decide +kernel) (by decide +kernel) (by decide +kernel) (by decide +kernel) (by decide +kernel) (by decide +kernel)
theorem allAtoms_all (ts : List Jvm.Cond) (a : Array Jvm.Value) (st : Jvm.State) : (allAtoms ts).before a st = ts.all (fun c => c.before a st) := by
  induction ts with
  | nil => rfl
  | cons c t ih =>
    show (Jvm.Cond.and c (allAtoms t)).before a st = _
    rw [Jvm.Cond.before_and, ih, List.all_cons]
def words1 : List Jvm.Cond := Jvm.Cond.code x code maxLocals ret :: tables_1
/-- a 'code' word, met by the world's own term for the bytes: nothing is compared byte by byte -/
theorem code_word {y : MethodName} {bytes : ByteArray} {mx : Nat} {rt : Option FieldType} {a : Array Value} {s : State} {m : MethodId} {meth : Method} {c : Code} (h1 : s.methodNamed? y = some m) (h2 : s.vm.method? m = some meth) (h3 : meth.code = some c) (h4 : c.code = bytes)
    (h5 : (c.maxLocals == mx && c.exceptionTable.isEmpty && decide (c.maxStack ≤ mostOperands) && decide (meth.sig.returnType = rt) && !meth.locks && decide (parseMethodDescriptor y.desc = some meth.sig)) = true) : (Jvm.Cond.code y bytes mx rt).before a s = true := by
  simp only [Bool.and_eq_true, beq_iff_eq, Bool.not_eq_true', decide_eq_true_eq] at h5
  obtain ⟨⟨⟨⟨⟨g1, g2⟩, g3⟩, g4⟩, g5⟩, g6⟩ := h5
  simp [Cond.before, Cond.holds, Cond.value, h1, h2, h3, h4, g1, g2, g3, g4, g5, g6]
def isCode : Jvm.Cond → Bool
  | .code _ _ _ _ => true
  | _ => false
theorem all_split {L : List Jvm.Cond} {P : Jvm.Cond → Bool} (h1 : L.all (fun c => isCode c || P c) = true) (h2 : ∀ c ∈ L.filter isCode, P c = true) : L.all P = true := by
  refine List.all_eq_true.mpr fun c hc => ?_
  have h := List.all_eq_true.mp h1 c hc
  rcases Bool.eq_false_or_eq_true (isCode c) with hi | hi
  · exact h2 c (List.mem_filter.mpr ⟨hc, hi⟩)
  · simpa [hi] using h
set_option maxRecDepth 65536 in
theorem w_c0 : (Jvm.Cond.code x code maxLocals ret).before args0 about1 = true := code_word (m := ⟨1, 1⟩) (meth := k1m1) (c := k1c1) (by decide +kernel) rfl rfl rfl (by decide +kernel)
set_option maxRecDepth 65536 in
theorem w_c1 : (Jvm.Cond.code ({ cls := "com/example/fielder/fielder/service/Bm25", name := "tf", desc := "(DID)D" } : Jvm.MethodName) prog_25_method_3_code (5 : Nat) (Option.some Jvm.ClassFile.FieldType.double)).before args0 about1 = true := code_word (m := ⟨2, 1⟩) (meth := k2m1) (c := k2c1) (by decide +kernel) rfl rfl rfl (by decide +kernel)
def codes1 : List Jvm.Cond := [Jvm.Cond.code x code maxLocals ret, Jvm.Cond.code ({ cls := "com/example/fielder/fielder/service/Bm25", name := "tf", desc := "(DID)D" } : Jvm.MethodName) prog_25_method_3_code (5 : Nat) (Option.some Jvm.ClassFile.FieldType.double)]
set_option maxRecDepth 65536 in
theorem codes_eq : words1.filter isCode = codes1 := rfl
theorem w_codes : ∀ c ∈ words1.filter isCode, c.before args0 about1 = true := by
  rw [codes_eq]
  intro c hc
  simp only [codes1, List.mem_cons, List.not_mem_nil, or_false] at hc
  rcases hc with rfl | rfl
  · exact w_c0
  · exact w_c1
set_option maxRecDepth 65536 in
theorem w_t1 : words1.all (fun c => isCode c || c.before args0 about1) = true := by decide +kernel
theorem w_tables : (allAtoms (Jvm.Cond.code x code maxLocals ret :: tables_1)).before args0 about1 = true := by
  rw [allAtoms_all]
  show words1.all (fun c => c.before args0 about1) = true
  refine all_split ?_ w_codes
  rw [w_t1]
set_option maxRecDepth 65536 in
theorem w_case : (Jvm.Cond.and given_1 narrow_1).before args0 about1 = true := by decide +kernel
theorem w_applies : (headSpec (Jvm.Cond.code x code maxLocals ret :: tables_1) room_1).applies x e0.platform about1 = true :=
  (Spec.applies_iff w_frames).mpr ⟨w_running, w_runnable, w_alone, w_named, w_hears, w_ripe, w_room, w_tables⟩
theorem atStart : AtStart classFile x code maxLocals ret World_1 tables_1 room_1 Calls_1 rest_1 Pre_1 launch0 p0 e0 about1 theMethod args0 below0 :=
  ⟨lists_1, trivial, launch0.admits_env _ _ _, launch0.least_env, fairChoices_fair.cas, fairChoices_fair.clock, w_frames, w_args, w_heap, w_applies, trivial, trivial, w_case⟩
end start1
theorem witness_1 : WitnessClaimed_1 := ⟨start1.p0, start1.e0, start1.about1, start1.theMethod, start1.args0, start1.below0, start1.atStart⟩
end Jvm.Pilot.@@N@@
