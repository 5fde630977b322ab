import JvmDerived
import JvmDerived.Pilot.@@N@@Statement
import JvmDerived.Pilot.@@N@@Code
set_option linter.unusedVariables false
set_option linter.unusedSimpArgs false
namespace Jvm.RoadKit
open Sem ClassFile Op Lib Jvm.Stand Jvm.Free Jvm.LawKit
section OwnKit
/-- what stands at a point of the walk: the law's Stand, its written places all new, the heap named; w: may have interned -/
def own_X (w : Bool) (p : Program) (l : Launch) (e : Env) (R : Room) (s : State) (m : MethodId) (args : Array Value) (below : List Frame) (meth : Method) (c : Code) (Z : State) (T : State) (h : Heap) (k n : Nat) : Prop :=
  ∃ (L : List Loc) (vm : Vm), Stand p l e R (s.setVm vm) m args below meth c T L k n ∧ Fr Z.heap.size L ∧ T.heap = h ∧ (w = false → vm = s.vm) ∧ s.Since vm h.size
def own_Cx (p : Program) (s : State) (m : MethodId) (meth : Method) (c : Code) (Z : State) (own nm : String) (bytes : ByteArray) (maxL : Nat) (ret : Option FieldType) : Prop :=
  p.tables.exec = Jvm.exec ∧ c.code = bytes ∧ c.maxLocals = maxL ∧ meth.sig.returnType = ret ∧ meth.locks = false ∧ Z.Warmed39 s.vm ∧ s.vm.findClass own = some m.cls ∧ meth.name = nm
def own_Go (w : Bool) (p : Program) (l : Launch) (e : Env) (R : Room) (s : State) (m : MethodId) (args : Array Value) (below : List Frame) (meth : Method) (c : Code) (Z : State) (Q : Option Value → Heap → Prop) (T : State) (g : JFrame) : Prop :=
  ∃ (T' : State) (v : Option Value) (h' : Heap) (k' n' : Nat), own_X w p l e R s m args below meth c Z T' h' k' n' ∧ k' ≤ R.cells ∧ n' ≤ R.slots ∧ (meth.sig.returnType = none → v = none) ∧ Q v h' ∧
    ∀ fs, (∀ (f : JFrame) (acts : List Action), f.method = m → f.locked = none → f.entered = [] → (doReturn e (T'.setTop f) acts v).1 = T'.setFrames fs) → Steps p.tables e below (T.setTop g) (T'.setFrames fs)
/-- from the frame g, over the heap h, with k cells and n slots made, the walk comes to a return of which Q holds -/
def own_G (w : Bool) (p : Program) (l : Launch) (e : Env) (R : Room) (s : State) (m : MethodId) (args : Array Value) (below : List Frame) (meth : Method) (c : Code) (Z : State) (Q : Option Value → Heap → Prop) (h : Heap) (k n : Nat) (g : JFrame) : Prop :=
  ∀ T, own_X w p l e R s m args below meth c Z T h k n → own_Go w p l e R s m args below meth c Z Q T g
def own_D (bytes : ByteArray) (pc : Nat) (i : Instr) (len pc' : Nat) : Prop := decode bytes pc = .ok (i, len) ∧ pc' = pc + len
def own_B (bytes : ByteArray) (pc : Nat) (i : Instr) (off : Int) (pcF pcT : Nat) : Prop := decode bytes pc = .ok (i, 3) ∧ pcF = pc + 3 ∧ 0 ≤ (pc : Int) + off ∧ ((pc : Int) + off).toNat = pcT
def own_End (w : Bool) (U : State) (o : Outcome) (U' : State) (L : List Loc) (k n : Nat) : Prop := match w with | false => FrameEnd U o U' L k n | true => ReturnedEndW U o U' L k n
def own_Met (w : Bool) (l : Launch) (Z : State) (y : MethodName) (bytes : ByteArray) (maxL : Nat) (ret : Option FieldType) (ws : List Cond) (rm : Room) (as' : Array Value) (h : Heap) (Q : Option Value → Heap → Prop) : Prop :=
  MetFree l y (head1 (Cond.code y bytes maxL ret :: ws) rm) (fun a U => a = as' ∧ Z.Warmed39 U.vm ∧ U.heap = h) (fun _ _ _ _ _ => True)
    (fun _ U o U' => ∃ v L, o = .returned v ∧ (Q v U'.heap ∧ Fr Z.heap.size L ∧ h.size ≤ U'.heap.size) ∧ own_End w U o U' L rm.cells rm.slots)
/-! ## heap -/
abbrev own_O := Addr × String × List (String × String × String × Value)
abbrev own_A := Addr × FieldType × String × List Value
def own_OK (Z : State) (h : Heap) (o : own_O) : Prop := Exa Z h o.1 o.2.1 ∧ (∀ f ∈ o.2.2, Fld Z h o.1 f.1 f.2.1 f.2.2.1 f.2.2.2) ∧ o.2.2.Pairwise (fun f g => slotOf Z f.1 f.2.1 f.2.2.1 ≠ slotOf Z g.1 g.2.1 g.2.2.1)
def own_AK (Z : State) (h : Heap) (a : own_A) : Prop := ∃ cl : Cell, Arr Z h a.1 cl a.2.1 ∧ cl.slots.toList = a.2.2.2 ∧ (∀ v ∈ a.2.2.2, fits a.2.1 v = true) ∧ (a.2.2.1 ≠ "" → Exa Z h a.1 a.2.2.1) ∧ (∀ C, a.2.1 = .object C → a.2.2.1 ≠ "" → Ovr Z cl.cls C)
/-- the heap h: what stood at the law's start Z stands; the objects os and the arrays as, all new, all apart -/
def own_H (Z : State) (h : Heap) (os : List own_O) (as : List own_A) : Prop :=
  Ext Z.heap h ∧ (∀ o ∈ os, Z.heap.size ≤ o.1 ∧ own_OK Z h o) ∧ (∀ a ∈ as, Z.heap.size ≤ a.1 ∧ own_AK Z h a) ∧ (os.map (·.1) ++ as.map (·.1)).Nodup
variable {w : Bool} {p : Program} {l : Launch} {e : Env} {R : Room} {s : State} {m : MethodId} {args : Array Value} {below : List Frame} {meth : Method} {c : Code} {Z : State} {a0 : Array Value} {own nm : String} {bytes : ByteArray} {maxL : Nat} {ret : Option FieldType} {Q : Option Value → Heap → Prop} {h h' : Heap} {k n k' n' : Nat} {pc pc' pcT : Nat} {Ls Ls' : Array Slot} {st rest : List Value} {os os' : List own_O} {as as' : List own_A} {g g' : JFrame} {tyR : FieldType}
theorem own_H.start (Z : State) : own_H Z Z.heap [] [] := ⟨⟨Nat.le_refl _, fun _ _ q => q⟩, fun _ q => (nomatch q), fun _ q => (nomatch q), List.nodup_nil⟩
theorem own_OK.ext {o : own_O} (E : Ext h h') (F : own_OK Z h o) : own_OK Z h' o := ⟨F.1.ext E, fun f hf => (F.2.1 f hf).ext E, F.2.2⟩
theorem own_AK.ext {a : own_A} (E : Ext h h') (F : own_AK Z h a) : own_AK Z h' a := by
  obtain ⟨cl, h1, h2, h3, h4, h5⟩ := F; exact ⟨cl, h1.ext E, h2, h3, fun q => (h4 q).ext E, h5⟩
theorem own_H.ext (H : own_H Z h os as) (E : Ext h h') : own_H Z h' os as :=
  ⟨⟨Nat.le_trans H.1.1 E.1, fun a c q => E.2 a c (H.1.2 a c q)⟩, fun o ho => ⟨(H.2.1 o ho).1, (H.2.1 o ho).2.ext E⟩, fun a ha => ⟨(H.2.2.1 a ha).1, (H.2.2.1 a ha).2.ext E⟩, H.2.2.2⟩
theorem own_H.ltO (H : own_H Z h os as) {o : own_O} (ho : o ∈ os) : o.1 < h.size := (H.2.1 o ho).2.1.lt
theorem own_H.ltA (H : own_H Z h os as) {a : own_A} (ha : a ∈ as) : a.1 < h.size := by obtain ⟨-, cl, h1, -⟩ := H.2.2.1 a ha; exact h1.lt
theorem own_H.fresh (H : own_H Z h os as) : h.size ∉ os.map (·.1) ++ as.map (·.1) := fun q => by
  rcases List.mem_append.mp q with q | q
  · obtain ⟨o, ho, e⟩ := List.mem_map.mp q; exact absurd (H.ltO ho) (by rw [e]; exact Nat.lt_irrefl _)
  · obtain ⟨o, ho, e⟩ := List.mem_map.mp q; exact absurd (H.ltA ho) (by rw [e]; exact Nat.lt_irrefl _)
theorem own_H.addO (H : own_H Z h os as) (E : Ext h h') {C : String} {fs : List (String × String × String × Value)} (F : own_OK Z h' (h.size, C, fs)) : own_H Z h' ((h.size, C, fs) :: os) as := by
  have H' := H.ext E
  refine ⟨H'.1, fun o ho => ?_, H'.2.2.1, ?_⟩
  · rcases List.mem_cons.mp ho with rfl | ho
    · exact ⟨H.1.1, F⟩
    · exact H'.2.1 o ho
  · exact List.nodup_cons.mpr ⟨H.fresh, H.2.2.2⟩
theorem own_H.addA (H : own_H Z h os as) (E : Ext h h') {ty : FieldType} {ad : String} {vs : List Value} (F : own_AK Z h' (h.size, ty, ad, vs)) : own_H Z h' os ((h.size, ty, ad, vs) :: as) := by
  have H' := H.ext E
  refine ⟨H'.1, H'.2.1, fun o ho => ?_, ?_⟩
  · rcases List.mem_cons.mp ho with rfl | ho
    · exact ⟨H.1.1, F⟩
    · exact H'.2.2.1 o ho
  · have q := H.fresh
    rw [List.mem_append] at q
    have q2 := List.nodup_append.mp H.2.2.2
    refine List.nodup_append.mpr ⟨q2.1, List.nodup_cons.mpr ⟨fun z => q (Or.inr z), q2.2.1⟩, fun x hx y hy => ?_⟩
    rcases List.mem_cons.mp hy with rfl | hy
    · intro z; exact q (Or.inl ((show x = h.size from z) ▸ hx))
    · exact q2.2.2 x hx y hy
theorem own_mem {α : Type} {L : List α} {i : Nat} {x : α} (hx : L[i]? = some x) : x ∈ L := List.mem_of_getElem? hx
theorem own_H.atO (H : own_H Z h os as) {i : Nat} {a : Addr} {C : String} {fs : List (String × String × String × Value)} (ho : os[i]? = some (a, C, fs)) : Exa Z h a C := (H.2.1 _ (own_mem ho)).2.1
theorem own_H.newO (H : own_H Z h os as) {i : Nat} {a : Addr} {C : String} {fs : List (String × String × String × Value)} (ho : os[i]? = some (a, C, fs)) : Z.heap.size ≤ a := (H.2.1 _ (own_mem ho)).1
theorem own_H.fld (H : own_H Z h os as) {i q : Nat} {a : Addr} {C O f d : String} {v : Value} {fs : List (String × String × String × Value)} (ho : os[i]? = some (a, C, fs)) (hf : fs[q]? = some (O, f, d, v)) : Fld Z h a O f d v := (H.2.1 _ (own_mem ho)).2.2.1 _ (own_mem hf)
theorem own_H.neOO (H : own_H Z h os as) {i j : Nat} {x y : own_O} (hx : os[i]? = some x) (hy : os[j]? = some y) (ij : i ≠ j) : x.1 ≠ y.1 := fun e => by
  have q := (List.nodup_append.mp H.2.2.2).1
  have h1 : (os.map (·.1))[i]? = some x.1 := by rw [List.getElem?_map, hx]; rfl
  have h2 : (os.map (·.1))[j]? = some y.1 := by rw [List.getElem?_map, hy]; rfl
  rw [← e] at h2
  have hi := (List.getElem?_eq_some_iff.mp h1).1
  exact ij ((List.getElem?_inj hi q).mp (h1.trans h2.symm))
theorem own_H.neAA (H : own_H Z h os as) {i j : Nat} {x y : own_A} (hx : as[i]? = some x) (hy : as[j]? = some y) (ij : i ≠ j) : x.1 ≠ y.1 := fun e => by
  have q := (List.nodup_append.mp H.2.2.2).2.1
  have h1 : (as.map (·.1))[i]? = some x.1 := by rw [List.getElem?_map, hx]; rfl
  have h2 : (as.map (·.1))[j]? = some y.1 := by rw [List.getElem?_map, hy]; rfl
  rw [← e] at h2
  have hi := (List.getElem?_eq_some_iff.mp h1).1
  exact ij ((List.getElem?_inj hi q).mp (h1.trans h2.symm))
theorem own_H.neOA (H : own_H Z h os as) {x : own_O} {y : own_A} (hx : x ∈ os) (hy : y ∈ as) : x.1 ≠ y.1 :=
  (List.nodup_append.mp H.2.2.2).2.2 _ (List.mem_map.mpr ⟨x, hx, rfl⟩) _ (List.mem_map.mpr ⟨y, hy, rfl⟩)
theorem own_set_map {α β : Type} {L : List α} {f : α → β} {i : Nat} {x x' : α} (hx : L[i]? = some x) (e : f x' = f x) : (L.set i x').map f = L.map f := by
  apply List.ext_getElem?
  intro j
  rw [List.getElem?_map, List.getElem?_map, List.getElem?_set]
  by_cases ij : i = j
  · subst ij; rw [hx]; have := (List.getElem?_eq_some_iff.mp hx).1; simp [this, e]
  · simp [ij]
theorem own_H.wrO (H : own_H Z h os as) {i q : Nat} {a : Addr} {C O f d : String} {v v0 : Value} {fs : List (String × String × String × Value)} (ho : os[i]? = some (a, C, fs)) (hf : fs[q]? = some (O, f, d, v0)) (W : Wr h h' a (slotOf Z O f d) v) :
    own_H Z h' (os.set i (a, C, fs.set q (O, f, d, v))) as := by
  have na := H.newO ho
  have hlen := (List.getElem?_eq_some_iff.mp ho).1
  have hql := (List.getElem?_eq_some_iff.mp hf).1
  refine ⟨?_, fun x hx => ?_, fun y hy => ?_, ?_⟩
  · refine ⟨by rw [Wr.size W]; exact H.1.1, fun b cb hb => ?_⟩
    obtain ⟨cb', e1, -, -, -, e5, -⟩ := wr_at W (H.1.2 b cb hb)
    have : b ≠ a := Nat.ne_of_lt (Nat.lt_of_lt_of_le (Array.getElem?_eq_some_iff.mp hb).1 na)
    rw [← e5 this]; exact e1
  · obtain ⟨j, hj⟩ := List.mem_iff_getElem?.mp hx
    rw [List.getElem?_set] at hj
    by_cases ij : i = j
    · subst ij
      rw [if_pos rfl, if_pos hlen] at hj
      obtain rfl := Option.some.inj hj
      obtain ⟨n1, E, F, Pw⟩ := H.2.1 _ (own_mem ho)
      refine ⟨n1, E.wr W, fun z hz => ?_, ?_⟩
      · obtain ⟨r, hr⟩ := List.mem_iff_getElem?.mp hz
        rw [List.getElem?_set] at hr
        by_cases qr : q = r
        · subst qr
          rw [if_pos rfl, if_pos hql] at hr
          obtain rfl := Option.some.inj hr
          exact Fld.same (w := v0) W (F _ (own_mem (show (a, C, fs).2.2[q]? = some (O, f, d, v0) from hf)))
        · rw [if_neg qr] at hr
          refine Fld.other W (F _ (own_mem hr)) (Or.inr fun e => ?_)
          have P2 : ∀ i j : Nat, i < j → ∀ x y, fs[i]? = some x → fs[j]? = some y → slotOf Z x.1 x.2.1 x.2.2.1 ≠ slotOf Z y.1 y.2.1 y.2.2.1 := fun i j ij x y hx hy => by
            obtain ⟨h1, rfl⟩ := List.getElem?_eq_some_iff.mp hx
            obtain ⟨h2, rfl⟩ := List.getElem?_eq_some_iff.mp hy
            exact List.pairwise_iff_getElem.mp Pw i j h1 h2 ij
          rcases Nat.lt_or_gt_of_ne qr with lt | lt
          · exact P2 q r lt _ _ hf hr e.symm
          · exact P2 r q lt _ _ hr hf e
      · have hm : (fs.set q (O, f, d, v)).map (fun f => slotOf Z f.1 f.2.1 f.2.2.1) = fs.map (fun f => slotOf Z f.1 f.2.1 f.2.2.1) := own_set_map hf rfl
        have t := List.pairwise_map.mpr Pw
        rw [← hm] at t
        exact List.pairwise_map.mp t
    · rw [if_neg ij] at hj
      obtain ⟨n1, E, F, Pw⟩ := H.2.1 _ (own_mem hj)
      exact ⟨n1, E.wr W, fun z hz => Fld.other W (F z hz) (Or.inl (H.neOO hj ho (Ne.symm ij))), Pw⟩
  · obtain ⟨n1, cl, h1, h2, h3, h4, h5⟩ := H.2.2.1 y hy
    exact ⟨n1, cl, h1.other W (Ne.symm (H.neOA (own_mem ho) hy)), h2, h3, fun q => (h4 q).wr W, h5⟩
  · rw [own_set_map (f := fun z => z.1) (x' := (a, C, fs.set q (O, f, d, v))) ho rfl]; exact H.2.2.2
theorem own_H.wrA (H : own_H Z h os as) {i q : Nat} {a : Addr} {ty : FieldType} {ad : String} {v : Value} {vs : List Value} (ha : as[i]? = some (a, ty, ad, vs)) (hq : q < vs.length) (hv : fits ty v = true) (W : Wr h h' a q v) :
    own_H Z h' os (as.set i (a, ty, ad, vs.set q v)) := by
  have na := (H.2.2.1 _ (own_mem ha)).1
  have hlen := (List.getElem?_eq_some_iff.mp ha).1
  refine ⟨?_, fun x hx => ?_, fun y hy => ?_, ?_⟩
  · refine ⟨by rw [Wr.size W]; exact H.1.1, fun b cb hb => ?_⟩
    obtain ⟨cb', e1, -, -, -, e5, -⟩ := wr_at W (H.1.2 b cb hb)
    have : b ≠ a := Nat.ne_of_lt (Nat.lt_of_lt_of_le (Array.getElem?_eq_some_iff.mp hb).1 na)
    rw [← e5 this]; exact e1
  · obtain ⟨n1, E, F, Pw⟩ := H.2.1 _ hx
    exact ⟨n1, E.wr W, fun z hz => Fld.other W (F z hz) (Or.inl (H.neOA hx (own_mem ha))), Pw⟩
  · obtain ⟨j, hj⟩ := List.mem_iff_getElem?.mp hy
    rw [List.getElem?_set] at hj
    by_cases ij : i = j
    · subst ij
      rw [if_pos rfl, if_pos hlen] at hj
      obtain rfl := Option.some.inj hj
      obtain ⟨n1, cl, h1, h2, h3, h4, h5⟩ := H.2.2.1 _ (own_mem ha)
      refine ⟨n1, _, h1.same W, ?_, fun z hz => ?_, fun q => (h4 q).wr W, h5⟩
      · show (cl.setSlot q v).slots.toList = vs.set q v
        rw [show (cl.setSlot q v).slots = cl.slots.setIfInBounds q v from rfl, Array.toList_setIfInBounds, show cl.slots.toList = vs from h2]
      · rcases List.mem_or_eq_of_mem_set hz with hz | rfl
        · exact h3 z hz
        · exact hv
    · rw [if_neg ij] at hj
      obtain ⟨n1, cl, h1, h2, h3, h4, h5⟩ := H.2.2.1 _ (own_mem hj)
      exact ⟨n1, cl, h1.other W (H.neAA hj ha (Ne.symm ij)), h2, h3, fun q => (h4 q).wr W, h5⟩
  · rw [own_set_map (f := fun z => z.1) (x' := (a, ty, ad, vs.set q v)) ha rfl]; exact H.2.2.2
theorem own_le {a b : Nat} (h : Nat.ble a b = true) : a ≤ b := Nat.le_of_ble_eq_true h
theorem own_idx {j : Int32} {q : Nat} (hj : j.toInt = (q : Int)) : j.toNatClampNeg = q := by simp only [Int32.toNatClampNeg, hj]; rfl
theorem own_in {j : Int32} {q N : Nat} (hj : j.toInt = (q : Int)) (hq : q < N) : ¬ (j < 0 ∨ N ≤ j.toNatClampNeg) := by
  rw [own_idx hj, Int32.lt_iff_toInt_lt, hj, show (0 : Int32).toInt = 0 from rfl]; omega
theorem own_len {N : Int32} {q : Nat} (hN : N.toInt = (q : Int)) : q.toInt32 = N := by
  have := Int32.toInt_lt N
  exact Int32.toInt_inj.mp ((len_toInt (by omega)).trans hN.symm)
/-! ## steps -/
theorem own_zw {vm : Vm} (hZ : Z.Warmed39 s.vm) {q : Nat} (hS : s.Since vm q) : Z.Warmed39 (s.setVm vm).vm := State.Warmed39.trans (t := s) hZ hS.1
theorem own_pure (K : own_Cx p s m meth c Z own nm bytes maxL ret)
    (f : ∀ {T : State} {L : List Loc} {vm : Vm}, Stand p l e R (s.setVm vm) m args below meth c T L k n → Z.Warmed39 (s.setVm vm).vm → (s.setVm vm).vm.findClass own = some m.cls → T.heap = h → ∀ target, Steps p.tables e below (T.setTop g') target → Steps p.tables e below (T.setTop g) target)
    (hr : own_G w p l e R s m args below meth c Z Q h k n g') : own_G w p l e R s m args below meth c Z Q h k n g := by
  intro T hX
  obtain ⟨T', v, h', k', n', hX', r1, r2, r3, r4, r5⟩ := hr T hX
  obtain ⟨L, vm, X, -, eT, -, hS⟩ := hX
  exact ⟨T', v, h', k', n', hX', r1, r2, r3, r4, fun fs q => f X (own_zw K.2.2.2.2.2.1 hS) (by rw [show (s.setVm vm).vm = vm from rfl, hS.1.alike.findClass]; exact K.2.2.2.2.2.2.1) eT _ (r5 fs q)⟩
theorem own_since {vm : Vm} {q q' : Nat} (hS : s.Since vm q) (hq : q ≤ q') : s.Since vm q' := ⟨hS.1, hS.2.mono hq⟩
theorem own_step {P : Heap → Prop} (K : own_Cx p s m meth c Z own nm bytes maxL ret)
    (f : ∀ {T : State} {L : List Loc} {vm : Vm}, Stand p l e R (s.setVm vm) m args below meth c T L k n → Z.Warmed39 (s.setVm vm).vm → (s.setVm vm).vm.findClass own = some m.cls → T.heap = h → Fr Z.heap.size L →
      ∃ (T' : State) (h' : Heap) (L' : List Loc), Stand p l e R (s.setVm vm) m args below meth c T' L' k' n' ∧ Fr Z.heap.size L' ∧ T'.heap = h' ∧ h.size ≤ h'.size ∧ P h' ∧ ∀ target, Steps p.tables e below (T'.setTop g') target → Steps p.tables e below (T.setTop g) target)
    (hr : ∀ h', P h' → own_G w p l e R s m args below meth c Z Q h' k' n' g') : own_G w p l e R s m args below meth c Z Q h k n g := by
  intro T hX
  obtain ⟨L, vm, X, N, eT, hw, hS⟩ := hX
  obtain ⟨T1, h1, L1, X1, N1, e1, z1, P1, st⟩ := f X (own_zw K.2.2.2.2.2.1 hS) (by rw [show (s.setVm vm).vm = vm from rfl, hS.1.alike.findClass]; exact K.2.2.2.2.2.2.1) eT N
  obtain ⟨T', v, h', k', n', hX', r1, r2, r3, r4, r5⟩ := hr h1 P1 T1 ⟨L1, vm, X1, N1, e1, hw, own_since hS z1⟩
  exact ⟨T', v, h', k', n', hX', r1, r2, r3, r4, fun fs q => st _ (r5 fs q)⟩
theorem own_iload (K : own_Cx p s m meth c Z own nm bytes maxL ret) {kk : Nat} {v : Int32} (hd : own_D bytes pc (.iload kk) 2 pc') (hl : Ls[kk]? = some (.val (.int v))) (hr : own_G w p l e R s m args below meth c Z Q h k n (mkF m pc' Ls (.int v :: st))) : own_G w p l e R s m args below meth c Z Q h k n (mkF m pc Ls (st)) := by
  obtain ⟨hd, rfl⟩ := hd
  exact own_pure K (fun X _ _ _ _ q => XS.iload X.here K.1 rfl (hb K.2.1 hd) hl q) hr
theorem own_iloadN (K : own_Cx p s m meth c Z own nm bytes maxL ret) {kk : Fin 4} {v : Int32} (hd : own_D bytes pc (.iload_n kk) 1 pc') (hl : Ls[kk.val]? = some (.val (.int v))) (hr : own_G w p l e R s m args below meth c Z Q h k n (mkF m pc' Ls (.int v :: st))) : own_G w p l e R s m args below meth c Z Q h k n (mkF m pc Ls (st)) := by
  obtain ⟨hd, rfl⟩ := hd
  exact own_pure K (fun X _ _ _ _ q => XS.iloadN X.here K.1 rfl (hb K.2.1 hd) hl q) hr
theorem own_istore (K : own_Cx p s m meth c Z own nm bytes maxL ret) {kk : Nat} {v : Int32} (hd : own_D bytes pc (.istore kk) 2 pc') (hl : storeLocals Ls kk (.int v) = some Ls') (hr : own_G w p l e R s m args below meth c Z Q h k n (mkF m pc' Ls' (st))) : own_G w p l e R s m args below meth c Z Q h k n (mkF m pc Ls (.int v :: st)) := by
  obtain ⟨hd, rfl⟩ := hd
  exact own_pure K (fun X _ _ _ _ q => XS.istore X.here K.1 rfl (hb K.2.1 hd) rfl hl q) hr
theorem own_istoreN (K : own_Cx p s m meth c Z own nm bytes maxL ret) {kk : Fin 4} {v : Int32} (hd : own_D bytes pc (.istore_n kk) 1 pc') (hl : storeLocals Ls kk.val (.int v) = some Ls') (hr : own_G w p l e R s m args below meth c Z Q h k n (mkF m pc' Ls' (st))) : own_G w p l e R s m args below meth c Z Q h k n (mkF m pc Ls (.int v :: st)) := by
  obtain ⟨hd, rfl⟩ := hd
  exact own_pure K (fun X _ _ _ _ q => XS.istoreN X.here K.1 rfl (hb K.2.1 hd) rfl hl q) hr
theorem own_lload (K : own_Cx p s m meth c Z own nm bytes maxL ret) {kk : Nat} {v : Int64} (hd : own_D bytes pc (.lload kk) 2 pc') (hl : Ls[kk]? = some (.val (.long v))) (hr : own_G w p l e R s m args below meth c Z Q h k n (mkF m pc' Ls (.long v :: st))) : own_G w p l e R s m args below meth c Z Q h k n (mkF m pc Ls (st)) := by
  obtain ⟨hd, rfl⟩ := hd
  exact own_pure K (fun X _ _ _ _ q => XT.lload X.here K.1 rfl (hb K.2.1 hd) hl q) hr
theorem own_lloadN (K : own_Cx p s m meth c Z own nm bytes maxL ret) {kk : Fin 4} {v : Int64} (hd : own_D bytes pc (.lload_n kk) 1 pc') (hl : Ls[kk.val]? = some (.val (.long v))) (hr : own_G w p l e R s m args below meth c Z Q h k n (mkF m pc' Ls (.long v :: st))) : own_G w p l e R s m args below meth c Z Q h k n (mkF m pc Ls (st)) := by
  obtain ⟨hd, rfl⟩ := hd
  exact own_pure K (fun X _ _ _ _ q => XT.lloadN X.here K.1 rfl (hb K.2.1 hd) hl q) hr
theorem own_lstore (K : own_Cx p s m meth c Z own nm bytes maxL ret) {kk : Nat} {v : Int64} (hd : own_D bytes pc (.lstore kk) 2 pc') (hl : storeLocals Ls kk (.long v) = some Ls') (hr : own_G w p l e R s m args below meth c Z Q h k n (mkF m pc' Ls' (st))) : own_G w p l e R s m args below meth c Z Q h k n (mkF m pc Ls (.long v :: st)) := by
  obtain ⟨hd, rfl⟩ := hd
  exact own_pure K (fun X _ _ _ _ q => XT.lstore X.here K.1 rfl (hb K.2.1 hd) rfl hl q) hr
theorem own_lstoreN (K : own_Cx p s m meth c Z own nm bytes maxL ret) {kk : Fin 4} {v : Int64} (hd : own_D bytes pc (.lstore_n kk) 1 pc') (hl : storeLocals Ls kk.val (.long v) = some Ls') (hr : own_G w p l e R s m args below meth c Z Q h k n (mkF m pc' Ls' (st))) : own_G w p l e R s m args below meth c Z Q h k n (mkF m pc Ls (.long v :: st)) := by
  obtain ⟨hd, rfl⟩ := hd
  exact own_pure K (fun X _ _ _ _ q => XT.lstoreN X.here K.1 rfl (hb K.2.1 hd) rfl hl q) hr
theorem own_dload (K : own_Cx p s m meth c Z own nm bytes maxL ret) {kk : Nat} {v : UInt64} (hd : own_D bytes pc (.dload kk) 2 pc') (hl : Ls[kk]? = some (.val (.double v))) (hr : own_G w p l e R s m args below meth c Z Q h k n (mkF m pc' Ls (.double v :: st))) : own_G w p l e R s m args below meth c Z Q h k n (mkF m pc Ls (st)) := by
  obtain ⟨hd, rfl⟩ := hd
  exact own_pure K (fun X _ _ _ _ q => XS.dload X.here K.1 rfl (hb K.2.1 hd) hl q) hr
theorem own_dloadN (K : own_Cx p s m meth c Z own nm bytes maxL ret) {kk : Fin 4} {v : UInt64} (hd : own_D bytes pc (.dload_n kk) 1 pc') (hl : Ls[kk.val]? = some (.val (.double v))) (hr : own_G w p l e R s m args below meth c Z Q h k n (mkF m pc' Ls (.double v :: st))) : own_G w p l e R s m args below meth c Z Q h k n (mkF m pc Ls (st)) := by
  obtain ⟨hd, rfl⟩ := hd
  exact own_pure K (fun X _ _ _ _ q => XS.dloadN X.here K.1 rfl (hb K.2.1 hd) hl q) hr
theorem own_dstore (K : own_Cx p s m meth c Z own nm bytes maxL ret) {kk : Nat} {v : UInt64} (hd : own_D bytes pc (.dstore kk) 2 pc') (hl : storeLocals Ls kk (.double v) = some Ls') (hr : own_G w p l e R s m args below meth c Z Q h k n (mkF m pc' Ls' (st))) : own_G w p l e R s m args below meth c Z Q h k n (mkF m pc Ls (.double v :: st)) := by
  obtain ⟨hd, rfl⟩ := hd
  exact own_pure K (fun X _ _ _ _ q => XS.dstore X.here K.1 rfl (hb K.2.1 hd) rfl hl q) hr
theorem own_dstoreN (K : own_Cx p s m meth c Z own nm bytes maxL ret) {kk : Fin 4} {v : UInt64} (hd : own_D bytes pc (.dstore_n kk) 1 pc') (hl : storeLocals Ls kk.val (.double v) = some Ls') (hr : own_G w p l e R s m args below meth c Z Q h k n (mkF m pc' Ls' (st))) : own_G w p l e R s m args below meth c Z Q h k n (mkF m pc Ls (.double v :: st)) := by
  obtain ⟨hd, rfl⟩ := hd
  exact own_pure K (fun X _ _ _ _ q => XS.dstoreN X.here K.1 rfl (hb K.2.1 hd) rfl hl q) hr
theorem own_aload (K : own_Cx p s m meth c Z own nm bytes maxL ret) {kk : Nat} {v : Value} (hd : own_D bytes pc (.aload kk) 2 pc') (hl : Ls[kk]? = some (.val v)) (hv : v.isRef = true) (hr : own_G w p l e R s m args below meth c Z Q h k n (mkF m pc' Ls (v :: st))) : own_G w p l e R s m args below meth c Z Q h k n (mkF m pc Ls (st)) := by
  obtain ⟨hd, rfl⟩ := hd
  exact own_pure K (fun X _ _ _ _ q => XS.aload X.here K.1 rfl (hb K.2.1 hd) hl hv q) hr
theorem own_aloadN (K : own_Cx p s m meth c Z own nm bytes maxL ret) {kk : Fin 4} {v : Value} (hd : own_D bytes pc (.aload_n kk) 1 pc') (hl : Ls[kk.val]? = some (.val v)) (hv : v.isRef = true) (hr : own_G w p l e R s m args below meth c Z Q h k n (mkF m pc' Ls (v :: st))) : own_G w p l e R s m args below meth c Z Q h k n (mkF m pc Ls (st)) := by
  obtain ⟨hd, rfl⟩ := hd
  exact own_pure K (fun X _ _ _ _ q => XS.aloadN X.here K.1 rfl (hb K.2.1 hd) hl hv q) hr
theorem own_astore (K : own_Cx p s m meth c Z own nm bytes maxL ret) {kk : Nat} {v : Value} (hd : own_D bytes pc (.astore kk) 2 pc') (hv : v.isRef = true) (hl : storeLocals Ls kk v = some Ls') (hr : own_G w p l e R s m args below meth c Z Q h k n (mkF m pc' Ls' (st))) : own_G w p l e R s m args below meth c Z Q h k n (mkF m pc Ls (v :: st)) := by
  obtain ⟨hd, rfl⟩ := hd
  exact own_pure K (fun X _ _ _ _ q => XS.astore X.here K.1 rfl (hb K.2.1 hd) rfl hv hl q) hr
theorem own_astoreN (K : own_Cx p s m meth c Z own nm bytes maxL ret) {kk : Fin 4} {v : Value} (hd : own_D bytes pc (.astore_n kk) 1 pc') (hv : v.isRef = true) (hl : storeLocals Ls kk.val v = some Ls') (hr : own_G w p l e R s m args below meth c Z Q h k n (mkF m pc' Ls' (st))) : own_G w p l e R s m args below meth c Z Q h k n (mkF m pc Ls (v :: st)) := by
  obtain ⟨hd, rfl⟩ := hd
  exact own_pure K (fun X _ _ _ _ q => XS.astoreN X.here K.1 rfl (hb K.2.1 hd) rfl hv hl q) hr
theorem own_iconst (K : own_Cx p s m meth c Z own nm bytes maxL ret) {i : Int} {v : Int32} (hd : own_D bytes pc (.iconst i) 1 pc') (hv : Int32.ofInt i = v) (hr : own_G w p l e R s m args below meth c Z Q h k n (mkF m pc' Ls (.int v :: st))) : own_G w p l e R s m args below meth c Z Q h k n (mkF m pc Ls st) := by
  obtain ⟨hd, rfl⟩ := hd
  subst hv
  exact own_pure K (fun X _ _ _ _ q => XS.iconst X.here K.1 rfl (hb K.2.1 hd) q) hr
theorem own_bipush (K : own_Cx p s m meth c Z own nm bytes maxL ret) {i : Int} {v : Int32} (hd : own_D bytes pc (.bipush i) 2 pc') (hv : (Int8.ofInt i).toInt32 = v) (hr : own_G w p l e R s m args below meth c Z Q h k n (mkF m pc' Ls (.int v :: st))) : own_G w p l e R s m args below meth c Z Q h k n (mkF m pc Ls st) := by
  obtain ⟨hd, rfl⟩ := hd
  subst hv
  exact own_pure K (fun X _ _ _ _ q => XS.bipush X.here K.1 rfl (hb K.2.1 hd) q) hr
theorem own_sipush (K : own_Cx p s m meth c Z own nm bytes maxL ret) {i : Int} {v : Int32} (hd : own_D bytes pc (.sipush i) 3 pc') (hv : (Int16.ofInt i).toInt32 = v) (hr : own_G w p l e R s m args below meth c Z Q h k n (mkF m pc' Ls (.int v :: st))) : own_G w p l e R s m args below meth c Z Q h k n (mkF m pc Ls st) := by
  obtain ⟨hd, rfl⟩ := hd
  subst hv
  exact own_pure K (fun X _ _ _ _ q => XS.sipush X.here K.1 rfl (hb K.2.1 hd) q) hr
theorem own_lconst (K : own_Cx p s m meth c Z own nm bytes maxL ret) {i : Fin 2} {v : Int64} (hd : own_D bytes pc (.lconst i) 1 pc') (hv : Int64.ofNat i = v) (hr : own_G w p l e R s m args below meth c Z Q h k n (mkF m pc' Ls (.long v :: st))) : own_G w p l e R s m args below meth c Z Q h k n (mkF m pc Ls st) := by
  obtain ⟨hd, rfl⟩ := hd
  subst hv
  exact own_pure K (fun X _ _ _ _ q => XT.lconst X.here K.1 rfl (hb K.2.1 hd) q) hr
theorem own_dconst0 (K : own_Cx p s m meth c Z own nm bytes maxL ret) {v : UInt64} (hd : own_D bytes pc (.dconst 0) 1 pc') (hv : FP.dconst0 = v) (hr : own_G w p l e R s m args below meth c Z Q h k n (mkF m pc' Ls (.double v :: st))) : own_G w p l e R s m args below meth c Z Q h k n (mkF m pc Ls st) := by
  obtain ⟨hd, rfl⟩ := hd
  exact own_pure K (fun X _ _ _ _ q => XS.dconst0 X.here K.1 rfl (hb K.2.1 hd) hv q) hr
theorem own_dconst1 (K : own_Cx p s m meth c Z own nm bytes maxL ret) {v : UInt64} (hd : own_D bytes pc (.dconst 1) 1 pc') (hv : FP.dconst1 = v) (hr : own_G w p l e R s m args below meth c Z Q h k n (mkF m pc' Ls (.double v :: st))) : own_G w p l e R s m args below meth c Z Q h k n (mkF m pc Ls st) := by
  obtain ⟨hd, rfl⟩ := hd
  exact own_pure K (fun X _ _ _ _ q => XS.dconst1 X.here K.1 rfl (hb K.2.1 hd) hv q) hr
theorem own_aconstNull (K : own_Cx p s m meth c Z own nm bytes maxL ret)  (hd : own_D bytes pc (.aconst_null) 1 pc') (hr : own_G w p l e R s m args below meth c Z Q h k n (mkF m pc' Ls (.null :: st))) : own_G w p l e R s m args below meth c Z Q h k n (mkF m pc Ls (st)) := by
  obtain ⟨hd, rfl⟩ := hd
  exact own_pure K (fun X _ _ _ _ q => XS.aconstNull X.here K.1 rfl (hb K.2.1 hd)  q) hr
theorem own_iadd (K : own_Cx p s m meth c Z own nm bytes maxL ret) {x y : Int32} (hd : own_D bytes pc (.iadd) 1 pc') (hr : own_G w p l e R s m args below meth c Z Q h k n (mkF m pc' Ls (.int (x + y) :: st))) : own_G w p l e R s m args below meth c Z Q h k n (mkF m pc Ls (.int y :: .int x :: st)) := by
  obtain ⟨hd, rfl⟩ := hd
  exact own_pure K (fun X _ _ _ _ q => XS.iadd X.here K.1 rfl (hb K.2.1 hd) rfl q) hr
theorem own_isub (K : own_Cx p s m meth c Z own nm bytes maxL ret) {x y : Int32} (hd : own_D bytes pc (.isub) 1 pc') (hr : own_G w p l e R s m args below meth c Z Q h k n (mkF m pc' Ls (.int (x - y) :: st))) : own_G w p l e R s m args below meth c Z Q h k n (mkF m pc Ls (.int y :: .int x :: st)) := by
  obtain ⟨hd, rfl⟩ := hd
  exact own_pure K (fun X _ _ _ _ q => XS.isub X.here K.1 rfl (hb K.2.1 hd) rfl q) hr
theorem own_iand (K : own_Cx p s m meth c Z own nm bytes maxL ret) {x y : Int32} (hd : own_D bytes pc (.iand) 1 pc') (hr : own_G w p l e R s m args below meth c Z Q h k n (mkF m pc' Ls (.int (x &&& y) :: st))) : own_G w p l e R s m args below meth c Z Q h k n (mkF m pc Ls (.int y :: .int x :: st)) := by
  obtain ⟨hd, rfl⟩ := hd
  exact own_pure K (fun X _ _ _ _ q => XS.iand X.here K.1 rfl (hb K.2.1 hd) rfl q) hr
theorem own_imul (K : own_Cx p s m meth c Z own nm bytes maxL ret) {x y : Int32} (hd : own_D bytes pc (.imul) 1 pc') (hr : own_G w p l e R s m args below meth c Z Q h k n (mkF m pc' Ls (.int (x * y) :: st))) : own_G w p l e R s m args below meth c Z Q h k n (mkF m pc Ls (.int y :: .int x :: st)) := by
  obtain ⟨hd, rfl⟩ := hd
  exact own_pure K (fun X _ _ _ _ q => XS.imul X.here K.1 rfl (hb K.2.1 hd) rfl q) hr
theorem own_ixor (K : own_Cx p s m meth c Z own nm bytes maxL ret) {x y : Int32} (hd : own_D bytes pc (.ixor) 1 pc') (hr : own_G w p l e R s m args below meth c Z Q h k n (mkF m pc' Ls (.int (x ^^^ y) :: st))) : own_G w p l e R s m args below meth c Z Q h k n (mkF m pc Ls (.int y :: .int x :: st)) := by
  obtain ⟨hd, rfl⟩ := hd
  exact own_pure K (fun X _ _ _ _ q => XT.ixor X.here K.1 rfl (hb K.2.1 hd) rfl q) hr
theorem own_ior (K : own_Cx p s m meth c Z own nm bytes maxL ret) {x y : Int32} (hd : own_D bytes pc (.ior) 1 pc') (hr : own_G w p l e R s m args below meth c Z Q h k n (mkF m pc' Ls (.int (x ||| y) :: st))) : own_G w p l e R s m args below meth c Z Q h k n (mkF m pc Ls (.int y :: .int x :: st)) := by
  obtain ⟨hd, rfl⟩ := hd
  exact own_pure K (fun X _ _ _ _ q => XT.ior X.here K.1 rfl (hb K.2.1 hd) rfl q) hr
theorem own_ishl (K : own_Cx p s m meth c Z own nm bytes maxL ret) {x y : Int32} (hd : own_D bytes pc (.ishl) 1 pc') (hr : own_G w p l e R s m args below meth c Z Q h k n (mkF m pc' Ls (.int (x <<< (y &&& 31)) :: st))) : own_G w p l e R s m args below meth c Z Q h k n (mkF m pc Ls (.int y :: .int x :: st)) := by
  obtain ⟨hd, rfl⟩ := hd
  exact own_pure K (fun X _ _ _ _ q => XT.ishl X.here K.1 rfl (hb K.2.1 hd) rfl q) hr
theorem own_ishr (K : own_Cx p s m meth c Z own nm bytes maxL ret) {x y : Int32} (hd : own_D bytes pc (.ishr) 1 pc') (hr : own_G w p l e R s m args below meth c Z Q h k n (mkF m pc' Ls (.int (x >>> (y &&& 31)) :: st))) : own_G w p l e R s m args below meth c Z Q h k n (mkF m pc Ls (.int y :: .int x :: st)) := by
  obtain ⟨hd, rfl⟩ := hd
  exact own_pure K (fun X _ _ _ _ q => XT.ishr X.here K.1 rfl (hb K.2.1 hd) rfl q) hr
theorem own_iushr (K : own_Cx p s m meth c Z own nm bytes maxL ret) {x y : Int32} (hd : own_D bytes pc (.iushr) 1 pc') (hr : own_G w p l e R s m args below meth c Z Q h k n (mkF m pc' Ls (.int (XT.ushr x y) :: st))) : own_G w p l e R s m args below meth c Z Q h k n (mkF m pc Ls (.int y :: .int x :: st)) := by
  obtain ⟨hd, rfl⟩ := hd
  exact own_pure K (fun X _ _ _ _ q => XT.iushr X.here K.1 rfl (hb K.2.1 hd) rfl q) hr
theorem own_ladd (K : own_Cx p s m meth c Z own nm bytes maxL ret) {x y : Int64} (hd : own_D bytes pc (.ladd) 1 pc') (hr : own_G w p l e R s m args below meth c Z Q h k n (mkF m pc' Ls (.long (x + y) :: st))) : own_G w p l e R s m args below meth c Z Q h k n (mkF m pc Ls (.long y :: .long x :: st)) := by
  obtain ⟨hd, rfl⟩ := hd
  exact own_pure K (fun X _ _ _ _ q => XT.ladd X.here K.1 rfl (hb K.2.1 hd) rfl q) hr
theorem own_lsub (K : own_Cx p s m meth c Z own nm bytes maxL ret) {x y : Int64} (hd : own_D bytes pc (.lsub) 1 pc') (hr : own_G w p l e R s m args below meth c Z Q h k n (mkF m pc' Ls (.long (x - y) :: st))) : own_G w p l e R s m args below meth c Z Q h k n (mkF m pc Ls (.long y :: .long x :: st)) := by
  obtain ⟨hd, rfl⟩ := hd
  exact own_pure K (fun X _ _ _ _ q => XT.lsub X.here K.1 rfl (hb K.2.1 hd) rfl q) hr
theorem own_lmul (K : own_Cx p s m meth c Z own nm bytes maxL ret) {x y : Int64} (hd : own_D bytes pc (.lmul) 1 pc') (hr : own_G w p l e R s m args below meth c Z Q h k n (mkF m pc' Ls (.long (x * y) :: st))) : own_G w p l e R s m args below meth c Z Q h k n (mkF m pc Ls (.long y :: .long x :: st)) := by
  obtain ⟨hd, rfl⟩ := hd
  exact own_pure K (fun X _ _ _ _ q => XT.lmul X.here K.1 rfl (hb K.2.1 hd) rfl q) hr
theorem own_land (K : own_Cx p s m meth c Z own nm bytes maxL ret) {x y : Int64} (hd : own_D bytes pc (.land) 1 pc') (hr : own_G w p l e R s m args below meth c Z Q h k n (mkF m pc' Ls (.long (x &&& y) :: st))) : own_G w p l e R s m args below meth c Z Q h k n (mkF m pc Ls (.long y :: .long x :: st)) := by
  obtain ⟨hd, rfl⟩ := hd
  exact own_pure K (fun X _ _ _ _ q => XT.land X.here K.1 rfl (hb K.2.1 hd) rfl q) hr
theorem own_lor (K : own_Cx p s m meth c Z own nm bytes maxL ret) {x y : Int64} (hd : own_D bytes pc (.lor) 1 pc') (hr : own_G w p l e R s m args below meth c Z Q h k n (mkF m pc' Ls (.long (x ||| y) :: st))) : own_G w p l e R s m args below meth c Z Q h k n (mkF m pc Ls (.long y :: .long x :: st)) := by
  obtain ⟨hd, rfl⟩ := hd
  exact own_pure K (fun X _ _ _ _ q => XT.lor X.here K.1 rfl (hb K.2.1 hd) rfl q) hr
theorem own_lxor (K : own_Cx p s m meth c Z own nm bytes maxL ret) {x y : Int64} (hd : own_D bytes pc (.lxor) 1 pc') (hr : own_G w p l e R s m args below meth c Z Q h k n (mkF m pc' Ls (.long (x ^^^ y) :: st))) : own_G w p l e R s m args below meth c Z Q h k n (mkF m pc Ls (.long y :: .long x :: st)) := by
  obtain ⟨hd, rfl⟩ := hd
  exact own_pure K (fun X _ _ _ _ q => XT.lxor X.here K.1 rfl (hb K.2.1 hd) rfl q) hr
theorem own_lshl (K : own_Cx p s m meth c Z own nm bytes maxL ret) {x : Int64} {y : Int32} (hd : own_D bytes pc (.lshl) 1 pc') (hr : own_G w p l e R s m args below meth c Z Q h k n (mkF m pc' Ls (.long (x <<< (y.toInt64 &&& 63)) :: st))) : own_G w p l e R s m args below meth c Z Q h k n (mkF m pc Ls (.int y :: .long x :: st)) := by
  obtain ⟨hd, rfl⟩ := hd
  exact own_pure K (fun X _ _ _ _ q => XT.lshl X.here K.1 rfl (hb K.2.1 hd) rfl q) hr
theorem own_lshr (K : own_Cx p s m meth c Z own nm bytes maxL ret) {x : Int64} {y : Int32} (hd : own_D bytes pc (.lshr) 1 pc') (hr : own_G w p l e R s m args below meth c Z Q h k n (mkF m pc' Ls (.long (x >>> (y.toInt64 &&& 63)) :: st))) : own_G w p l e R s m args below meth c Z Q h k n (mkF m pc Ls (.int y :: .long x :: st)) := by
  obtain ⟨hd, rfl⟩ := hd
  exact own_pure K (fun X _ _ _ _ q => XT.lshr X.here K.1 rfl (hb K.2.1 hd) rfl q) hr
theorem own_lushr (K : own_Cx p s m meth c Z own nm bytes maxL ret) {x : Int64} {y : Int32} (hd : own_D bytes pc (.lushr) 1 pc') (hr : own_G w p l e R s m args below meth c Z Q h k n (mkF m pc' Ls (.long (XT.ushrL x y) :: st))) : own_G w p l e R s m args below meth c Z Q h k n (mkF m pc Ls (.int y :: .long x :: st)) := by
  obtain ⟨hd, rfl⟩ := hd
  exact own_pure K (fun X _ _ _ _ q => XT.lushr X.here K.1 rfl (hb K.2.1 hd) rfl q) hr
theorem own_lcmp (K : own_Cx p s m meth c Z own nm bytes maxL ret) {x y : Int64} (hd : own_D bytes pc (.lcmp) 1 pc') (hr : own_G w p l e R s m args below meth c Z Q h k n (mkF m pc' Ls (.int (XT.cmpL x y) :: st))) : own_G w p l e R s m args below meth c Z Q h k n (mkF m pc Ls (.long y :: .long x :: st)) := by
  obtain ⟨hd, rfl⟩ := hd
  exact own_pure K (fun X _ _ _ _ q => XT.lcmp X.here K.1 rfl (hb K.2.1 hd) rfl q) hr
theorem own_idiv (K : own_Cx p s m meth c Z own nm bytes maxL ret) {x y : Int32} (hd : own_D bytes pc (.idiv) 1 pc') (hy : y ≠ 0) (hr : own_G w p l e R s m args below meth c Z Q h k n (mkF m pc' Ls (.int (x / y) :: st))) : own_G w p l e R s m args below meth c Z Q h k n (mkF m pc Ls (.int y :: .int x :: st)) := by
  obtain ⟨hd, rfl⟩ := hd
  exact own_pure K (fun X _ _ _ _ q => XS.idiv X.here K.1 rfl (hb K.2.1 hd) rfl hy q) hr
theorem own_ldiv (K : own_Cx p s m meth c Z own nm bytes maxL ret) {x y : Int64} (hd : own_D bytes pc (.ldiv) 1 pc') (hy : y ≠ 0) (hr : own_G w p l e R s m args below meth c Z Q h k n (mkF m pc' Ls (.long (x / y) :: st))) : own_G w p l e R s m args below meth c Z Q h k n (mkF m pc Ls (.long y :: .long x :: st)) := by
  obtain ⟨hd, rfl⟩ := hd
  exact own_pure K (fun X _ _ _ _ q => XT.ldiv X.here K.1 rfl (hb K.2.1 hd) rfl hy q) hr
theorem own_irem (K : own_Cx p s m meth c Z own nm bytes maxL ret) {x y : Int32} (hd : own_D bytes pc .irem 1 pc') (hy : y ≠ 0) (hr : own_G w p l e R s m args below meth c Z Q h k n (mkF m pc' Ls (.int (x % y) :: st))) : own_G w p l e R s m args below meth c Z Q h k n (mkF m pc Ls (.int y :: .int x :: st)) := by
  obtain ⟨hd, rfl⟩ := hd
  exact own_pure K (fun X _ _ _ _ q => iremM X K.1 rfl (hb K.2.1 hd) rfl hy q) hr
theorem own_ineg (K : own_Cx p s m meth c Z own nm bytes maxL ret) {x : Int32} (hd : own_D bytes pc (.ineg) 1 pc') (hr : own_G w p l e R s m args below meth c Z Q h k n (mkF m pc' Ls (.int (-x) :: st))) : own_G w p l e R s m args below meth c Z Q h k n (mkF m pc Ls (.int x :: st)) := by
  obtain ⟨hd, rfl⟩ := hd
  exact own_pure K (fun X _ _ _ _ q => XS.ineg X.here K.1 rfl (hb K.2.1 hd) rfl q) hr
theorem own_lneg (K : own_Cx p s m meth c Z own nm bytes maxL ret) {x : Int64} (hd : own_D bytes pc (.lneg) 1 pc') (hr : own_G w p l e R s m args below meth c Z Q h k n (mkF m pc' Ls (.long (-x) :: st))) : own_G w p l e R s m args below meth c Z Q h k n (mkF m pc Ls (.long x :: st)) := by
  obtain ⟨hd, rfl⟩ := hd
  exact own_pure K (fun X _ _ _ _ q => XT.lneg X.here K.1 rfl (hb K.2.1 hd) rfl q) hr
theorem own_i2l (K : own_Cx p s m meth c Z own nm bytes maxL ret) {x : Int32} (hd : own_D bytes pc (.i2l) 1 pc') (hr : own_G w p l e R s m args below meth c Z Q h k n (mkF m pc' Ls (.long (x.toInt64) :: st))) : own_G w p l e R s m args below meth c Z Q h k n (mkF m pc Ls (.int x :: st)) := by
  obtain ⟨hd, rfl⟩ := hd
  exact own_pure K (fun X _ _ _ _ q => XT.i2l X.here K.1 rfl (hb K.2.1 hd) rfl q) hr
theorem own_l2i (K : own_Cx p s m meth c Z own nm bytes maxL ret) {x : Int64} (hd : own_D bytes pc (.l2i) 1 pc') (hr : own_G w p l e R s m args below meth c Z Q h k n (mkF m pc' Ls (.int (x.toInt32) :: st))) : own_G w p l e R s m args below meth c Z Q h k n (mkF m pc Ls (.long x :: st)) := by
  obtain ⟨hd, rfl⟩ := hd
  exact own_pure K (fun X _ _ _ _ q => XT.l2i X.here K.1 rfl (hb K.2.1 hd) rfl q) hr
theorem own_i2b (K : own_Cx p s m meth c Z own nm bytes maxL ret) {x : Int32} (hd : own_D bytes pc (.i2b) 1 pc') (hr : own_G w p l e R s m args below meth c Z Q h k n (mkF m pc' Ls (.int (x.toInt8.toInt32) :: st))) : own_G w p l e R s m args below meth c Z Q h k n (mkF m pc Ls (.int x :: st)) := by
  obtain ⟨hd, rfl⟩ := hd
  exact own_pure K (fun X _ _ _ _ q => XT.i2b X.here K.1 rfl (hb K.2.1 hd) rfl q) hr
theorem own_i2c (K : own_Cx p s m meth c Z own nm bytes maxL ret) {x : Int32} (hd : own_D bytes pc (.i2c) 1 pc') (hr : own_G w p l e R s m args below meth c Z Q h k n (mkF m pc' Ls (.int (x.toUInt32.toUInt16.toUInt32.toInt32) :: st))) : own_G w p l e R s m args below meth c Z Q h k n (mkF m pc Ls (.int x :: st)) := by
  obtain ⟨hd, rfl⟩ := hd
  exact own_pure K (fun X _ _ _ _ q => XT.i2c X.here K.1 rfl (hb K.2.1 hd) rfl q) hr
theorem own_i2s (K : own_Cx p s m meth c Z own nm bytes maxL ret) {x : Int32} (hd : own_D bytes pc (.i2s) 1 pc') (hr : own_G w p l e R s m args below meth c Z Q h k n (mkF m pc' Ls (.int (x.toInt16.toInt32) :: st))) : own_G w p l e R s m args below meth c Z Q h k n (mkF m pc Ls (.int x :: st)) := by
  obtain ⟨hd, rfl⟩ := hd
  exact own_pure K (fun X _ _ _ _ q => XT.i2s X.here K.1 rfl (hb K.2.1 hd) rfl q) hr
theorem own_i2d (K : own_Cx p s m meth c Z own nm bytes maxL ret) {x : Int32} (hd : own_D bytes pc (.i2d) 1 pc') (hr : own_G w p l e R s m args below meth c Z Q h k n (mkF m pc' Ls (.double (FP.i2d x) :: st))) : own_G w p l e R s m args below meth c Z Q h k n (mkF m pc Ls (.int x :: st)) := by
  obtain ⟨hd, rfl⟩ := hd
  exact own_pure K (fun X _ _ _ _ q => XS.i2dS X.here K.1 rfl (hb K.2.1 hd) rfl rfl q) hr
theorem own_l2d (K : own_Cx p s m meth c Z own nm bytes maxL ret) {x : Int64} (hd : own_D bytes pc (.l2d) 1 pc') (hr : own_G w p l e R s m args below meth c Z Q h k n (mkF m pc' Ls (.double (FP.l2d x) :: st))) : own_G w p l e R s m args below meth c Z Q h k n (mkF m pc Ls (.long x :: st)) := by
  obtain ⟨hd, rfl⟩ := hd
  exact own_pure K (fun X _ _ _ _ q => XS.l2dS X.here K.1 rfl (hb K.2.1 hd) rfl rfl q) hr
theorem own_dneg (K : own_Cx p s m meth c Z own nm bytes maxL ret) {x : UInt64} (hd : own_D bytes pc (.dneg) 1 pc') (hr : own_G w p l e R s m args below meth c Z Q h k n (mkF m pc' Ls (.double (FP.dneg x) :: st))) : own_G w p l e R s m args below meth c Z Q h k n (mkF m pc Ls (.double x :: st)) := by
  obtain ⟨hd, rfl⟩ := hd
  exact own_pure K (fun X _ _ _ _ q => XS.dnegS X.here K.1 rfl (hb K.2.1 hd) rfl rfl q) hr
theorem own_dcmp (K : own_Cx p s m meth c Z own nm bytes maxL ret) {oo : CmpOp} {x y : UInt64} (hd : own_D bytes pc (.dcmp oo) 1 pc') (hr : own_G w p l e R s m args below meth c Z Q h k n (mkF m pc' Ls (.int (cmpValue (FP.dcmp x y) oo) :: st))) : own_G w p l e R s m args below meth c Z Q h k n (mkF m pc Ls (.double y :: .double x :: st)) := by
  obtain ⟨hd, rfl⟩ := hd
  exact own_pure K (fun X _ _ _ _ q => XS.dcmpS X.here K.1 rfl (hb K.2.1 hd) rfl rfl q) hr
theorem own_dadd (K : own_Cx p s m meth c Z own nm bytes maxL ret) {x y : UInt64} (hd : own_D bytes pc (.dadd) 1 pc') (hn : Jvm.Free.Fl.NoNaN64 (FP.dadd x y)) (hr : own_G w p l e R s m args below meth c Z Q h k n (mkF m pc' Ls (.double (FP.dadd x y) :: st))) : own_G w p l e R s m args below meth c Z Q h k n (mkF m pc Ls (.double y :: .double x :: st)) := by
  obtain ⟨hd, rfl⟩ := hd
  exact own_pure K (fun X _ _ _ _ q => XS.daddS X.here K.1 rfl (hb K.2.1 hd) rfl hn rfl q) hr
theorem own_dsub (K : own_Cx p s m meth c Z own nm bytes maxL ret) {x y : UInt64} (hd : own_D bytes pc (.dsub) 1 pc') (hn : Jvm.Free.Fl.NoNaN64 (FP.dsub x y)) (hr : own_G w p l e R s m args below meth c Z Q h k n (mkF m pc' Ls (.double (FP.dsub x y) :: st))) : own_G w p l e R s m args below meth c Z Q h k n (mkF m pc Ls (.double y :: .double x :: st)) := by
  obtain ⟨hd, rfl⟩ := hd
  exact own_pure K (fun X _ _ _ _ q => XS.dsubS X.here K.1 rfl (hb K.2.1 hd) rfl hn rfl q) hr
theorem own_dmul (K : own_Cx p s m meth c Z own nm bytes maxL ret) {x y : UInt64} (hd : own_D bytes pc (.dmul) 1 pc') (hn : Jvm.Free.Fl.NoNaN64 (FP.dmul x y)) (hr : own_G w p l e R s m args below meth c Z Q h k n (mkF m pc' Ls (.double (FP.dmul x y) :: st))) : own_G w p l e R s m args below meth c Z Q h k n (mkF m pc Ls (.double y :: .double x :: st)) := by
  obtain ⟨hd, rfl⟩ := hd
  exact own_pure K (fun X _ _ _ _ q => XS.dmulS X.here K.1 rfl (hb K.2.1 hd) rfl hn rfl q) hr
theorem own_ddiv (K : own_Cx p s m meth c Z own nm bytes maxL ret) {x y : UInt64} (hd : own_D bytes pc (.ddiv) 1 pc') (hn : Jvm.Free.Fl.NoNaN64 (FP.ddiv x y)) (hr : own_G w p l e R s m args below meth c Z Q h k n (mkF m pc' Ls (.double (FP.ddiv x y) :: st))) : own_G w p l e R s m args below meth c Z Q h k n (mkF m pc Ls (.double y :: .double x :: st)) := by
  obtain ⟨hd, rfl⟩ := hd
  exact own_pure K (fun X _ _ _ _ q => XS.ddivS X.here K.1 rfl (hb K.2.1 hd) rfl hn rfl q) hr
theorem own_dup (K : own_Cx p s m meth c Z own nm bytes maxL ret) {x : Value} (hd : own_D bytes pc (.dup) 1 pc') (hc : x.category = 1) (hr : own_G w p l e R s m args below meth c Z Q h k n (mkF m pc' Ls (x :: x :: st))) : own_G w p l e R s m args below meth c Z Q h k n (mkF m pc Ls (x :: st)) := by
  obtain ⟨hd, rfl⟩ := hd
  exact own_pure K (fun X _ _ _ _ q => XS.dup X.here K.1 rfl (hb K.2.1 hd) rfl hc q) hr
theorem own_pop (K : own_Cx p s m meth c Z own nm bytes maxL ret) {x : Value} (hd : own_D bytes pc (.pop) 1 pc') (hc : x.category = 1) (hr : own_G w p l e R s m args below meth c Z Q h k n (mkF m pc' Ls (st))) : own_G w p l e R s m args below meth c Z Q h k n (mkF m pc Ls (x :: st)) := by
  obtain ⟨hd, rfl⟩ := hd
  exact own_pure K (fun X _ _ _ _ q => XT.pop X.here K.1 rfl (hb K.2.1 hd) rfl hc q) hr
theorem own_dupX1 (K : own_Cx p s m meth c Z own nm bytes maxL ret) {x y : Value} (hd : own_D bytes pc (.dup_x1) 1 pc') (hc : x.category = 1) (hc' : y.category = 1) (hr : own_G w p l e R s m args below meth c Z Q h k n (mkF m pc' Ls (x :: y :: x :: st))) : own_G w p l e R s m args below meth c Z Q h k n (mkF m pc Ls (x :: y :: st)) := by
  obtain ⟨hd, rfl⟩ := hd
  exact own_pure K (fun X _ _ _ _ q => XT.dupX1 X.here K.1 rfl (hb K.2.1 hd) rfl hc hc' q) hr
theorem own_dup2 (K : own_Cx p s m meth c Z own nm bytes maxL ret) {x y : Value} (hd : own_D bytes pc (.dup2) 1 pc') (hc : x.category = 1) (hc' : y.category = 1) (hr : own_G w p l e R s m args below meth c Z Q h k n (mkF m pc' Ls (x :: y :: x :: y :: st))) : own_G w p l e R s m args below meth c Z Q h k n (mkF m pc Ls (x :: y :: st)) := by
  obtain ⟨hd, rfl⟩ := hd
  exact own_pure K (fun X _ _ _ _ q => XT.dup2 X.here K.1 rfl (hb K.2.1 hd) rfl hc hc' q) hr
theorem own_iinc (K : own_Cx p s m meth c Z own nm bytes maxL ret) {kk : Nat} {cst : Int} {x y : Int32} (hd : own_D bytes pc (.iinc kk cst) 3 pc') (hl : Ls[kk]? = some (.val (.int x))) (hy : x + Int32.ofInt cst = y) (hl' : storeLocals Ls kk (.int y) = some Ls') (hr : own_G w p l e R s m args below meth c Z Q h k n (mkF m pc' Ls' st)) : own_G w p l e R s m args below meth c Z Q h k n (mkF m pc Ls st) := by
  obtain ⟨hd, rfl⟩ := hd
  subst hy
  exact own_pure K (fun X _ _ _ _ q => XS.iinc X.here K.1 rfl (hb K.2.1 hd) hl hl' q) hr
theorem own_goto (K : own_Cx p s m meth c Z own nm bytes maxL ret) {off : Int} {pcF : Nat} (hd : own_B bytes pc (.goto off) off pcF pcT) (hr : own_G w p l e R s m args below meth c Z Q h k n (mkF m pcT Ls st)) : own_G w p l e R s m args below meth c Z Q h k n (mkF m pc Ls st) := by
  obtain ⟨hd, -, h1, h2⟩ := hd
  exact own_pure K (fun X _ _ _ _ q => XS.goto X.here K.1 rfl rfl (hb K.2.1 hd) h1 h2 q) hr
theorem own_ldcI (K : own_Cx p s m meth c Z own nm bytes maxL ret) {i : Nat} {v : Int32} (hd : own_D bytes pc (.ldc i) 2 pc') (wc : (Cond.constant own i v).before a0 Z = true) (hr : own_G w p l e R s m args below meth c Z Q h k n (mkF m pc' Ls (.int v :: st))) : own_G w p l e R s m args below meth c Z Q h k n (mkF m pc Ls st) := by
  obtain ⟨hd, rfl⟩ := hd
  exact own_pure K (fun X hZ ho _ _ q => X.ldcI K.1 ho (mvT hZ wc) rfl (hb K.2.1 hd) q) hr
theorem own_ldc2J (K : own_Cx p s m meth c Z own nm bytes maxL ret) {i : Nat} {v : Int64} (hd : own_D bytes pc (.ldc2_w i) 3 pc') (wc : (Cond.constantLong own i v).before a0 Z = true) (hr : own_G w p l e R s m args below meth c Z Q h k n (mkF m pc' Ls (.long v :: st))) : own_G w p l e R s m args below meth c Z Q h k n (mkF m pc Ls st) := by
  obtain ⟨hd, rfl⟩ := hd
  exact own_pure K (fun X hZ ho _ _ q => X.ldc2J K.1 ho (mvT hZ wc) rfl (hb K.2.1 hd) q) hr
theorem own_ldc2D (K : own_Cx p s m meth c Z own nm bytes maxL ret) {i : Nat} {v : UInt64} (hd : own_D bytes pc (.ldc2_w i) 3 pc') (wc : (Cond.constantDouble own i v).before a0 Z = true) (hr : own_G w p l e R s m args below meth c Z Q h k n (mkF m pc' Ls (.double v :: st))) : own_G w p l e R s m args below meth c Z Q h k n (mkF m pc Ls st) := by
  obtain ⟨hd, rfl⟩ := hd
  exact own_pure K (fun X hZ ho _ _ q => X.ldc2DoubleC K.1 ho (mvT hZ wc) (g := mkF m pc Ls st) rfl (hb K.2.1 hd) _ q) hr
theorem own_i0_eq (x : Int32) : (ifCond.holds .eq x = true) = (x = 0) := by simp [ifCond.holds, Int32.lt_iff_toInt_lt, Int32.le_iff_toInt_le]
theorem own_ii_eq (x y : Int32) : (if_icmp.holds .eq x y = true) = (x = y) := by simp [if_icmp.holds, Int32.lt_iff_toInt_lt, Int32.le_iff_toInt_le]
theorem own_ifeq (K : own_Cx p s m meth c Z own nm bytes maxL ret) {off : Int} {pcF : Nat} {x : Int32} (hd : own_B bytes pc (.ifCond .eq off) off pcF pcT) (hT : (x = 0) → own_G w p l e R s m args below meth c Z Q h k n (mkF m pcT Ls st)) (hF : ¬ (x = 0) → own_G w p l e R s m args below meth c Z Q h k n (mkF m pcF Ls st)) : own_G w p l e R s m args below meth c Z Q h k n (mkF m pc Ls (.int x :: st)) := by
  obtain ⟨hd, rfl, h1, h2⟩ := hd
  by_cases q : ifCond.holds .eq x = true
  · exact own_pure K (fun X _ _ _ _ r => XS.ifYes X.here K.1 rfl rfl (hb K.2.1 hd) rfl q h1 h2 r) (hT ((own_i0_eq x).mp q))
  · exact own_pure K (fun X _ _ _ _ r => XS.ifNo X.here K.1 rfl (hb K.2.1 hd) rfl (Bool.eq_false_iff.mpr q) r) (hF fun z => q ((own_i0_eq x).mpr z))
theorem own_icmpeq (K : own_Cx p s m meth c Z own nm bytes maxL ret) {off : Int} {pcF : Nat} {x y : Int32} (hd : own_B bytes pc (.if_icmp .eq off) off pcF pcT) (hT : (x = y) → own_G w p l e R s m args below meth c Z Q h k n (mkF m pcT Ls st)) (hF : ¬ (x = y) → own_G w p l e R s m args below meth c Z Q h k n (mkF m pcF Ls st)) : own_G w p l e R s m args below meth c Z Q h k n (mkF m pc Ls (.int y :: .int x :: st)) := by
  obtain ⟨hd, rfl, h1, h2⟩ := hd
  by_cases q : if_icmp.holds .eq x y = true
  · exact own_pure K (fun X _ _ _ _ r => XS.icmpYes X.here K.1 rfl rfl (hb K.2.1 hd) rfl q h1 h2 r) (hT ((own_ii_eq x y).mp q))
  · exact own_pure K (fun X _ _ _ _ r => XS.icmpNo X.here K.1 rfl (hb K.2.1 hd) rfl (Bool.eq_false_iff.mpr q) r) (hF fun z => q ((own_ii_eq x y).mpr z))
theorem own_i0_ne (x : Int32) : (ifCond.holds .ne x = true) = (x ≠ 0) := by simp [ifCond.holds, Int32.lt_iff_toInt_lt, Int32.le_iff_toInt_le]
theorem own_ii_ne (x y : Int32) : (if_icmp.holds .ne x y = true) = (x ≠ y) := by simp [if_icmp.holds, Int32.lt_iff_toInt_lt, Int32.le_iff_toInt_le]
theorem own_ifne (K : own_Cx p s m meth c Z own nm bytes maxL ret) {off : Int} {pcF : Nat} {x : Int32} (hd : own_B bytes pc (.ifCond .ne off) off pcF pcT) (hT : (x ≠ 0) → own_G w p l e R s m args below meth c Z Q h k n (mkF m pcT Ls st)) (hF : ¬ (x ≠ 0) → own_G w p l e R s m args below meth c Z Q h k n (mkF m pcF Ls st)) : own_G w p l e R s m args below meth c Z Q h k n (mkF m pc Ls (.int x :: st)) := by
  obtain ⟨hd, rfl, h1, h2⟩ := hd
  by_cases q : ifCond.holds .ne x = true
  · exact own_pure K (fun X _ _ _ _ r => XS.ifYes X.here K.1 rfl rfl (hb K.2.1 hd) rfl q h1 h2 r) (hT ((own_i0_ne x).mp q))
  · exact own_pure K (fun X _ _ _ _ r => XS.ifNo X.here K.1 rfl (hb K.2.1 hd) rfl (Bool.eq_false_iff.mpr q) r) (hF fun z => q ((own_i0_ne x).mpr z))
theorem own_icmpne (K : own_Cx p s m meth c Z own nm bytes maxL ret) {off : Int} {pcF : Nat} {x y : Int32} (hd : own_B bytes pc (.if_icmp .ne off) off pcF pcT) (hT : (x ≠ y) → own_G w p l e R s m args below meth c Z Q h k n (mkF m pcT Ls st)) (hF : ¬ (x ≠ y) → own_G w p l e R s m args below meth c Z Q h k n (mkF m pcF Ls st)) : own_G w p l e R s m args below meth c Z Q h k n (mkF m pc Ls (.int y :: .int x :: st)) := by
  obtain ⟨hd, rfl, h1, h2⟩ := hd
  by_cases q : if_icmp.holds .ne x y = true
  · exact own_pure K (fun X _ _ _ _ r => XS.icmpYes X.here K.1 rfl rfl (hb K.2.1 hd) rfl q h1 h2 r) (hT ((own_ii_ne x y).mp q))
  · exact own_pure K (fun X _ _ _ _ r => XS.icmpNo X.here K.1 rfl (hb K.2.1 hd) rfl (Bool.eq_false_iff.mpr q) r) (hF fun z => q ((own_ii_ne x y).mpr z))
theorem own_i0_lt (x : Int32) : (ifCond.holds .lt x = true) = (x.toInt < 0) := by simp [ifCond.holds, Int32.lt_iff_toInt_lt, Int32.le_iff_toInt_le]
theorem own_ii_lt (x y : Int32) : (if_icmp.holds .lt x y = true) = (x.toInt < y.toInt) := by simp [if_icmp.holds, Int32.lt_iff_toInt_lt, Int32.le_iff_toInt_le]
theorem own_iflt (K : own_Cx p s m meth c Z own nm bytes maxL ret) {off : Int} {pcF : Nat} {x : Int32} (hd : own_B bytes pc (.ifCond .lt off) off pcF pcT) (hT : (x.toInt < 0) → own_G w p l e R s m args below meth c Z Q h k n (mkF m pcT Ls st)) (hF : ¬ (x.toInt < 0) → own_G w p l e R s m args below meth c Z Q h k n (mkF m pcF Ls st)) : own_G w p l e R s m args below meth c Z Q h k n (mkF m pc Ls (.int x :: st)) := by
  obtain ⟨hd, rfl, h1, h2⟩ := hd
  by_cases q : ifCond.holds .lt x = true
  · exact own_pure K (fun X _ _ _ _ r => XS.ifYes X.here K.1 rfl rfl (hb K.2.1 hd) rfl q h1 h2 r) (hT ((own_i0_lt x).mp q))
  · exact own_pure K (fun X _ _ _ _ r => XS.ifNo X.here K.1 rfl (hb K.2.1 hd) rfl (Bool.eq_false_iff.mpr q) r) (hF fun z => q ((own_i0_lt x).mpr z))
theorem own_icmplt (K : own_Cx p s m meth c Z own nm bytes maxL ret) {off : Int} {pcF : Nat} {x y : Int32} (hd : own_B bytes pc (.if_icmp .lt off) off pcF pcT) (hT : (x.toInt < y.toInt) → own_G w p l e R s m args below meth c Z Q h k n (mkF m pcT Ls st)) (hF : ¬ (x.toInt < y.toInt) → own_G w p l e R s m args below meth c Z Q h k n (mkF m pcF Ls st)) : own_G w p l e R s m args below meth c Z Q h k n (mkF m pc Ls (.int y :: .int x :: st)) := by
  obtain ⟨hd, rfl, h1, h2⟩ := hd
  by_cases q : if_icmp.holds .lt x y = true
  · exact own_pure K (fun X _ _ _ _ r => XS.icmpYes X.here K.1 rfl rfl (hb K.2.1 hd) rfl q h1 h2 r) (hT ((own_ii_lt x y).mp q))
  · exact own_pure K (fun X _ _ _ _ r => XS.icmpNo X.here K.1 rfl (hb K.2.1 hd) rfl (Bool.eq_false_iff.mpr q) r) (hF fun z => q ((own_ii_lt x y).mpr z))
theorem own_i0_ge (x : Int32) : (ifCond.holds .ge x = true) = (0 ≤ x.toInt) := by simp [ifCond.holds, Int32.lt_iff_toInt_lt, Int32.le_iff_toInt_le]
theorem own_ii_ge (x y : Int32) : (if_icmp.holds .ge x y = true) = (y.toInt ≤ x.toInt) := by simp [if_icmp.holds, Int32.lt_iff_toInt_lt, Int32.le_iff_toInt_le]
theorem own_ifge (K : own_Cx p s m meth c Z own nm bytes maxL ret) {off : Int} {pcF : Nat} {x : Int32} (hd : own_B bytes pc (.ifCond .ge off) off pcF pcT) (hT : (0 ≤ x.toInt) → own_G w p l e R s m args below meth c Z Q h k n (mkF m pcT Ls st)) (hF : ¬ (0 ≤ x.toInt) → own_G w p l e R s m args below meth c Z Q h k n (mkF m pcF Ls st)) : own_G w p l e R s m args below meth c Z Q h k n (mkF m pc Ls (.int x :: st)) := by
  obtain ⟨hd, rfl, h1, h2⟩ := hd
  by_cases q : ifCond.holds .ge x = true
  · exact own_pure K (fun X _ _ _ _ r => XS.ifYes X.here K.1 rfl rfl (hb K.2.1 hd) rfl q h1 h2 r) (hT ((own_i0_ge x).mp q))
  · exact own_pure K (fun X _ _ _ _ r => XS.ifNo X.here K.1 rfl (hb K.2.1 hd) rfl (Bool.eq_false_iff.mpr q) r) (hF fun z => q ((own_i0_ge x).mpr z))
theorem own_icmpge (K : own_Cx p s m meth c Z own nm bytes maxL ret) {off : Int} {pcF : Nat} {x y : Int32} (hd : own_B bytes pc (.if_icmp .ge off) off pcF pcT) (hT : (y.toInt ≤ x.toInt) → own_G w p l e R s m args below meth c Z Q h k n (mkF m pcT Ls st)) (hF : ¬ (y.toInt ≤ x.toInt) → own_G w p l e R s m args below meth c Z Q h k n (mkF m pcF Ls st)) : own_G w p l e R s m args below meth c Z Q h k n (mkF m pc Ls (.int y :: .int x :: st)) := by
  obtain ⟨hd, rfl, h1, h2⟩ := hd
  by_cases q : if_icmp.holds .ge x y = true
  · exact own_pure K (fun X _ _ _ _ r => XS.icmpYes X.here K.1 rfl rfl (hb K.2.1 hd) rfl q h1 h2 r) (hT ((own_ii_ge x y).mp q))
  · exact own_pure K (fun X _ _ _ _ r => XS.icmpNo X.here K.1 rfl (hb K.2.1 hd) rfl (Bool.eq_false_iff.mpr q) r) (hF fun z => q ((own_ii_ge x y).mpr z))
theorem own_i0_gt (x : Int32) : (ifCond.holds .gt x = true) = (0 < x.toInt) := by simp [ifCond.holds, Int32.lt_iff_toInt_lt, Int32.le_iff_toInt_le]
theorem own_ii_gt (x y : Int32) : (if_icmp.holds .gt x y = true) = (y.toInt < x.toInt) := by simp [if_icmp.holds, Int32.lt_iff_toInt_lt, Int32.le_iff_toInt_le]
theorem own_ifgt (K : own_Cx p s m meth c Z own nm bytes maxL ret) {off : Int} {pcF : Nat} {x : Int32} (hd : own_B bytes pc (.ifCond .gt off) off pcF pcT) (hT : (0 < x.toInt) → own_G w p l e R s m args below meth c Z Q h k n (mkF m pcT Ls st)) (hF : ¬ (0 < x.toInt) → own_G w p l e R s m args below meth c Z Q h k n (mkF m pcF Ls st)) : own_G w p l e R s m args below meth c Z Q h k n (mkF m pc Ls (.int x :: st)) := by
  obtain ⟨hd, rfl, h1, h2⟩ := hd
  by_cases q : ifCond.holds .gt x = true
  · exact own_pure K (fun X _ _ _ _ r => XS.ifYes X.here K.1 rfl rfl (hb K.2.1 hd) rfl q h1 h2 r) (hT ((own_i0_gt x).mp q))
  · exact own_pure K (fun X _ _ _ _ r => XS.ifNo X.here K.1 rfl (hb K.2.1 hd) rfl (Bool.eq_false_iff.mpr q) r) (hF fun z => q ((own_i0_gt x).mpr z))
theorem own_icmpgt (K : own_Cx p s m meth c Z own nm bytes maxL ret) {off : Int} {pcF : Nat} {x y : Int32} (hd : own_B bytes pc (.if_icmp .gt off) off pcF pcT) (hT : (y.toInt < x.toInt) → own_G w p l e R s m args below meth c Z Q h k n (mkF m pcT Ls st)) (hF : ¬ (y.toInt < x.toInt) → own_G w p l e R s m args below meth c Z Q h k n (mkF m pcF Ls st)) : own_G w p l e R s m args below meth c Z Q h k n (mkF m pc Ls (.int y :: .int x :: st)) := by
  obtain ⟨hd, rfl, h1, h2⟩ := hd
  by_cases q : if_icmp.holds .gt x y = true
  · exact own_pure K (fun X _ _ _ _ r => XS.icmpYes X.here K.1 rfl rfl (hb K.2.1 hd) rfl q h1 h2 r) (hT ((own_ii_gt x y).mp q))
  · exact own_pure K (fun X _ _ _ _ r => XS.icmpNo X.here K.1 rfl (hb K.2.1 hd) rfl (Bool.eq_false_iff.mpr q) r) (hF fun z => q ((own_ii_gt x y).mpr z))
theorem own_i0_le (x : Int32) : (ifCond.holds .le x = true) = (x.toInt ≤ 0) := by simp [ifCond.holds, Int32.lt_iff_toInt_lt, Int32.le_iff_toInt_le]
theorem own_ii_le (x y : Int32) : (if_icmp.holds .le x y = true) = (x.toInt ≤ y.toInt) := by simp [if_icmp.holds, Int32.lt_iff_toInt_lt, Int32.le_iff_toInt_le]
theorem own_ifle (K : own_Cx p s m meth c Z own nm bytes maxL ret) {off : Int} {pcF : Nat} {x : Int32} (hd : own_B bytes pc (.ifCond .le off) off pcF pcT) (hT : (x.toInt ≤ 0) → own_G w p l e R s m args below meth c Z Q h k n (mkF m pcT Ls st)) (hF : ¬ (x.toInt ≤ 0) → own_G w p l e R s m args below meth c Z Q h k n (mkF m pcF Ls st)) : own_G w p l e R s m args below meth c Z Q h k n (mkF m pc Ls (.int x :: st)) := by
  obtain ⟨hd, rfl, h1, h2⟩ := hd
  by_cases q : ifCond.holds .le x = true
  · exact own_pure K (fun X _ _ _ _ r => XS.ifYes X.here K.1 rfl rfl (hb K.2.1 hd) rfl q h1 h2 r) (hT ((own_i0_le x).mp q))
  · exact own_pure K (fun X _ _ _ _ r => XS.ifNo X.here K.1 rfl (hb K.2.1 hd) rfl (Bool.eq_false_iff.mpr q) r) (hF fun z => q ((own_i0_le x).mpr z))
theorem own_icmple (K : own_Cx p s m meth c Z own nm bytes maxL ret) {off : Int} {pcF : Nat} {x y : Int32} (hd : own_B bytes pc (.if_icmp .le off) off pcF pcT) (hT : (x.toInt ≤ y.toInt) → own_G w p l e R s m args below meth c Z Q h k n (mkF m pcT Ls st)) (hF : ¬ (x.toInt ≤ y.toInt) → own_G w p l e R s m args below meth c Z Q h k n (mkF m pcF Ls st)) : own_G w p l e R s m args below meth c Z Q h k n (mkF m pc Ls (.int y :: .int x :: st)) := by
  obtain ⟨hd, rfl, h1, h2⟩ := hd
  by_cases q : if_icmp.holds .le x y = true
  · exact own_pure K (fun X _ _ _ _ r => XS.icmpYes X.here K.1 rfl rfl (hb K.2.1 hd) rfl q h1 h2 r) (hT ((own_ii_le x y).mp q))
  · exact own_pure K (fun X _ _ _ _ r => XS.icmpNo X.here K.1 rfl (hb K.2.1 hd) rfl (Bool.eq_false_iff.mpr q) r) (hF fun z => q ((own_ii_le x y).mpr z))
theorem own_ifnullN (K : own_Cx p s m meth c Z own nm bytes maxL ret) {off : Int} {pcF : Nat} (hd : own_B bytes pc (.ifnull off) off pcF pcT) (hr : own_G w p l e R s m args below meth c Z Q h k n (mkF m pcT Ls st)) : own_G w p l e R s m args below meth c Z Q h k n (mkF m pc Ls (.null :: st)) := by
  obtain ⟨hd, rfl, h1, h2⟩ := hd
  exact own_pure K (fun X _ _ _ _ r => XS.ifnullYes X.here K.1 rfl rfl (hb K.2.1 hd) rfl h1 h2 r) hr
theorem own_ifnullR (K : own_Cx p s m meth c Z own nm bytes maxL ret) {off : Int} {pcF : Nat} {b : Addr} (hd : own_B bytes pc (.ifnull off) off pcF pcT) (hr : own_G w p l e R s m args below meth c Z Q h k n (mkF m pcF Ls st)) : own_G w p l e R s m args below meth c Z Q h k n (mkF m pc Ls (.ref b :: st)) := by
  obtain ⟨hd, rfl, h1, h2⟩ := hd
  exact own_pure K (fun X _ _ _ _ r => XS.ifnullNo X.here K.1 rfl (hb K.2.1 hd) rfl r) hr
theorem own_ifnonnullN (K : own_Cx p s m meth c Z own nm bytes maxL ret) {off : Int} {pcF : Nat} (hd : own_B bytes pc (.ifnonnull off) off pcF pcT) (hr : own_G w p l e R s m args below meth c Z Q h k n (mkF m pcF Ls st)) : own_G w p l e R s m args below meth c Z Q h k n (mkF m pc Ls (.null :: st)) := by
  obtain ⟨hd, rfl, h1, h2⟩ := hd
  exact own_pure K (fun X _ _ _ _ r => XT.ifnonnullNo X.here K.1 rfl (hb K.2.1 hd) rfl r) hr
theorem own_ifnonnullR (K : own_Cx p s m meth c Z own nm bytes maxL ret) {off : Int} {pcF : Nat} {b : Addr} (hd : own_B bytes pc (.ifnonnull off) off pcF pcT) (hr : own_G w p l e R s m args below meth c Z Q h k n (mkF m pcT Ls st)) : own_G w p l e R s m args below meth c Z Q h k n (mkF m pc Ls (.ref b :: st)) := by
  obtain ⟨hd, rfl, h1, h2⟩ := hd
  exact own_pure K (fun X _ _ _ _ r => XT.ifnonnullYes X.here K.1 rfl rfl (hb K.2.1 hd) rfl h1 h2 r) hr
theorem own_acmpeq (K : own_Cx p s m meth c Z own nm bytes maxL ret) {off : Int} {pcF : Nat} {x y : Value} (hd : own_B bytes pc (.if_acmp .eq off) off pcF pcT) (h1' : x.isRef = true) (h2' : y.isRef = true) (hT : (x = y) → own_G w p l e R s m args below meth c Z Q h k n (mkF m pcT Ls st)) (hF : ¬ (x = y) → own_G w p l e R s m args below meth c Z Q h k n (mkF m pcF Ls st)) : own_G w p l e R s m args below meth c Z Q h k n (mkF m pc Ls (y :: x :: st)) := by
  obtain ⟨hd, rfl, h1, h2⟩ := hd
  by_cases q : x = y
  · exact own_pure K (fun X _ _ _ _ r => XT.acmpYes X.here K.1 rfl rfl (hb K.2.1 hd) rfl h1' h2' (decide_eq_true q) h1 h2 r) (hT q)
  · exact own_pure K (fun X _ _ _ _ r => XT.acmpNo X.here K.1 rfl (hb K.2.1 hd) rfl h1' h2' (decide_eq_false q) r) (hF q)
theorem own_acmpne (K : own_Cx p s m meth c Z own nm bytes maxL ret) {off : Int} {pcF : Nat} {x y : Value} (hd : own_B bytes pc (.if_acmp .ne off) off pcF pcT) (h1' : x.isRef = true) (h2' : y.isRef = true) (hT : (x ≠ y) → own_G w p l e R s m args below meth c Z Q h k n (mkF m pcT Ls st)) (hF : ¬ (x ≠ y) → own_G w p l e R s m args below meth c Z Q h k n (mkF m pcF Ls st)) : own_G w p l e R s m args below meth c Z Q h k n (mkF m pc Ls (y :: x :: st)) := by
  obtain ⟨hd, rfl, h1, h2⟩ := hd
  by_cases q : x ≠ y
  · exact own_pure K (fun X _ _ _ _ r => XT.acmpYes X.here K.1 rfl rfl (hb K.2.1 hd) rfl h1' h2' (decide_eq_true q) h1 h2 r) (hT q)
  · exact own_pure K (fun X _ _ _ _ r => XT.acmpNo X.here K.1 rfl (hb K.2.1 hd) rfl h1' h2' (decide_eq_false q) r) (hF q)
theorem own_getfield (K : own_Cx p s m meth c Z own nm bytes maxL ret) {i j q : Nat} {R0 O f d host C : String} {v : Value} {a : Addr} {fs : List (String × String × String × Value)} (hd : own_D bytes pc (.getfield i) 3 pc') (wl : (Cond.fieldLink own i R0 f d).before a0 Z = true ∨ (Cond.fieldLinkNest own i R0 f d host).before a0 Z = true) (via : Via Z R0 O f d) (H : own_H Z h os as) (ho : os[j]? = some (a, C, fs)) (hf : fs[q]? = some (O, f, d, v)) (hr : own_G w p l e R s m args below meth c Z Q h k n (mkF m pc' Ls (v :: st))) : own_G w p l e R s m args below meth c Z Q h k n (mkF m pc Ls (.ref a :: st)) := by
  obtain ⟨hd, rfl⟩ := hd
  refine own_step K (P := fun h' => h' = h) (fun X hZ hw eT N => ?_) (fun h' e => by subst e; exact hr)
  obtain ⟨T', X', e', st⟩ := getF X K.1 hZ hw wl via eT (H.fld ho hf) (g := mkF m pc Ls (.ref a :: st)) rfl rfl (hb K.2.1 hd)
  exact ⟨T', _, _, X', N, e', Nat.le_refl _, rfl, st⟩
theorem own_putfield (K : own_Cx p s m meth c Z own nm bytes maxL ret) {i j q kk : Nat} {R0 O f d host C : String} {v v0 : Value} {a : Addr} {fs : List (String × String × String × Value)} {ty : FieldType} (hd : own_D bytes pc (.putfield i) 3 pc') (wl : (Cond.fieldLink own i R0 f d).before a0 Z = true ∨ (Cond.fieldLinkNest own i R0 f d host).before a0 Z = true) (via : Via Z R0 O f d) (H : own_H Z h os as) (ho : os[j]? = some (a, C, fs)) (hf : fs[q]? = some (O, f, d, v0))
    (L : (Cond.lays C O f d).before a0 Z = true ∨ ((Cond.laysFinal C O f d).before a0 Z = true ∧ own = O ∧ nm = "<init>")) (wi : (Cond.instantiable C kk).before a0 Z = true) (hty : parseFieldDescriptor d = some ty) (hn : narrow ty v = v) (hfit : fits ty v = true) (hr : ∀ h', own_H Z h' (os.set j (a, C, fs.set q (O, f, d, v))) as → own_G w p l e R s m args below meth c Z Q h' k n (mkF m pc' Ls st)) : own_G w p l e R s m args below meth c Z Q h k n (mkF m pc Ls (v :: .ref a :: st)) := by
  obtain ⟨hd, rfl⟩ := hd
  refine own_step K (P := fun h' => own_H Z h' (os.set j (a, C, fs.set q (O, f, d, v))) as) (fun X hZ hw eT N => ?_) hr
  obtain ⟨T', h', X', e', W, st⟩ := putF X K.1 hZ hw wl via eT (H.fld ho hf) (H.atO ho) (L.imp id (fun z => ⟨z.1, z.2.1, K.2.2.2.2.2.2.2.trans z.2.2⟩)) wi hty hn hfit (g := mkF m pc Ls (v :: .ref a :: st)) rfl rfl (hb K.2.1 hd)
  exact ⟨T', h', _, X', Fr.snoc X' N (H.newO ho), e', Nat.le_of_eq (Wr.size W).symm, H.wrO ho hf W, st⟩
theorem own_new (K : own_Cx p s m meth c Z own nm bytes maxL ret) {i kk : Nat} {C : String} {fs : List (String × String × String × Value)} (hd : own_D bytes pc (.new i) 3 pc') (w1 : (Cond.classLink own i C).before a0 Z = true) (w2 : (Cond.instantiable C kk).before a0 Z = true) (w3 : (Cond.initialized C).before a0 Z = true) (H : own_H Z h os as)
    (hF : ∀ f ∈ fs, Laid Z a0 C f.1 f.2.1 f.2.2.1 ∧ ∃ ty, parseFieldDescriptor f.2.2.1 = some ty ∧ f.2.2.2 = defaultValue ty) (hP : fs.Pairwise (fun f g => slotOf Z f.1 f.2.1 f.2.2.1 ≠ slotOf Z g.1 g.2.1 g.2.2.1)) (hc : k + 1 ≤ R.cells) (hl : n + kk ≤ R.slots)
    (hr : ∀ h' a, own_H Z h' ((a, C, fs) :: os) as → own_G w p l e R s m args below meth c Z Q h' (k + 1) (n + kk) (mkF m pc' Ls (.ref a :: st))) : own_G w p l e R s m args below meth c Z Q h k n (mkF m pc Ls st) := by
  obtain ⟨hd, rfl⟩ := hd
  refine own_step K (P := fun h' => own_H Z h' ((h.size, C, fs) :: os) as) (fun X hZ hw eT N => ?_) (fun h' H' => hr h' _ H')
  obtain ⟨T', h', X', e', E, A, D, -, st⟩ := newO X K.1 hZ hw w1 w2 w3 eT (g := mkF m pc Ls st) rfl (hb K.2.1 hd) hc hl
  exact ⟨T', h', _, X', N, e', E.1, H.addO E ⟨A, fun f hf => by obtain ⟨hL, ty, t1, t2⟩ := hF f hf; show Fld Z h' h.size f.1 f.2.1 f.2.2.1 f.2.2.2; rw [t2]; exact D hL t1, hP⟩, st⟩
theorem own_newarray (K : own_Cx p s m meth c Z own nm bytes maxL ret) {aty : ArrayType} {ty : FieldType} {N : Int32} {q : Nat} {ad : String} {vs : List Value} (hd : own_D bytes pc (.newarray aty) 2 pc') (hty : newarray.typeOf aty = ty) (w1 : (Cond.arrayClass ty).before a0 Z = true) (H : own_H Z h os as) (hN : N.toInt = (q : Int)) (had : "[" ++ ty.toString = ad) (hvs : vs = List.replicate q (defaultValue ty)) (hq : q * 8 ≤ 536870912) (hc : k + 1 ≤ R.cells) (hl : n + q ≤ R.slots)
    (hr : ∀ h' a, own_H Z h' os ((a, ty, ad, vs) :: as) → own_G w p l e R s m args below meth c Z Q h' (k + 1) (n + q) (mkF m pc' Ls (.ref a :: st))) : own_G w p l e R s m args below meth c Z Q h k n (mkF m pc Ls (.int N :: st)) := by
  obtain ⟨hd, rfl⟩ := hd
  subst hty
  refine own_step K (P := fun h' => own_H Z h' os ((h.size, newarray.typeOf aty, ad, vs) :: as)) (fun X hZ hw eT N => ?_) (fun h' H' => hr h' _ H')
  have hNq := own_idx hN
  obtain ⟨T', h', cA, X', e', E, A, Ex, st⟩ := newPE X K.1 hZ w1 eT (g := mkF m pc Ls (.int _ :: st)) rfl (hb K.2.1 hd) rfl (by rw [Int32.lt_iff_toInt_lt, hN, show (0 : Int32).toInt = 0 from rfl]; omega) (cap := q) (Nat.le_of_eq hNq) hq hc hl had
  refine ⟨T', h', _, X', N, e', E.1, H.addA E ⟨_, A, ?_, ?_, fun _ => Ex, fun C hC => ?_⟩, st⟩
  · show (newA cA (newarray.typeOf aty) _).slots.toList = vs
    simp [newA, hNq, hvs]
  · intro v hv
    rw [show v = defaultValue (newarray.typeOf aty) from List.eq_of_mem_replicate (hvs ▸ hv)]
    cases aty <;> rfl
  · cases aty <;> cases hC
theorem own_iaload (K : own_Cx p s m meth c Z own nm bytes maxL ret) {i q : Nat} {a : Addr} {ad : String} {vs : List Value} {v : Value} {j : Int32} (hd : own_D bytes pc .iaload 1 pc') (H : own_H Z h os as) (ha : as[i]? = some (a, .int, ad, vs)) (hj : j.toInt = (q : Int)) (hv : vs[q]? = some v) (hr : own_G w p l e R s m args below meth c Z Q h k n (mkF m pc' Ls (v :: st))) : own_G w p l e R s m args below meth c Z Q h k n (mkF m pc Ls (.int j :: .ref a :: st)) := by
  obtain ⟨hd, rfl⟩ := hd
  obtain ⟨-, cl, A, e1, -⟩ := H.2.2.1 _ (own_mem ha)
  have hq := (List.getElem?_eq_some_iff.mp hv).1
  have hsz : cl.slots.size = vs.length := by rw [← Array.length_toList]; exact congrArg List.length e1
  exact own_pure K (fun X hZ _ eT _ r => X.iaload K.1 (by rw [eT]; exact A.1) (State.isArrayOf_alike hZ.alike A.2.1) A.2.2 (by rw [hsz]; exact own_in hj hq) (by rw [own_idx hj, ← Array.getElem?_toList]; exact (show cl.slots.toList = vs from e1) ▸ hv) (g := mkF m pc Ls (.int j :: .ref a :: st)) rfl rfl (hb K.2.1 hd) _ r) hr
theorem own_laload (K : own_Cx p s m meth c Z own nm bytes maxL ret) {i q : Nat} {a : Addr} {ad : String} {vs : List Value} {v : Value} {j : Int32} (hd : own_D bytes pc .laload 1 pc') (H : own_H Z h os as) (ha : as[i]? = some (a, .long, ad, vs)) (hj : j.toInt = (q : Int)) (hv : vs[q]? = some v) (hr : own_G w p l e R s m args below meth c Z Q h k n (mkF m pc' Ls (v :: st))) : own_G w p l e R s m args below meth c Z Q h k n (mkF m pc Ls (.int j :: .ref a :: st)) := by
  obtain ⟨hd, rfl⟩ := hd
  obtain ⟨-, cl, A, e1, -⟩ := H.2.2.1 _ (own_mem ha)
  have hq := (List.getElem?_eq_some_iff.mp hv).1
  have hsz : cl.slots.size = vs.length := by rw [← Array.length_toList]; exact congrArg List.length e1
  exact own_pure K (fun X hZ _ eT _ r => X.laload K.1 (by rw [eT]; exact A.1) (State.isArrayOf_alike hZ.alike A.2.1) A.2.2 (by rw [hsz]; exact own_in hj hq) (by rw [own_idx hj, ← Array.getElem?_toList]; exact (show cl.slots.toList = vs from e1) ▸ hv) (g := mkF m pc Ls (.int j :: .ref a :: st)) rfl rfl (hb K.2.1 hd) _ r) hr
theorem own_daload (K : own_Cx p s m meth c Z own nm bytes maxL ret) {i q : Nat} {a : Addr} {ad : String} {vs : List Value} {v : Value} {j : Int32} (hd : own_D bytes pc .daload 1 pc') (H : own_H Z h os as) (ha : as[i]? = some (a, .double, ad, vs)) (hj : j.toInt = (q : Int)) (hv : vs[q]? = some v) (hr : own_G w p l e R s m args below meth c Z Q h k n (mkF m pc' Ls (v :: st))) : own_G w p l e R s m args below meth c Z Q h k n (mkF m pc Ls (.int j :: .ref a :: st)) := by
  obtain ⟨hd, rfl⟩ := hd
  obtain ⟨-, cl, A, e1, -⟩ := H.2.2.1 _ (own_mem ha)
  have hq := (List.getElem?_eq_some_iff.mp hv).1
  have hsz : cl.slots.size = vs.length := by rw [← Array.length_toList]; exact congrArg List.length e1
  exact own_pure K (fun X hZ _ eT _ r => X.daload K.1 (by rw [eT]; exact A.1) (State.isArrayOf_alike hZ.alike A.2.1) A.2.2 (by rw [hsz]; exact own_in hj hq) (by rw [own_idx hj, ← Array.getElem?_toList]; exact (show cl.slots.toList = vs from e1) ▸ hv) (g := mkF m pc Ls (.int j :: .ref a :: st)) rfl rfl (hb K.2.1 hd) _ r) hr
theorem own_caload (K : own_Cx p s m meth c Z own nm bytes maxL ret) {i q : Nat} {a : Addr} {ad : String} {vs : List Value} {v : Value} {j : Int32} (hd : own_D bytes pc .caload 1 pc') (H : own_H Z h os as) (ha : as[i]? = some (a, .char, ad, vs)) (hj : j.toInt = (q : Int)) (hv : vs[q]? = some v) (hr : own_G w p l e R s m args below meth c Z Q h k n (mkF m pc' Ls (v :: st))) : own_G w p l e R s m args below meth c Z Q h k n (mkF m pc Ls (.int j :: .ref a :: st)) := by
  obtain ⟨hd, rfl⟩ := hd
  obtain ⟨-, cl, A, e1, -⟩ := H.2.2.1 _ (own_mem ha)
  have hq := (List.getElem?_eq_some_iff.mp hv).1
  have hsz : cl.slots.size = vs.length := by rw [← Array.length_toList]; exact congrArg List.length e1
  exact own_pure K (fun X hZ _ eT _ r => X.caload K.1 (by rw [eT]; exact A.1) (State.isArrayOf_alike hZ.alike A.2.1) A.2.2 (by rw [hsz]; exact own_in hj hq) (by rw [own_idx hj, ← Array.getElem?_toList]; exact (show cl.slots.toList = vs from e1) ▸ hv) (g := mkF m pc Ls (.int j :: .ref a :: st)) rfl rfl (hb K.2.1 hd) _ r) hr
theorem own_baload (K : own_Cx p s m meth c Z own nm bytes maxL ret) {i q : Nat} {a : Addr} {ad : String} {vs : List Value} {v : Value} {j : Int32} (hd : own_D bytes pc .baload 1 pc') (H : own_H Z h os as) (ha : as[i]? = some (a, .byte, ad, vs)) (hj : j.toInt = (q : Int)) (hv : vs[q]? = some v) (hr : own_G w p l e R s m args below meth c Z Q h k n (mkF m pc' Ls (v :: st))) : own_G w p l e R s m args below meth c Z Q h k n (mkF m pc Ls (.int j :: .ref a :: st)) := by
  obtain ⟨hd, rfl⟩ := hd
  obtain ⟨-, cl, A, e1, -⟩ := H.2.2.1 _ (own_mem ha)
  have hq := (List.getElem?_eq_some_iff.mp hv).1
  have hsz : cl.slots.size = vs.length := by rw [← Array.length_toList]; exact congrArg List.length e1
  exact own_pure K (fun X hZ _ eT _ r => X.baloadBytes K.1 (by rw [eT]; exact A.1) (State.isArrayOf_alike hZ.alike A.2.1) A.2.2 (by rw [hsz]; exact own_in hj hq) (by rw [own_idx hj, ← Array.getElem?_toList]; exact (show cl.slots.toList = vs from e1) ▸ hv) (g := mkF m pc Ls (.int j :: .ref a :: st)) rfl rfl (hb K.2.1 hd) _ r) hr
theorem own_aaload (K : own_Cx p s m meth c Z own nm bytes maxL ret) {i q : Nat} {a : Addr} {ad : String} {ty : FieldType} {vs : List Value} {v : Value} {j : Int32} (hd : own_D bytes pc .aaload 1 pc') (H : own_H Z h os as) (ha : as[i]? = some (a, ty, ad, vs)) (hty : ty.isReference = true) (hj : j.toInt = (q : Int)) (hv : vs[q]? = some v) (hr : own_G w p l e R s m args below meth c Z Q h k n (mkF m pc' Ls (v :: st))) : own_G w p l e R s m args below meth c Z Q h k n (mkF m pc Ls (.int j :: .ref a :: st)) := by
  obtain ⟨hd, rfl⟩ := hd
  obtain ⟨-, cl, A, e1, -⟩ := H.2.2.1 _ (own_mem ha)
  have hq := (List.getElem?_eq_some_iff.mp hv).1
  have hsz : cl.slots.size = vs.length := by rw [← Array.length_toList]; exact congrArg List.length e1
  exact own_pure K (fun X hZ _ eT _ r => X.aaload K.1 (by rw [eT]; exact A.1) (State.isArrayOf_alike hZ.alike A.2.1) hty A.2.2 (by rw [hsz]; exact own_in hj hq) (by rw [own_idx hj, ← Array.getElem?_toList]; exact (show cl.slots.toList = vs from e1) ▸ hv) (g := mkF m pc Ls (.int j :: .ref a :: st)) rfl rfl (hb K.2.1 hd) _ r) hr
theorem own_iastore (K : own_Cx p s m meth c Z own nm bytes maxL ret) {i q : Nat} {a : Addr} {ad : String} {vs : List Value} {j : Int32} {x : Int32} (hd : own_D bytes pc .iastore 1 pc') (H : own_H Z h os as) (ha : as[i]? = some (a, .int, ad, vs)) (hj : j.toInt = (q : Int)) (hq : q < vs.length) (hr : ∀ h', own_H Z h' os (as.set i (a, .int, ad, vs.set q (.int x))) → own_G w p l e R s m args below meth c Z Q h' k n (mkF m pc' Ls st)) : own_G w p l e R s m args below meth c Z Q h k n (mkF m pc Ls (.int x :: .int j :: .ref a :: st)) := by
  obtain ⟨hd, rfl⟩ := hd
  obtain ⟨na, cl, A, e1, -⟩ := H.2.2.1 _ (own_mem ha)
  have hsz : cl.slots.size = vs.length := by rw [← Array.length_toList]; exact congrArg List.length e1
  refine own_step K (P := fun h' => own_H Z h' os (as.set i (a, .int, ad, vs.set q (.int x)))) (fun X hZ _ eT N => ?_) hr
  obtain ⟨T', h', X', e', W, st⟩ := stI X K.1 hZ eT A (by rw [hsz]; exact own_in hj hq) (g := mkF m pc Ls (.int x :: .int j :: .ref a :: st)) rfl rfl (hb K.2.1 hd)
  exact ⟨T', h', _, X', Fr.snoc X' N na, e', Nat.le_of_eq (Wr.size W).symm, H.wrA ha hq (rfl) (by rw [own_idx hj] at W; exact W), st⟩
theorem own_lastore (K : own_Cx p s m meth c Z own nm bytes maxL ret) {i q : Nat} {a : Addr} {ad : String} {vs : List Value} {j : Int32} {x : Int64} (hd : own_D bytes pc .lastore 1 pc') (H : own_H Z h os as) (ha : as[i]? = some (a, .long, ad, vs)) (hj : j.toInt = (q : Int)) (hq : q < vs.length) (hr : ∀ h', own_H Z h' os (as.set i (a, .long, ad, vs.set q (.long x))) → own_G w p l e R s m args below meth c Z Q h' k n (mkF m pc' Ls st)) : own_G w p l e R s m args below meth c Z Q h k n (mkF m pc Ls (.long x :: .int j :: .ref a :: st)) := by
  obtain ⟨hd, rfl⟩ := hd
  obtain ⟨na, cl, A, e1, -⟩ := H.2.2.1 _ (own_mem ha)
  have hsz : cl.slots.size = vs.length := by rw [← Array.length_toList]; exact congrArg List.length e1
  refine own_step K (P := fun h' => own_H Z h' os (as.set i (a, .long, ad, vs.set q (.long x)))) (fun X hZ _ eT N => ?_) hr
  obtain ⟨T', h', X', e', W, st⟩ := stJ X K.1 hZ eT A (by rw [hsz]; exact own_in hj hq) (g := mkF m pc Ls (.long x :: .int j :: .ref a :: st)) rfl rfl (hb K.2.1 hd)
  exact ⟨T', h', _, X', Fr.snoc X' N na, e', Nat.le_of_eq (Wr.size W).symm, H.wrA ha hq (rfl) (by rw [own_idx hj] at W; exact W), st⟩
theorem own_dastore (K : own_Cx p s m meth c Z own nm bytes maxL ret) {i q : Nat} {a : Addr} {ad : String} {vs : List Value} {j : Int32} {x : UInt64} (hd : own_D bytes pc .dastore 1 pc') (H : own_H Z h os as) (ha : as[i]? = some (a, .double, ad, vs)) (hj : j.toInt = (q : Int)) (hq : q < vs.length) (hr : ∀ h', own_H Z h' os (as.set i (a, .double, ad, vs.set q (.double x))) → own_G w p l e R s m args below meth c Z Q h' k n (mkF m pc' Ls st)) : own_G w p l e R s m args below meth c Z Q h k n (mkF m pc Ls (.double x :: .int j :: .ref a :: st)) := by
  obtain ⟨hd, rfl⟩ := hd
  obtain ⟨na, cl, A, e1, -⟩ := H.2.2.1 _ (own_mem ha)
  have hsz : cl.slots.size = vs.length := by rw [← Array.length_toList]; exact congrArg List.length e1
  refine own_step K (P := fun h' => own_H Z h' os (as.set i (a, .double, ad, vs.set q (.double x)))) (fun X hZ _ eT N => ?_) hr
  obtain ⟨T', h', X', e', W, st⟩ := stD X K.1 hZ eT A (by rw [hsz]; exact own_in hj hq) (g := mkF m pc Ls (.double x :: .int j :: .ref a :: st)) rfl rfl (hb K.2.1 hd)
  exact ⟨T', h', _, X', Fr.snoc X' N na, e', Nat.le_of_eq (Wr.size W).symm, H.wrA ha hq (rfl) (by rw [own_idx hj] at W; exact W), st⟩
theorem own_castore (K : own_Cx p s m meth c Z own nm bytes maxL ret) {i q : Nat} {a : Addr} {ad : String} {vs : List Value} {j : Int32} {x : Int32} (hd : own_D bytes pc .castore 1 pc') (H : own_H Z h os as) (ha : as[i]? = some (a, .char, ad, vs)) (hj : j.toInt = (q : Int)) (hq : q < vs.length) (hr : ∀ h', own_H Z h' os (as.set i (a, .char, ad, vs.set q (.int (nar .char x)))) → own_G w p l e R s m args below meth c Z Q h' k n (mkF m pc' Ls st)) : own_G w p l e R s m args below meth c Z Q h k n (mkF m pc Ls (.int x :: .int j :: .ref a :: st)) := by
  obtain ⟨hd, rfl⟩ := hd
  obtain ⟨na, cl, A, e1, -⟩ := H.2.2.1 _ (own_mem ha)
  have hsz : cl.slots.size = vs.length := by rw [← Array.length_toList]; exact congrArg List.length e1
  refine own_step K (P := fun h' => own_H Z h' os (as.set i (a, .char, ad, vs.set q (.int (nar .char x))))) (fun X hZ _ eT N => ?_) hr
  obtain ⟨T', h', X', e', W, st⟩ := stC X K.1 hZ eT A (by rw [hsz]; exact own_in hj hq) (g := mkF m pc Ls (.int x :: .int j :: .ref a :: st)) rfl rfl (hb K.2.1 hd)
  exact ⟨T', h', _, X', Fr.snoc X' N na, e', Nat.le_of_eq (Wr.size W).symm, H.wrA ha hq (by first | exact fits_nar_char _ | exact fits_nar_char | (simp [fits_nar_char]; done)) (by rw [own_idx hj] at W; exact W), st⟩
theorem own_bastore (K : own_Cx p s m meth c Z own nm bytes maxL ret) {i q : Nat} {a : Addr} {ad : String} {vs : List Value} {j : Int32} {x : Int32} (hd : own_D bytes pc .bastore 1 pc') (H : own_H Z h os as) (ha : as[i]? = some (a, .byte, ad, vs)) (hj : j.toInt = (q : Int)) (hq : q < vs.length) (hr : ∀ h', own_H Z h' os (as.set i (a, .byte, ad, vs.set q (.int (nar .byte x)))) → own_G w p l e R s m args below meth c Z Q h' k n (mkF m pc' Ls st)) : own_G w p l e R s m args below meth c Z Q h k n (mkF m pc Ls (.int x :: .int j :: .ref a :: st)) := by
  obtain ⟨hd, rfl⟩ := hd
  obtain ⟨na, cl, A, e1, -⟩ := H.2.2.1 _ (own_mem ha)
  have hsz : cl.slots.size = vs.length := by rw [← Array.length_toList]; exact congrArg List.length e1
  refine own_step K (P := fun h' => own_H Z h' os (as.set i (a, .byte, ad, vs.set q (.int (nar .byte x))))) (fun X hZ _ eT N => ?_) hr
  obtain ⟨T', h', X', e', W, st⟩ := stB X K.1 hZ eT A (by rw [hsz]; exact own_in hj hq) (g := mkF m pc Ls (.int x :: .int j :: .ref a :: st)) rfl rfl (hb K.2.1 hd)
  exact ⟨T', h', _, X', Fr.snoc X' N na, e', Nat.le_of_eq (Wr.size W).symm, H.wrA ha hq (by first | exact fits_nar_byte _ | exact fits_nar_byte | (simp [fits_nar_byte]; done)) (by rw [own_idx hj] at W; exact W), st⟩
theorem own_arraylength (K : own_Cx p s m meth c Z own nm bytes maxL ret) {i : Nat} {a : Addr} {ad : String} {ty : FieldType} {vs : List Value} {N : Int32} (hd : own_D bytes pc .arraylength 1 pc') (H : own_H Z h os as) (ha : as[i]? = some (a, ty, ad, vs)) (hN : N.toInt = (vs.length : Int)) (hr : own_G w p l e R s m args below meth c Z Q h k n (mkF m pc' Ls (.int N :: st))) : own_G w p l e R s m args below meth c Z Q h k n (mkF m pc Ls (.ref a :: st)) := by
  obtain ⟨hd, rfl⟩ := hd
  obtain ⟨-, cl, A, e1, -⟩ := H.2.2.1 _ (own_mem ha)
  have hsz : cl.slots.size = vs.length := by rw [← Array.length_toList]; exact congrArg List.length e1
  have e2 : cl.slots.size.toInt32 = N := by rw [hsz]; exact own_len hN
  exact own_pure K (fun X hZ _ eT _ r => X.arraylength K.1 (by rw [eT]; exact A.1) (State.isArrayOf_alike hZ.alike A.2.1) (g := mkF m pc Ls (.ref a :: st)) rfl rfl (hb K.2.1 hd) _ (by rw [e2]; exact r)) hr
theorem own_checkcast (K : own_Cx p s m meth c Z own nm bytes maxL ret) {i : Nat} {a : Addr} {Kn : String} (hd : own_D bytes pc (.checkcast i) 3 pc') (w1 : (Cond.classLink own i Kn).before a0 Z = true) (I : Ins Z h a Kn true) (hr : own_G w p l e R s m args below meth c Z Q h k n (mkF m pc' Ls (.ref a :: st))) : own_G w p l e R s m args below meth c Z Q h k n (mkF m pc Ls (.ref a :: st)) := by
  obtain ⟨hd, rfl⟩ := hd
  refine own_step K (P := fun h' => h' = h) (fun X hZ hw eT N => ?_) (fun h' e => by subst e; exact hr)
  obtain ⟨T', X', e', st⟩ := castY X K.1 hZ hw w1 eT I (g := mkF m pc Ls (.ref a :: st)) rfl rfl (hb K.2.1 hd)
  exact ⟨T', _, _, X', N, e', Nat.le_refl _, rfl, st⟩
theorem own_H.exaA (H : own_H Z h os as) {i : Nat} {a : Addr} {ty : FieldType} {ad : String} {vs : List Value} (ha : as[i]? = some (a, ty, ad, vs)) (hn : ad ≠ "") : Exa Z h a ad := by
  obtain ⟨-, cl, -, -, -, h4, -⟩ := H.2.2.1 _ (own_mem ha); exact h4 hn
theorem own_clone (K : own_Cx p s m meth c Z own nm bytes maxL ret) {i j : Nat} {a : Addr} {ty : FieldType} {ad : String} {vs : List Value} (hd : own_D bytes pc (.invokevirtual i) 3 pc') (w1 : (Cond.methodLink own i ⟨ad, "clone", "()Ljava/lang/Object;"⟩).before a0 Z = true) (w2 : (Cond.sameMethod ad "java/lang/Object" "clone" "()Ljava/lang/Object;").before a0 Z = true) (w3 : (Cond.native ⟨"java/lang/Object", "clone", "()Ljava/lang/Object;"⟩).before a0 Z = true)
    (w4 : (Cond.instanceMethod ⟨"java/lang/Object", "clone", "()Ljava/lang/Object;"⟩).before a0 Z = true) (w5 : (Cond.selects ad ⟨ad, "clone", "()Ljava/lang/Object;"⟩ ⟨"java/lang/Object", "clone", "()Ljava/lang/Object;"⟩).before a0 Z = true) (w6 : (Cond.castable ad "java/lang/Cloneable").before a0 Z = true)
    (H : own_H Z h os as) (ha : as[j]? = some (a, ty, ad, vs)) (hn : ad ≠ "") (hsz : Ls.size = maxL) (hf : 1 ≤ R.frames) {W : Nat} (hW : (st.map fun v => v.category).sum ≤ W) (hl : W + 14 ≤ R.locals) (hc : k + 1 ≤ R.cells) (hsl : n + vs.length ≤ R.slots)
    (hr : ∀ h' b, own_H Z h' os ((b, ty, ad, vs) :: as) → own_G w p l e R s m args below meth c Z Q h' (k + 1) (n + vs.length) (mkF m pc' Ls (.ref b :: st))) : own_G w p l e R s m args below meth c Z Q h k n (mkF m pc Ls (.ref a :: st)) := by
  obtain ⟨hd, rfl⟩ := hd
  obtain ⟨-, cl, A, e1, e3, e4, e5⟩ := H.2.2.1 _ (own_mem ha)
  have hsz' : cl.slots.size = vs.length := by rw [← Array.length_toList]; exact congrArg List.length e1
  have F : FitC Z cl := fun i v hv => by
    obtain ⟨hs, k, hk, comp, hkind⟩ := A.2.1
    have hm : v ∈ vs := by
      have : cl.slots.toList[i]? = some v := by rw [Array.getElem?_toList]; exact hv
      exact (show cl.slots.toList = vs from e1) ▸ own_mem this
    simp [State.fitsSlot, State.slotType?, hk, hkind, show fits ty v = true from e3 v hm]
  refine own_step K (P := fun h' => own_H Z h' os ((h.size, ty, ad, vs) :: as)) (fun X hZ hw eT N => ?_) (fun h' H' => hr h' _ H')
  obtain ⟨T', h', X', e', E, A', Ex, st⟩ := cloneA X K.1 hZ hw w1 w2 w3 w4 w5 w6 eT A (e4 hn) F (g := mkF m pc Ls (.ref a :: st)) rfl (hsz.trans K.2.2.1.symm) rfl (hb K.2.1 hd) hf (W := W) (by show 2 * 0 + _ ≤ W; simpa using hW) hl (cap := vs.length) (Nat.le_of_eq hsz') hc hsl
  exact ⟨T', h', _, X', N, e', E.1, H.addA E ⟨_, A', e1, e3, fun _ => Ex, e5⟩, st⟩
theorem own_initO (K : own_Cx p s m meth c Z own nm bytes maxL ret) {i : Nat} {a : Addr} (hd : own_D bytes pc (.invokespecial i) 3 pc') (w1 : (Cond.methodLink own i Lib.objectInit).before a0 Z = true) (w2 : (Cond.instanceMethod Lib.objectInit).before a0 Z = true) (w3 : (Cond.code Lib.objectInit ⟨#[0xb1]⟩ 1 none).before a0 Z = true) (hsz : Ls.size = maxL) (hf : 1 ≤ R.frames) {W : Nat} (hW : (st.map fun v => v.category).sum ≤ W) (hl : W + 12 ≤ R.locals) (hr : own_G w p l e R s m args below meth c Z Q h k n (mkF m pc' Ls st)) : own_G w p l e R s m args below meth c Z Q h k n (mkF m pc Ls (.ref a :: st)) := by
  obtain ⟨hd, rfl⟩ := hd
  refine own_step K (P := fun h' => h' = h) (fun X hZ hw eT N => ?_) (fun h' e => by subst e; exact hr)
  obtain ⟨T', X', e', st⟩ := initO X K.1 hZ hw w1 w2 w3 eT (g := mkF m pc Ls (.ref a :: st)) rfl (hsz.trans K.2.2.1.symm) rfl (hb K.2.1 hd) hf (W := W) (by show 2 * 0 + _ ≤ W; simpa using hW) hl
  exact ⟨T', _, _, X', N, e', Nat.le_refl _, rfl, st⟩
theorem own_static (K : own_Cx p s m meth c Z own nm bytes maxL ret) {i ml W : Nat} {y : MethodName} {b : ByteArray} {rt : Option FieldType} {rm : Room} {argsL : List Value} {Qc : Option Value → Heap → Prop} {ps : List FieldType} {r : Option FieldType} (hd : own_D bytes pc (.invokestatic i) 3 pc') (w1 : (Cond.methodLink own i y).before a0 Z = true) (w2 : (Cond.static y).before a0 Z = true) (w3 : (Cond.initialized y.cls).before a0 Z = true) (w4 : (Cond.code y b ml rt).before a0 Z = true)
    (hM : own_Met false l Z y b ml rt [] rm argsL.toArray h Qc) (hp : parseMethodDescriptor y.desc = some ⟨ps, r⟩) (hlen : argsL.length = ps.length) (hst : st = argsL.reverse ++ rest) (hsz : Ls.size = maxL) (hy : y.cls ≠ "java/lang/invoke/MethodHandle" ∧ y.cls ≠ "java/lang/invoke/VarHandle") (hW : (rest.map fun v => v.category).sum ≤ W) (hf : rm.frames + 1 ≤ R.frames) (hl : W + (ml + 11) + rm.locals ≤ R.locals) (hc : k + rm.cells ≤ R.cells) (hs : n + rm.slots ≤ R.slots)
    (hr : ∀ v h', Qc v h' → own_G w p l e R s m args below meth c Z Q h' (k + rm.cells) (n + rm.slots) (mkF m (pc') Ls (v.toList ++ rest))) : own_G w p l e R s m args below meth c Z Q h k n (mkF m pc Ls st) := by
  obtain ⟨hd, rfl⟩ := hd
  intro T hX
  obtain ⟨L, vm, X, N, eT, hw, hS⟩ := hX
  have hZ := own_zw K.2.2.2.2.2.1 hS
  have hown : (s.setVm vm).vm.findClass own = some m.cls := by rw [show (s.setVm vm).vm = vm from rfl, hS.1.alike.findClass]; exact K.2.2.2.2.2.2.1
  obtain ⟨v, vm1, ⟨T1, L1, k1, n1⟩, -, X1, ⟨Lc, ⟨hQ, N1, z1⟩, l1, y1, x1⟩, st1⟩ := Jvm.LawKit.callS X K.1 (y := y) hown (mvT hZ w1) (mvT hZ w2) (mvT hZ w3) (mvT hZ w4) hy (backOf (W := W) (Q := fun v h'' L => Qc v h'' ∧ Fr Z.heap.size L ∧ h.size ≤ h''.size) (show MetFree _ _ _ _ _ _ from hM) hZ w4 w3 hf hl) (g := mkF m pc Ls st) rfl (hsz.trans K.2.2.1.symm) (argsL := argsL) (rest := rest) (lenOf hp hlen) hst (by show 2 * 0 + _ ≤ W; simpa using hW) (hb K.2.1 hd) (fun _ _ => ⟨rfl, eT, hc, hs⟩)
  dsimp only [Pt.U, Pt.locs, Pt.cells, Pt.slots] at X1 l1 y1 x1 st1 hQ z1
  subst l1 y1 x1
  obtain ⟨T', v', h', k', n', hX', r1, r2, r3, r4, r5⟩ := hr v T1.heap hQ T1 ⟨_, vm, X1, N.app N1, rfl, hw, own_since hS z1⟩
  exact ⟨T', v', h', k', n', hX', r1, r2, r3, r4, fun fs q => st1 _ (r5 fs q)⟩
theorem own_special (K : own_Cx p s m meth c Z own nm bytes maxL ret) {i ml W : Nat} {y : MethodName} {b : ByteArray} {rm : Room} {a : Addr} {argsL : List Value} {Qc : Option Value → Heap → Prop} {ps : List FieldType} {r : Option FieldType} (hd : own_D bytes pc (.invokespecial i) 3 pc') (hy1 : y.name = "<init>") (w1 : (Cond.methodLink own i y).before a0 Z = true) (w2 : (Cond.instanceMethod y).before a0 Z = true) (w3 : (Cond.initialized y.cls).before a0 Z = true) (w4 : (Cond.code y b ml none).before a0 Z = true)
    (hM : own_Met false l Z y b ml none [] rm (.ref a :: argsL).toArray h Qc) (hp : parseMethodDescriptor y.desc = some ⟨ps, r⟩) (hlen : argsL.length = ps.length) (hst : st = argsL.reverse ++ .ref a :: rest) (hsz : Ls.size = maxL) (hy : y.cls ≠ "java/lang/invoke/MethodHandle" ∧ y.cls ≠ "java/lang/invoke/VarHandle") (hW : (rest.map fun v => v.category).sum ≤ W) (hf : rm.frames + 1 ≤ R.frames) (hl : W + (ml + 11) + rm.locals ≤ R.locals) (hc : k + rm.cells ≤ R.cells) (hs : n + rm.slots ≤ R.slots)
    (hr : ∀ v h', Qc v h' → own_G w p l e R s m args below meth c Z Q h' (k + rm.cells) (n + rm.slots) (mkF m (pc') Ls (v.toList ++ rest))) : own_G w p l e R s m args below meth c Z Q h k n (mkF m pc Ls st) := by
  obtain ⟨hd, rfl⟩ := hd
  intro T hX
  obtain ⟨L, vm, X, N, eT, hw, hS⟩ := hX
  have hZ := own_zw K.2.2.2.2.2.1 hS
  have hown : (s.setVm vm).vm.findClass own = some m.cls := by rw [show (s.setVm vm).vm = vm from rfl, hS.1.alike.findClass]; exact K.2.2.2.2.2.2.1
  obtain ⟨v, vm1, ⟨T1, L1, k1, n1⟩, -, X1, ⟨Lc, ⟨hQ, N1, z1⟩, l1, y1, x1⟩, st1⟩ := X.specialBack K.1 (y := y) hy1 hown (mvT hZ w1) (mvT hZ w2) (mvT hZ w4) hy (backOf (W := W) (Q := fun v h'' L => Qc v h'' ∧ Fr Z.heap.size L ∧ h.size ≤ h''.size) (show MetFree _ _ _ _ _ _ from hM) hZ w4 w3 hf hl) (g := mkF m pc Ls st) rfl (hsz.trans K.2.2.1.symm) (Steps.refl _) (a := a) (argsL := argsL) (rest := rest) (lenOf hp hlen) hst (by show 2 * 0 + _ ≤ W; simpa using hW) (hb K.2.1 hd) (fun _ _ => ⟨rfl, eT, hc, hs⟩)
  dsimp only [Pt.U, Pt.locs, Pt.cells, Pt.slots] at X1 l1 y1 x1 st1 hQ z1
  subst l1 y1 x1
  obtain ⟨T', v', h', k', n', hX', r1, r2, r3, r4, r5⟩ := hr v T1.heap hQ T1 ⟨_, vm, X1, N.app N1, rfl, hw, own_since hS z1⟩
  exact ⟨T', v', h', k', n', hX', r1, r2, r3, r4, fun fs q => st1.trans (r5 fs q)⟩
theorem own_virtual (K : own_Cx p s m meth c Z own nm bytes maxL ret) {i ml W : Nat} {y : MethodName} {C : String} {b : ByteArray} {rt : Option FieldType} {rm : Room} {a : Addr} {argsL : List Value} {Qc : Option Value → Heap → Prop} {ps : List FieldType} {r : Option FieldType} (hd : own_D bytes pc (.invokevirtual i) 3 pc') (w1 : (Cond.methodLink own i y).before a0 Z = true) (w2 : (Cond.declares y).before a0 Z = true) (w5 : (Cond.selects C y y).before a0 Z = true) (w6 : (Cond.instanceMethod y).before a0 Z = true) (w3 : (Cond.initialized y.cls).before a0 Z = true) (w4 : (Cond.code y b ml rt).before a0 Z = true)
    (E : Exa Z h a C) (hM : own_Met false l Z y b ml rt [] rm (.ref a :: argsL).toArray h Qc) (hp : parseMethodDescriptor y.desc = some ⟨ps, r⟩) (hlen : argsL.length = ps.length) (hst : st = argsL.reverse ++ .ref a :: rest) (hsz : Ls.size = maxL) (hy : y.cls ≠ "java/lang/invoke/MethodHandle" ∧ y.cls ≠ "java/lang/invoke/VarHandle") (hW : (rest.map fun v => v.category).sum ≤ W) (hf : rm.frames + 1 ≤ R.frames) (hl : W + (ml + 11) + rm.locals ≤ R.locals) (hc : k + rm.cells ≤ R.cells) (hs : n + rm.slots ≤ R.slots)
    (hr : ∀ v h', Qc v h' → own_G w p l e R s m args below meth c Z Q h' (k + rm.cells) (n + rm.slots) (mkF m (pc') Ls (v.toList ++ rest))) : own_G w p l e R s m args below meth c Z Q h k n (mkF m pc Ls st) := by
  obtain ⟨hd, rfl⟩ := hd
  intro T hX
  obtain ⟨L, vm, X, N, eT, hw, hS⟩ := hX
  have hZ := own_zw K.2.2.2.2.2.1 hS
  have hown : (s.setVm vm).vm.findClass own = some m.cls := by rw [show (s.setVm vm).vm = vm from rfl, hS.1.alike.findClass]; exact K.2.2.2.2.2.2.1
  obtain ⟨cq, kq, qa, qb, qc⟩ := isOf (s := s.setVm vm) hZ eT E
  obtain ⟨v, vm1, ⟨T1, L1, k1, n1⟩, -, X1, ⟨Lc, ⟨hQ, N1, z1⟩, l1, y1, x1⟩, st1⟩ := X.virtualBack K.1 (y := y) (z := y) hown (mvT hZ w1) (mvT hZ w2) (notFace_of_selects (C := C) (args := #[]) (mvT hZ w5)) (mvT hZ w5) (mvT hZ w6) hy (backOf (W := W) (Q := fun v h'' L => Qc v h'' ∧ Fr Z.heap.size L ∧ h.size ≤ h''.size) (show MetFree _ _ _ _ _ _ from hM) hZ w4 w3 hf hl) qa qc (g := mkF m pc Ls st) rfl (hsz.trans K.2.2.1.symm) (Steps.refl _) (argsL := argsL) (rest := rest) (lenOf hp hlen) hst (by show 2 * 0 + _ ≤ W; simpa using hW) (hb K.2.1 hd) (fun _ _ => ⟨rfl, eT, hc, hs⟩)
  dsimp only [Pt.U, Pt.locs, Pt.cells, Pt.slots] at X1 l1 y1 x1 st1 hQ z1
  subst l1 y1 x1
  obtain ⟨T', v', h', k', n', hX', r1, r2, r3, r4, r5⟩ := hr v T1.heap hQ T1 ⟨_, vm, X1, N.app N1, rfl, hw, own_since hS z1⟩
  exact ⟨T', v', h', k', n', hX', r1, r2, r3, r4, fun fs q => st1.trans (r5 fs q)⟩
theorem own_virtualZ (K : own_Cx p s m meth c Z own nm bytes maxL ret) {i ml W : Nat} {y z : MethodName} {C : String} {b : ByteArray} {rt : Option FieldType} {rm : Room} {a : Addr} {argsL : List Value} {Qc : Option Value → Heap → Prop} {ps : List FieldType} {r : Option FieldType} (hd : own_D bytes pc (.invokevirtual i) 3 pc') (w1 : (Cond.methodLink own i y).before a0 Z = true) (w2 : (Cond.declares y).before a0 Z = true) (w5 : (Cond.selects C y z).before a0 Z = true) (w6 : (Cond.instanceMethod z).before a0 Z = true) (w3 : (Cond.initialized z.cls).before a0 Z = true) (w4 : (Cond.code z b ml rt).before a0 Z = true)
    (E : Exa Z h a C) (hnf : ∀ vm, s.Warmed39 vm → NotFace (s.setVm vm) y) (hM : own_Met false l Z z b ml rt [] rm (.ref a :: argsL).toArray h Qc) (hp : parseMethodDescriptor y.desc = some ⟨ps, r⟩) (hlen : argsL.length = ps.length) (hst : st = argsL.reverse ++ .ref a :: rest) (hsz : Ls.size = maxL) (hy : y.cls ≠ "java/lang/invoke/MethodHandle" ∧ y.cls ≠ "java/lang/invoke/VarHandle") (hW : (rest.map fun v => v.category).sum ≤ W) (hf : rm.frames + 1 ≤ R.frames) (hl : W + (ml + 11) + rm.locals ≤ R.locals) (hc : k + rm.cells ≤ R.cells) (hs : n + rm.slots ≤ R.slots)
    (hr : ∀ v h', Qc v h' → own_G w p l e R s m args below meth c Z Q h' (k + rm.cells) (n + rm.slots) (mkF m (pc') Ls (v.toList ++ rest))) : own_G w p l e R s m args below meth c Z Q h k n (mkF m pc Ls st) := by
  obtain ⟨hd, rfl⟩ := hd
  intro T hX
  obtain ⟨L, vm, X, N, eT, hw, hS⟩ := hX
  have hZ := own_zw K.2.2.2.2.2.1 hS
  have hown : (s.setVm vm).vm.findClass own = some m.cls := by rw [show (s.setVm vm).vm = vm from rfl, hS.1.alike.findClass]; exact K.2.2.2.2.2.2.1
  obtain ⟨cq, kq, qa, qb, qc⟩ := isOf (s := s.setVm vm) hZ eT E
  obtain ⟨v, vm1, ⟨T1, L1, k1, n1⟩, -, X1, ⟨Lc, ⟨hQ, N1, z1⟩, l1, y1, x1⟩, st1⟩ := X.virtualBack K.1 (y := y) (z := z) hown (mvT hZ w1) (mvT hZ w2) (hnf vm hS.1) (mvT hZ w5) (mvT hZ w6) hy (backOf (W := W) (Q := fun v h'' L => Qc v h'' ∧ Fr Z.heap.size L ∧ h.size ≤ h''.size) (show MetFree _ _ _ _ _ _ from hM) hZ w4 w3 hf hl) qa qc (g := mkF m pc Ls st) rfl (hsz.trans K.2.2.1.symm) (Steps.refl _) (argsL := argsL) (rest := rest) (lenOf hp hlen) hst (by show 2 * 0 + _ ≤ W; simpa using hW) (hb K.2.1 hd) (fun _ _ => ⟨rfl, eT, hc, hs⟩)
  dsimp only [Pt.U, Pt.locs, Pt.cells, Pt.slots] at X1 l1 y1 x1 st1 hQ z1
  subst l1 y1 x1
  obtain ⟨T', v', h', k', n', hX', r1, r2, r3, r4, r5⟩ := hr v T1.heap hQ T1 ⟨_, vm, X1, N.app N1, rfl, hw, own_since hS z1⟩
  exact ⟨T', v', h', k', n', hX', r1, r2, r3, r4, fun fs q => st1.trans (r5 fs q)⟩
theorem own_retI (K : own_Cx p s m meth c Z own nm bytes maxL (some .int)) {z : Int32} (hd : own_D bytes pc .ireturn 1 pc') (hk : k ≤ R.cells) (hn : n ≤ R.slots) (hQ : Q (some (.int z)) h) : own_G w p l e R s m args below meth c Z Q h k n (mkF m pc Ls (.int z :: st)) := by
  obtain ⟨hd, -⟩ := hd
  intro T hX
  obtain ⟨L, vm, X, N, eT, hw, hS⟩ := hX
  exact ⟨T, some (.int z), h, k, n, ⟨L, vm, X, N, eT, hw, hS⟩, hk, hn, (fun q => by rw [K.2.2.2.1] at q; cases q), hQ, fun fs q => retOut X K.1 K.2.2.2.1 (rfl) (Or.inl ⟨rfl, Or.inl rfl, z, rfl⟩) (hb K.2.1 hd) q⟩
theorem own_retZ (K : own_Cx p s m meth c Z own nm bytes maxL (some .boolean)) {z : Int32} (hz : z = 0 ∨ z = 1) (hd : own_D bytes pc .ireturn 1 pc') (hk : k ≤ R.cells) (hn : n ≤ R.slots) (hQ : Q (some (.int z)) h) : own_G w p l e R s m args below meth c Z Q h k n (mkF m pc Ls (.int z :: st)) := by
  obtain ⟨hd, -⟩ := hd
  intro T hX
  obtain ⟨L, vm, X, N, eT, hw, hS⟩ := hX
  exact ⟨T, some (.int z), h, k, n, ⟨L, vm, X, N, eT, hw, hS⟩, hk, hn, (fun q => by rw [K.2.2.2.1] at q; cases q), hQ, fun fs q => retOut X K.1 K.2.2.2.1 (by rcases hz with rfl | rfl <;> decide) (Or.inl ⟨rfl, Or.inr (Or.inl rfl), z, rfl⟩) (hb K.2.1 hd) q⟩
theorem own_retC (K : own_Cx p s m meth c Z own nm bytes maxL (some .char)) {z : Int32} (hz : narrow .char (.int z) = .int z) (hd : own_D bytes pc .ireturn 1 pc') (hk : k ≤ R.cells) (hn : n ≤ R.slots) (hQ : Q (some (.int z)) h) : own_G w p l e R s m args below meth c Z Q h k n (mkF m pc Ls (.int z :: st)) := by
  obtain ⟨hd, -⟩ := hd
  intro T hX
  obtain ⟨L, vm, X, N, eT, hw, hS⟩ := hX
  exact ⟨T, some (.int z), h, k, n, ⟨L, vm, X, N, eT, hw, hS⟩, hk, hn, (fun q => by rw [K.2.2.2.1] at q; cases q), hQ, fun fs q => retOut X K.1 K.2.2.2.1 (hz) (Or.inl ⟨rfl, Or.inr (Or.inr (Or.inr (Or.inl rfl))), z, rfl⟩) (hb K.2.1 hd) q⟩
theorem own_retBy (K : own_Cx p s m meth c Z own nm bytes maxL (some .byte)) {z : Int32} (hz : narrow .byte (.int z) = .int z) (hd : own_D bytes pc .ireturn 1 pc') (hk : k ≤ R.cells) (hn : n ≤ R.slots) (hQ : Q (some (.int z)) h) : own_G w p l e R s m args below meth c Z Q h k n (mkF m pc Ls (.int z :: st)) := by
  obtain ⟨hd, -⟩ := hd
  intro T hX
  obtain ⟨L, vm, X, N, eT, hw, hS⟩ := hX
  exact ⟨T, some (.int z), h, k, n, ⟨L, vm, X, N, eT, hw, hS⟩, hk, hn, (fun q => by rw [K.2.2.2.1] at q; cases q), hQ, fun fs q => retOut X K.1 K.2.2.2.1 (hz) (Or.inl ⟨rfl, Or.inr (Or.inr (Or.inl rfl)), z, rfl⟩) (hb K.2.1 hd) q⟩
theorem own_retL (K : own_Cx p s m meth c Z own nm bytes maxL (some .long)) {z : Int64} (hd : own_D bytes pc .lreturn 1 pc') (hk : k ≤ R.cells) (hn : n ≤ R.slots) (hQ : Q (some (.long z)) h) : own_G w p l e R s m args below meth c Z Q h k n (mkF m pc Ls (.long z :: st)) := by
  obtain ⟨hd, -⟩ := hd
  intro T hX
  obtain ⟨L, vm, X, N, eT, hw, hS⟩ := hX
  exact ⟨T, some (.long z), h, k, n, ⟨L, vm, X, N, eT, hw, hS⟩, hk, hn, (fun q => by rw [K.2.2.2.1] at q; cases q), hQ, fun fs q => retOut X K.1 K.2.2.2.1 (rfl) (Or.inr (Or.inl ⟨rfl, rfl, z, rfl⟩)) (hb K.2.1 hd) q⟩
theorem own_retD (K : own_Cx p s m meth c Z own nm bytes maxL (some .double)) {z : UInt64} (hd : own_D bytes pc .dreturn 1 pc') (hk : k ≤ R.cells) (hn : n ≤ R.slots) (hQ : Q (some (.double z)) h) : own_G w p l e R s m args below meth c Z Q h k n (mkF m pc Ls (.double z :: st)) := by
  obtain ⟨hd, -⟩ := hd
  intro T hX
  obtain ⟨L, vm, X, N, eT, hw, hS⟩ := hX
  exact ⟨T, some (.double z), h, k, n, ⟨L, vm, X, N, eT, hw, hS⟩, hk, hn, (fun q => by rw [K.2.2.2.1] at q; cases q), hQ, fun fs q => retOut X K.1 K.2.2.2.1 (rfl) (Or.inr (Or.inr (Or.inl ⟨rfl, rfl, z, rfl⟩))) (hb K.2.1 hd) q⟩
theorem own_retA (K : own_Cx p s m meth c Z own nm bytes maxL (some tyR)) {v : Value} (hty : tyR.isReference = true) (hv : v.isRef = true) (hd : own_D bytes pc .areturn 1 pc') (hk : k ≤ R.cells) (hn : n ≤ R.slots) (hQ : Q (some (v)) h) : own_G w p l e R s m args below meth c Z Q h k n (mkF m pc Ls (v :: st)) := by
  obtain ⟨hd, -⟩ := hd
  intro T hX
  obtain ⟨L, vm, X, N, eT, hw, hS⟩ := hX
  exact ⟨T, some (v), h, k, n, ⟨L, vm, X, N, eT, hw, hS⟩, hk, hn, (fun q => by rw [K.2.2.2.1] at q; cases q), hQ, fun fs q => retOut X K.1 K.2.2.2.1 (by rcases ref_cases hv with rfl | ⟨a, rfl⟩ <;> cases tyR <;> first | rfl | cases hty) (Or.inr (Or.inr (Or.inr (Or.inr ⟨rfl, hty, hv⟩)))) (hb K.2.1 hd) q⟩
theorem own_retV (K : own_Cx p s m meth c Z own nm bytes maxL none) (hd : own_D bytes pc .return_ 1 pc') (hk : k ≤ R.cells) (hn : n ≤ R.slots) (hQ : Q none h) : own_G w p l e R s m args below meth c Z Q h k n (mkF m pc Ls []) := by
  obtain ⟨hd, -⟩ := hd
  intro T hX
  obtain ⟨L, vm, X, N, eT, hw, hS⟩ := hX
  exact ⟨T, none, h, k, n, ⟨L, vm, X, N, eT, hw, hS⟩, hk, hn, (fun _ => rfl), hQ, fun fs q => X.returnOut K.1 K.2.2.2.1 (hb K.2.1 hd) q⟩
theorem own_met {y : MethodName} {ws : List Cond} {rm : Room} {as' : Array Value} (hpn : plainFor y = true)
    (body : ∀ (p : Program) (e : Env) (s : State) (m : MethodId) (below : List Frame) (meth : Method) (c : Code), own_Cx p s m meth c Z y.cls y.name bytes maxL ret → own_G w p l e rm s m as' below meth c Z Q h 0 0 (entryFrame m as' maxL)) :
    own_Met w l Z y bytes maxL ret ws rm as' h Q := by
  refine MetFree.of_bodySF hpn hisR ?_
  intro p e s m args below meth c s₁ Bd hml0 hP hK
  obtain ⟨rfl, hZ, hh⟩ := hP
  have X0 : Stand p l e rm s m args below meth c s₁ [] 0 0 := Stand.of_body Bd
  have e0 : s₁.heap = h := by rw [← hh, Bd.state]; rfl
  have hlk : meth.locks = false := BodyLoose.notSynchronized Bd
  obtain ⟨T', v, h', k', n', ⟨L, vm, X, N, eT, hw, hS⟩, r1, r2, r3, r4, r5⟩ := body p e s m below meth c ⟨Bd.exec, Bd.bytes, hml0, Bd.returns, hlk, hZ, findClass_of_methodNamed Bd.named, (name_of_methodNamed Bd.named Bd.method).1⟩ s₁
    ⟨[], s.vm, X0, Fr.nil _, e0, fun _ => rfl, (State.WarmedH.refl s).since _⟩
  have hgr : h.size ≤ h'.size := by rw [← eT, ← hh]; exact X.same.2.1
  cases w with
  | false =>
    obtain rfl := hw rfl
    obtain ⟨fs, hr, hrun, hended, hW, hsame⟩ := Stand.leave (s := s) X r3
    exact ⟨_, _, r5 fs hr, hrun, hended, v, L, rfl, ⟨by show Q v T'.heap; rw [eT]; exact r4, N, by show h.size ≤ T'.heap.size; rw [eT]; exact hgr⟩, ⟨_, rfl⟩, hW, hsame.mono r1 r2⟩
  | true =>
    obtain ⟨fs, hr, hrun, hended, q1, q2, q3, q4⟩ := Stand.leaveW X hS (Nat.le_of_eq (congrArg Array.size eT.symm)) r3
    exact ⟨_, _, r5 fs hr, hrun, hended, v, L, rfl, ⟨by show Q v T'.heap; rw [eT]; exact r4, N, by show h.size ≤ T'.heap.size; rw [eT]; exact hgr⟩, q1, q2, q3, q4.mono r1 r2⟩
theorem own_list_getD {vs : List Value} {cl : Cell} (e : cl.slots.toList = vs) (d : Value) {i : Nat} (hi : i < cl.slots.size) : cl.slots[i]? = some (vs.getD i d) := by
  subst e
  rw [List.getD_eq_getElem?_getD, Array.getElem?_toList, Array.getElem?_eq_getElem hi]; rfl
theorem own_arv {a : Addr} {ty : FieldType} {ad : String} {vs : List Value} (F : own_AK Z h (a, ty, ad, vs)) (hl : vs.length < 2147483648) : ∃ (kc : ClassId) (z : Int32), z.toNatClampNeg = vs.length ∧ ¬ z < 0 ∧ Arv Z h a kc ty z vs .null := by
  obtain ⟨cl, A, e1, e3, -, -⟩ := F
  have e1' : cl.slots.toList = vs := e1
  have hsz : cl.slots.size = vs.length := by rw [← Array.length_toList, e1']
  have q := len_toInt (n := vs.length) (by omega)
  have z0 : ¬ vs.length.toInt32 < 0 := by rw [Int32.lt_iff_toInt_lt, q, show (0 : Int32).toInt = 0 from rfl]; omega
  have zc : vs.length.toInt32.toNatClampNeg = vs.length := by simp only [Int32.toNatClampNeg, q]; rfl
  refine ⟨cl.cls, vs.length.toInt32, zc, z0, cl, A, rfl, by rw [zc]; exact hsz, z0, fun i hi => own_list_getD e1' _ hi, fun i hi => ?_⟩
  have hi' : i < vs.length := by omega
  rw [List.getD_eq_getElem?_getD, List.getElem?_eq_getElem hi']
  exact e3 _ (List.getElem_mem hi')
theorem own_of_arv {a : Addr} {ty : FieldType} {vs : List Value} {kc : ClassId} {z : Int32} {d : Value} (F : Arv Z h a kc ty z vs d) (hz : z.toNatClampNeg = vs.length) : ∃ cl : Cell, Arr Z h a cl ty ∧ cl.cls = kc ∧ cl.slots.toList = vs ∧ ∀ v ∈ vs, fits ty v = true := by
  obtain ⟨cl, A, e1, e2, -, H, G⟩ := F
  have hsz : cl.slots.size = vs.length := e2.trans hz
  refine ⟨cl, A, e1, ?_, fun v hv => ?_⟩
  · apply List.ext_getElem?
    intro i
    rw [Array.getElem?_toList]
    by_cases hi : i < cl.slots.size
    · rw [H i hi, List.getD_eq_getElem?_getD, List.getElem?_eq_getElem (by omega)]; rfl
    · rw [Array.getElem?_eq_none (by omega), List.getElem?_eq_none (by omega)]
  · obtain ⟨i, hi, rfl⟩ := List.getElem_of_mem hv
    have := G i (by omega)
    rw [List.getD_eq_getElem?_getD, List.getElem?_eq_getElem hi] at this
    exact this
theorem own_H.keepA (H : own_H Z h os as) {b : Addr} {ty : FieldType} {ad : String} {vd vd' : List Value} {i : Nat} (hb : as[i]? = some (b, ty, ad, vd)) (Kp : Keep h h' [b]) (F : ∃ cl : Cell, Arr Z h' b cl ty ∧ cl.slots.toList = vd' ∧ ∀ v ∈ vd', fits ty v = true) (hty : ∀ C, ty ≠ .object C) : own_H Z h' os (as.set i (b, ty, ad, vd')) := by
  have nb := (H.2.2.1 _ (own_mem hb)).1
  have hlen := (List.getElem?_eq_some_iff.mp hb).1
  refine ⟨⟨Nat.le_trans H.1.1 Kp.1, fun x cx hx => Kp.2.1 x cx (H.1.2 x cx hx) fun q => ?_⟩, fun o ho => ?_, fun y hy => ?_, ?_⟩
  · cases List.mem_singleton.mp q; exact absurd (Array.getElem?_eq_some_iff.mp hx).1 (Nat.not_lt.mpr nb)
  · obtain ⟨n1, E, F', Pw⟩ := H.2.1 o ho
    exact ⟨n1, E.keep Kp, fun f hf => (F' f hf).keep Kp fun q => H.neOA ho (own_mem hb) (List.mem_singleton.mp q), Pw⟩
  · obtain ⟨j, hj⟩ := List.mem_iff_getElem?.mp hy
    rw [List.getElem?_set] at hj
    by_cases ij : i = j
    · subst ij
      rw [if_pos rfl, if_pos hlen] at hj
      obtain rfl := Option.some.inj hj
      obtain ⟨cl, A, e1, e2⟩ := F
      obtain ⟨-, cl0, -, -, -, e4, -⟩ := H.2.2.1 _ (own_mem hb)
      exact ⟨nb, cl, A, e1, e2, fun q => (e4 q).keep Kp, fun C hC => absurd hC (hty C)⟩
    · rw [if_neg ij] at hj
      obtain ⟨n1, cl, h1, h2, h3, h4, h5⟩ := H.2.2.1 _ (own_mem hj)
      exact ⟨n1, cl, ⟨Kp.2.1 _ _ h1.1 fun q => H.neAA hj hb (Ne.symm ij) (List.mem_singleton.mp q), h1.2⟩, h2, h3, fun q => (h4 q).keep Kp, h5⟩
  · rw [own_set_map (f := fun z => z.1) (x' := (b, ty, ad, vd')) hb rfl]; exact H.2.2.2
theorem own_range_take {vs : List Value} {sq nq : Nat} {d : Value} (hq : sq + nq ≤ vs.length) : (vs.drop sq).take nq = (List.range nq).map fun i => vs.getD (sq + i) d := by
  apply List.ext_getElem?
  intro i
  by_cases hi : i < nq
  · rw [List.getElem?_take_of_lt hi, List.getElem?_drop, List.getElem?_map, List.getElem?_range hi, Option.map_some, List.getD_eq_getElem?_getD, List.getElem?_eq_getElem (by omega)]; rfl
  · rw [List.getElem?_eq_none (by simp; omega), List.getElem?_eq_none (by simp; omega)]
theorem own_arraycopy (K : own_Cx p s m meth c Z own nm bytes maxL ret) {i ia ib : Nat} {a b : Addr} {ty : FieldType} {ada adb : String} {vs vd : List Value} {sp dp nn : Int32} {sq dq nq : Nat} (hd : own_D bytes pc (.invokestatic i) 3 pc') (w1 : (Cond.methodLink own i Jvm.Stand.acN).before a0 Z = true) (w2 : (Cond.native Jvm.Stand.acN).before a0 Z = true) (w3 : (Cond.static Jvm.Stand.acN).before a0 Z = true) (w4 : (Cond.initialized "java/lang/System").before a0 Z = true) (H : own_H Z h os as)
    (ha : as[ia]? = some (a, ty, ada, vs)) (hb' : as[ib]? = some (b, ty, adb, vd)) (hty : refKind ty = false) (hto : ∀ C, ty ≠ .object C) (hsp : sp.toInt = (sq : Int)) (hdp : dp.toInt = (dq : Int)) (hnn : nn.toInt = (nq : Int)) (h4 : sq + nq ≤ vs.length) (h5 : dq + nq ≤ vd.length) (hvl : vs.length < 2147483648) (hvd : vd.length < 2147483648) (hsz : Ls.size = maxL) (hf : 1 ≤ R.frames) {W : Nat} (hW : (st.map fun v => v.category).sum ≤ W) (hlo : W + (nativeFrameWords "java/lang/System" "arraycopy" 5 + 11) ≤ R.locals)
    (hr : ∀ h', own_H Z h' os (as.set ib (b, ty, adb, vd.take dq ++ (vs.drop sq).take nq ++ vd.drop (dq + nq))) → own_G w p l e R s m args below meth c Z Q h' k n (mkF m pc' Ls st)) : own_G w p l e R s m args below meth c Z Q h k n (mkF m pc Ls (.int nn :: .int dp :: .ref b :: .int sp :: .ref a :: st)) := by
  obtain ⟨hd, rfl⟩ := hd
  refine own_step K (P := fun h' => own_H Z h' os (as.set ib (b, ty, adb, vd.take dq ++ (vs.drop sq).take nq ++ vd.drop (dq + nq)))) (fun X hZ hw eT N => ?_) hr
  obtain ⟨ka, za, qa1, qa2, A⟩ := own_arv (H.2.2.1 _ (own_mem ha)).2 hvl
  obtain ⟨kb, zb, qb1, qb2, B⟩ := own_arv (H.2.2.1 _ (own_mem hb')).2 hvd
  have i1 := own_idx hsp
  have i2 := own_idx hdp
  have i3 := own_idx hnn
  have neg : ∀ {x : Int32} {q : Nat}, x.toInt = (q : Int) → ¬ x < 0 := fun {x q} e => by rw [Int32.lt_iff_toInt_lt, e, show (0 : Int32).toInt = 0 from rfl]; omega
  obtain ⟨T', h', L, X', e', N', Kp, A', st⟩ := cpA X K.1 hZ hw w1 w2 w3 w4 eT A B (Or.inl ⟨rfl, hty⟩) (neg hsp) (neg hdp) (neg hnn) (by rw [i1, i3, qa1]; exact h4) (by rw [i2, i3, qb1]; exact h5) (by rw [i1, i3]) (by rw [i2, i3]; exact h5) N (H.2.2.1 _ (own_mem hb')).1 (g := mkF m pc Ls (.int nn :: .int dp :: .ref b :: .int sp :: .ref a :: st)) rfl (hsz.trans K.2.2.1.symm) rfl (hb K.2.1 hd) hf (W := W) (by show 2 * 0 + _ ≤ W; simpa using hW) hlo
  rw [i2, i3, ← own_range_take h4] at A'
  obtain ⟨cl, c1, -, c3, c4⟩ := own_of_arv A' (by rw [qb1]; simp; omega)
  exact ⟨T', h', L, X', N', e', Kp.1, H.keepA hb' Kp ⟨cl, c1, c3, c4⟩ hto, st⟩
theorem own_cast {g g' : JFrame} (q : g = g') (hr : own_G w p l e R s m args below meth c Z Q h k n g') : own_G w p l e R s m args below meth c Z Q h k n g := q ▸ hr
theorem own_topI {x x' : Int32} (q : x = x') (hr : own_G w p l e R s m args below meth c Z Q h k n (mkF m pc Ls (.int x' :: st))) : own_G w p l e R s m args below meth c Z Q h k n (mkF m pc Ls (.int x :: st)) := q ▸ hr
theorem own_topL {x x' : Int64} (q : x = x') (hr : own_G w p l e R s m args below meth c Z Q h k n (mkF m pc Ls (.long x' :: st))) : own_G w p l e R s m args below meth c Z Q h k n (mkF m pc Ls (.long x :: st)) := q ▸ hr
theorem own_topD {x x' : UInt64} (q : x = x') (hr : own_G w p l e R s m args below meth c Z Q h k n (mkF m pc Ls (.double x' :: st))) : own_G w p l e R s m args below meth c Z Q h k n (mkF m pc Ls (.double x :: st)) := q ▸ hr
theorem own_H.perm (H : own_H Z h os as) (po : os.Perm os') (pa : as.Perm as') : own_H Z h os' as' :=
  ⟨H.1, fun o ho => H.2.1 o (po.mem_iff.mpr ho), fun a ha => H.2.2.1 a (pa.mem_iff.mpr ha), ((po.map _).append (pa.map _)).nodup_iff.mp H.2.2.2⟩
theorem own_front {α : Type} {L : List α} {x : α} : ∀ {i : Nat}, L[i]? = some x → L.Perm (x :: L.eraseIdx i) := by
  induction L with
  | nil => intro i hx; cases hx
  | cons y L ih =>
    intro i hx
    cases i with
    | zero => cases hx; exact List.Perm.refl _
    | succ i =>
      have q := ih (i := i) (by simpa using hx)
      exact ((q.cons y).trans (List.Perm.swap x y _))
theorem own_H.frontO (H : own_H Z h os as) (i : Nat) {x : own_O} (hx : os[i]? = some x) : own_H Z h (x :: os.eraseIdx i) as := H.perm (own_front hx) (List.Perm.refl _)
theorem own_H.frontA (H : own_H Z h os as) (i : Nat) {x : own_A} (hx : as[i]? = some x) : own_H Z h os (x :: as.eraseIdx i) := H.perm (List.Perm.refl _) (own_front hx)
end OwnKit
end Jvm.RoadKit
namespace Jvm.RoadKit
open Sem ClassFile Op Lib Jvm.Stand Jvm.Free Jvm.LawKit
section OwnRefs
variable {w : Bool} {p : Program} {l : Launch} {e : Env} {R : Room} {s : State} {m : MethodId} {args : Array Value} {below : List Frame} {meth : Method} {c : Code} {Z : State} {a0 : Array Value} {own nm : String} {bytes : ByteArray} {maxL : Nat} {ret : Option FieldType} {Q : Option Value → Heap → Prop} {h h' : Heap} {k n k' n' : Nat} {pc pc' pcT : Nat} {Ls Ls' : Array Slot} {st rest : List Value} {os os' : List own_O} {as as' : List own_A}
theorem own_refAt {T : State} {i : Nat} {O f d : String} {cf i0 : Nat} {k0 : Class} {f0 : Field} (hZT : Z.Warmed39 T.vm) (hw : T.vm.findClass own = some m.cls) (wr : (Cond.fieldRef own i O f d).before a0 Z = true) (h2 : Z.fieldFound? O f d = some (cf, k0, i0, f0)) : T.vm.fieldReady m.cls i cf f0 := by
  have w1 : (Cond.fieldRef own i O f d).before a0 (Z.setVm T.vm) = true := Cond.fieldRef_warmed39 hZT wr
  obtain ⟨c1, k1, i1, f1, g1, g2⟩ := Cond.fieldRef_spec (s := Z.setVm T.vm) (cur := m.cls) hw w1
  obtain ⟨k', hi, -⟩ := State.fieldFound?_setVm (s := Z) hZT.alike h2
  cases hi.symm.trans g1
  exact g2
theorem own_getfieldRef (K : own_Cx p s m meth c Z own nm bytes maxL ret) {i j q : Nat} {O f d C : String} {v : Value} {a : Addr} {fs : List (String × String × String × Value)} (hd : own_D bytes pc (.getfield i) 3 pc') (wr : (Cond.fieldRef own i O f d).before a0 Z = true) (H : own_H Z h os as) (ho : os[j]? = some (a, C, fs)) (hf : fs[q]? = some (O, f, d, v))
    (hr : own_G w p l e R s m args below meth c Z Q h k n (mkF m pc' Ls (v :: st))) : own_G w p l e R s m args below meth c Z Q h k n (mkF m pc Ls (.ref a :: st)) := by
  obtain ⟨hd, rfl⟩ := hd
  refine own_pure K (fun {T L vm} X hZ hw eT target q => ?_) hr
  obtain ⟨cell, cf, k0, i0, f0, h1, h2, h3, h4, -, -, h7⟩ := H.fld ho hf
  have g2 := own_refAt (T := T) (m := m) (wtrans hZ X.warmed) (by rw [X.warmed.alike.findClass]; exact hw) wr h2
  exact (X.getfieldR K.1 (g := mkF m pc Ls (.ref a :: st)) rfl g2 h3 rfl (by rw [eT]; exact h1) h4 h7 (hb K.2.1 hd) (Steps.refl _)).trans q
theorem own_putfieldRef (K : own_Cx p s m meth c Z own nm bytes maxL ret) {i j q kk : Nat} {O f d C : String} {v v0 : Value} {a : Addr} {fs : List (String × String × String × Value)} {ty : FieldType} (hd : own_D bytes pc (.putfield i) 3 pc') (wr : (Cond.fieldRef own i O f d).before a0 Z = true) (H : own_H Z h os as) (ho : os[j]? = some (a, C, fs)) (hf : fs[q]? = some (O, f, d, v0))
    (L : (Cond.lays C O f d).before a0 Z = true) (wi : (Cond.instantiable C kk).before a0 Z = true) (hty : parseFieldDescriptor d = some ty) (hn : narrow ty v = v) (hfit : fits ty v = true) (hr : ∀ h', own_H Z h' (os.set j (a, C, fs.set q (O, f, d, v))) as → own_G w p l e R s m args below meth c Z Q h' k n (mkF m pc' Ls st)) :
    own_G w p l e R s m args below meth c Z Q h k n (mkF m pc Ls (v :: .ref a :: st)) := by
  obtain ⟨hd, rfl⟩ := hd
  refine own_step K (P := fun h' => own_H Z h' (os.set j (a, C, fs.set q (O, f, d, v))) as) (fun {T _ vm} X hZ hw eT N => ?_) hr
  obtain ⟨cell, cf, k0, i0, f0, h1, h2, h3, h4, h5, -, h7⟩ := H.fld ho hf
  obtain ⟨cell', kc, e1, e2, e3, -, e5⟩ := H.atO ho
  cases h1.symm.trans e1
  obtain ⟨c1, k1, cf1, kf1, i1, f1, a1, a2, a3, -, a5, -, a7, -⟩ := Cond.lays_spec L
  cases h2.symm.trans a3
  cases e2.symm.trans a1
  obtain ⟨c2, k2, b1, b2, b3, -⟩ := Cond.instantiable_spec wi
  cases e2.symm.trans b1
  cases a2.symm.trans b2
  have hZT : Z.Warmed39 T.vm := wtrans hZ X.warmed
  have g2 := own_refAt (T := T) (m := m) hZT (by rw [X.warmed.alike.findClass]; exact hw) wr h2
  have ht := (State.fieldFound?_type h2 hty).2
  have hlt : f0.slot < cell.slots.size := (Array.getElem?_eq_some_iff.mp h7).1
  have hZf : Z.fitsSlot cell.cls cell.vm f0.slot v = true := by
    have q : Z.slotType? cell.cls cell.vm f0.slot = some ty := by
      cases hq : cell.vm <;> first | (rw [hq] at h5; exact Bool.noConfusion h5) | simp [State.slotType?, a2, b3, a7, ht]
    simp [State.fitsSlot, q, hfit]
  have hTf : T.fitsSlot cell.cls cell.vm f0.slot v = true := by
    have q : (Z.setVm T.vm).fitsSlot cell.cls cell.vm f0.slot v = true := by rw [State.fitsSlot_setVm hZT.alike]; exact hZf
    exact q
  obtain ⟨X', st'⟩ := X.putfieldReady K.1 g2 h3 (Or.inl a5) (by rw [eT]; exact h1) h4 hlt (by rw [ht]; exact hn) hTf (g := mkF m pc Ls (v :: .ref a :: st)) rfl rfl (hb K.2.1 hd)
  have es : slotOf Z O f d = f0.slot := by simp [slotOf, h2]
  have W : Wr h (T.setCell a (cell.setSlot f0.slot v)).heap a (slotOf Z O f d) v := ⟨cell, h1, h5, by rw [es]; exact hlt, by rw [es, ← eT]; rfl⟩
  exact ⟨_, _, _, X', Fr.snoc X' N (H.newO ho), rfl, Nat.le_of_eq (Wr.size W).symm, H.wrO ho hf W, st'⟩
theorem own_specialRef (K : own_Cx p s m meth c Z own nm bytes maxL ret) {i ml W : Nat} {y : MethodName} {b : ByteArray} {rm : Room} {a : Addr} {argsL : List Value} {Qc : Option Value → Heap → Prop} {ps : List FieldType} {r : Option FieldType} (hd : own_D bytes pc (.invokespecial i) 3 pc') (hy1 : y.name = "<init>") (w1 : (Cond.methodRef own i y).before a0 Z = true) (w2 : (Cond.instanceMethod y).before a0 Z = true) (w3 : (Cond.initialized y.cls).before a0 Z = true) (w4 : (Cond.code y b ml none).before a0 Z = true)
    (hM : own_Met false l Z y b ml none [] rm (.ref a :: argsL).toArray h Qc) (hp : parseMethodDescriptor y.desc = some ⟨ps, r⟩) (hlen : argsL.length = ps.length) (hst : st = argsL.reverse ++ .ref a :: rest) (hsz : Ls.size = maxL) (hy : y.cls ≠ "java/lang/invoke/MethodHandle" ∧ y.cls ≠ "java/lang/invoke/VarHandle") (hW : (rest.map fun v => v.category).sum ≤ W) (hf : rm.frames + 1 ≤ R.frames) (hl : W + (ml + 11) + rm.locals ≤ R.locals) (hc : k + rm.cells ≤ R.cells) (hs : n + rm.slots ≤ R.slots)
    (hr : ∀ v h', Qc v h' → own_G w p l e R s m args below meth c Z Q h' (k + rm.cells) (n + rm.slots) (mkF m (pc') Ls (v.toList ++ rest))) : own_G w p l e R s m args below meth c Z Q h k n (mkF m pc Ls st) := by
  obtain ⟨hd, rfl⟩ := hd
  intro T hX
  obtain ⟨L, vm, X, N, eT, hw, hS⟩ := hX
  have hZ := own_zw K.2.2.2.2.2.1 hS
  have hown : (s.setVm vm).vm.findClass own = some m.cls := by rw [show (s.setVm vm).vm = vm from rfl, hS.1.alike.findClass]; exact K.2.2.2.2.2.2.1
  have hZT : Z.Warmed39 T.vm := wtrans hZ X.warmed
  have c4 : (Cond.code y b ml none).before #[] T = true := mvT hZT w4
  obtain ⟨mk, methO, hnO, hmO, hstO, habO⟩ := Cond.instanceMethod_spec (show (Cond.instanceMethod y).before #[] T = true from mvT hZT w2)
  obtain ⟨methO', cO, hmO', hcO, -, -, -, -, -, hsigO⟩ := Cond.code_spec hnO c4
  cases hmO.symm.trans hmO'
  obtain ⟨kO, hkO, hnameO⟩ := className_of_methodNamed hnO
  obtain ⟨hnameMO, hdescO⟩ := name_of_methodNamed hnO hmO
  obtain ⟨mZ, methZ, hnZ, -⟩ := Cond.instanceMethod_spec w2
  have r1 : (Cond.methodRef own i y).before a0 (Z.setVm T.vm) = true := Cond.methodRef_warmed39 hZT hnZ hy w1
  obtain ⟨m1, c1, q1, q2, q3, q4⟩ := Cond.methodRef_named e (s := Z.setVm T.vm) (cur := m.cls) (show T.vm.findClass own = some m.cls by rw [X.warmed.alike.findClass]; exact hown) r1
  have q1' : T.methodFound? y.cls y.name y.desc = some m1 := q1
  rw [State.methodFound?_of_named hnO hy] at q1'
  cases q1'
  have q3' : T.vm.findClass y.cls = some c1 := q3
  rw [findClass_of_methodNamed hnO] at q3'
  cases q3'
  have hfound : lookupSpecial T.vm mk.cls "<init>" methO.desc = .method mk := by
    rw [hdescO, ← hy1]; exact lookupSpecial_of_named hnO hmO hstO
  have hK : Back l R p e below (s.setVm vm) args y 3 W _ _ := backOf (W := W) (Q := fun v h'' L => Qc v h'' ∧ Fr Z.heap.size L ∧ h.size ≤ h''.size) (show MetFree _ _ _ _ _ _ from hM) hZ w4 w3 hf hl
  obtain ⟨v, ⟨T1, L1, k1, n1⟩, X1, ⟨Lc, ⟨hQ, N1, z1⟩, l1, y1, x1⟩, st1⟩ := hK m meth c ⟨T, L, k, n⟩ (mkF m pc Ls rest) (.invokespecial i) mk (.ref a :: argsL).toArray X rfl (hsz.trans K.2.2.1.symm) (hb K.2.1 hd) (by show 2 * 0 + _ ≤ W; simpa using hW) hnO ⟨rfl, eT, hc, hs⟩
  dsimp only [Pt.U, Pt.locs, Pt.cells, Pt.slots] at X1 l1 y1 x1 st1 hQ z1
  subst l1 y1 x1
  obtain ⟨T', v', h', k', n', hX', r1, r2, r3, r4, r5⟩ := hr v T1.heap hQ T1 ⟨_, vm, X1, N.app N1, rfl, hw, own_since hS z1⟩
  refine ⟨T', v', h', k', n', hX', r1, r2, r3, r4, fun fs q => ?_⟩
  have stp : Steps p.tables e below (T.setTop (mkF m pc Ls st)) (doInvoke e (T.setTop (mkF m pc Ls rest)) [] mk (.ref a :: argsL).toArray).1 := by
    have hd' := hb K.2.1 hd
    have hx := K.1
    jvm_step X.here [hx, hd', invokespecial.wp_init (e := e) (s := T) (k := kO) (meth := methO) (m := mk) (a := a) (args := argsL) (rest := rest) (f := mkF m pc Ls st) X.here.top q4 q2 hkO hmO (by rw [hnameMO]; exact hy1) hstO habO hfound (lenOf hp hlen _ hsigO) hst]
    intro acts
    rw [doInvoke_state]
    exact Steps.refl _
  exact (stp.trans st1).trans (r5 fs q)
end OwnRefs
end Jvm.RoadKit
namespace Jvm.RoadKit
section OwnFlt
open Jvm.FP.Core
/-- a double in units of the least positive one -/
def own_z (a : UInt64) : Int := zval b64 (val64 a)
theorem own_fin {a : UInt64} (h : DFin a) : ∃ s c q, val64 a = .fin s c q ∧ b64.qmin ≤ q := by
  have hf := val64_fits a
  cases hv : val64 a with
  | nan => exact absurd hv (by have := h; unfold DFin at this; rw [hv] at this; exact absurd this (by simp))
  | inf s => exact absurd hv (by have := h; unfold DFin at this; rw [hv] at this; exact absurd this (by simp))
  | fin s c q => rw [hv] at hf; exact ⟨s, c, q, rfl, hf.2.1⟩
theorem own_units (c : Nat) {q : Int} {k : Nat} (hq : b64.qmin ≤ q) {e : Int} (he : e = b64.qmin - (k : Int)) : inUnits c q e = inUnits c q b64.qmin * 2 ^ k := by
  unfold inUnits
  have e1 : (q - e).toNat = (q - b64.qmin).toNat + k := by omega
  rw [e1, Nat.pow_add, Nat.mul_assoc]
theorem own_signed_mul (s t : Bool) (c d : Nat) : signed (s != t) (c * d) = signed s c * signed t d := by
  cases s <;> cases t <;> simp [signed, Int.natCast_mul, Int.neg_mul, Int.mul_neg]
theorem own_qmin : b64.qmin = -1074 := by decide
theorem own_mulU {a b : UInt64} {s t : Bool} {c d : Nat} {q r : Int} (ea : val64 a = .fin s c q) (eb : val64 b = .fin t d r) (hq : b64.qmin ≤ q) (hr : b64.qmin ≤ r) : signed (s != t) (inUnits (c * d) (q + r) (2 * b64.qmin)) = own_z a * own_z b := by
  have e1 : inUnits (c * d) (q + r) (2 * b64.qmin) = inUnits c q b64.qmin * inUnits d r b64.qmin := by
    unfold inUnits
    have : (q + r - 2 * b64.qmin).toNat = (q - b64.qmin).toNat + (r - b64.qmin).toNat := by omega
    rw [this, Nat.pow_add]; simp only [Nat.mul_assoc, Nat.mul_left_comm, Nat.mul_comm]
  rw [e1, own_signed_mul]
  unfold own_z zval; rw [ea, eb]; rfl
theorem own_pow1 : (2 ^ (b64.qmin - 2 * b64.qmin).toNat : Nat) = one64 := by decide +kernel
theorem own_mul_le {a b V : UInt64} (ha : DFin a) (hb : DFin b) (hV : val64 V ≠ .nan) (h : own_z a * own_z b ≤ own_z V * (one64 : Int)) : own_z (FP.dmul a b) ≤ own_z V := by
  obtain ⟨s, c, q, ea, hq⟩ := own_fin ha
  obtain ⟨t, d, r, eb, hr⟩ := own_fin hb
  have e := own_mulU ea eb hq hr
  have hm := own_qmin
  show zval b64 (val64 (dmul a b)) ≤ _
  rw [val64_dmul, ea, eb]
  refine zval_round_le good_b64 (val64_fits V) hV (e0 := 2 * b64.qmin) (by omega) (by omega) ?_
  rw [e, own_pow1]; exact h
theorem own_mul_ge {a b V : UInt64} (ha : DFin a) (hb : DFin b) (hV : val64 V ≠ .nan) (h : own_z V * (one64 : Int) ≤ own_z a * own_z b) : own_z V ≤ own_z (FP.dmul a b) := by
  obtain ⟨s, c, q, ea, hq⟩ := own_fin ha
  obtain ⟨t, d, r, eb, hr⟩ := own_fin hb
  have e := own_mulU ea eb hq hr
  have hm := own_qmin
  show _ ≤ zval b64 (val64 (dmul a b))
  rw [val64_dmul, ea, eb]
  refine zval_round_ge good_b64 (val64_fits V) hV (e0 := 2 * b64.qmin) (by omega) (by omega) ?_
  rw [e, own_pow1]; exact h
theorem own_sumU {a b : UInt64} {s t : Bool} {c d : Nat} {q r : Int} (ea : val64 a = .fin s c q) (eb : val64 b = .fin t d r) (hq : b64.qmin ≤ q) (hr : b64.qmin ≤ r) :
    signed (sumSign s t (sumUnits s c q t d r (min q r))) (inUnits (sumUnits s c q t d r (min q r)).natAbs (min q r) b64.qmin) = own_z a + own_z b := by
  have e1 : ∀ (v : Int) (k : Nat), signed (sumSign s t v) (v.natAbs * k) = v * k := by
    intro v k
    unfold sumSign
    by_cases hv : v = 0
    · subst hv; simp [signed]
    · rw [if_neg hv]
      by_cases hn : v < 0
      · simp only [hn, decide_true, signed, if_true, Int.natCast_mul]; rw [Int.ofNat_natAbs_of_nonpos (by omega), Int.neg_mul, Int.neg_neg]
      · simp only [hn, decide_false, signed, Int.natCast_mul]; simp; rw [Int.natAbs_of_nonneg (by omega)]
  have e2 : ∀ (x : Bool) (y : Nat) (k : Nat), signed x y * (k : Int) = signed x (y * k) := by
    intro x y k; cases x <;> simp [signed, Int.natCast_mul, Int.neg_mul]
  have e3 : ∀ (y : Nat) (q0 : Int), min q r ≤ q0 → inUnits y q0 (min q r) * 2 ^ (min q r - b64.qmin).toNat = inUnits y q0 b64.qmin := by
    intro y q0 h0
    unfold inUnits
    have : (q0 - b64.qmin).toNat = (q0 - min q r).toNat + (min q r - b64.qmin).toNat := by omega
    rw [this, Nat.pow_add, Nat.mul_assoc]
  have e4 : inUnits (sumUnits s c q t d r (min q r)).natAbs (min q r) b64.qmin = (sumUnits s c q t d r (min q r)).natAbs * 2 ^ (min q r - b64.qmin).toNat := rfl
  rw [e4, e1]
  unfold sumUnits
  rw [Int.add_mul, e2, e2, e3 c q (by omega), e3 d r (by omega)]
  unfold own_z zval; rw [ea, eb]; rfl
theorem own_add_le {a b V : UInt64} (ha : DFin a) (hb : DFin b) (hV : val64 V ≠ .nan) (h : own_z a + own_z b ≤ own_z V) : own_z (FP.dadd a b) ≤ own_z V := by
  obtain ⟨s, c, q, ea, hq⟩ := own_fin ha
  obtain ⟨t, d, r, eb, hr⟩ := own_fin hb
  have e := own_sumU ea eb hq hr
  show zval b64 (val64 (dadd a b)) ≤ _
  rw [val64_dadd, ea, eb]
  refine zval_round_le good_b64 (val64_fits V) hV (e0 := b64.qmin) (Int.le_refl _) (by omega) ?_
  rw [e, Int.sub_self]; simpa [own_z] using h
theorem own_add_ge {a b V : UInt64} (ha : DFin a) (hb : DFin b) (hV : val64 V ≠ .nan) (h : own_z V ≤ own_z a + own_z b) : own_z V ≤ own_z (FP.dadd a b) := by
  obtain ⟨s, c, q, ea, hq⟩ := own_fin ha
  obtain ⟨t, d, r, eb, hr⟩ := own_fin hb
  have e := own_sumU ea eb hq hr
  show _ ≤ zval b64 (val64 (dadd a b))
  rw [val64_dadd, ea, eb]
  refine zval_round_ge good_b64 (val64_fits V) hV (e0 := b64.qmin) (Int.le_refl _) (by omega) ?_
  rw [e, Int.sub_self]; simpa [own_z] using h
theorem own_divU {a b : UInt64} (ha : DFin a) (hb : DFin b) (na : 0 ≤ own_z a) (pb : 0 < own_z b) : ∃ (s : Bool) (c d : Nat) (q r : Int), val64 (ddiv a b) = roundRatio b64 s c d (q - r) ∧ 0 < d ∧ b64.qmin ≤ q ∧ b64.qmin ≤ r ∧ (inUnits c q b64.qmin : Int) = own_z a ∧ (inUnits d r b64.qmin : Int) = own_z b ∧ (s = false ∨ c = 0) := by
  obtain ⟨s, c, q, ea, hq⟩ := own_fin ha
  obtain ⟨t, d, r, eb, hr⟩ := own_fin hb
  have za : own_z a = signed s (inUnits c q b64.qmin) := by unfold own_z zval; rw [ea]; rfl
  have zb : own_z b = signed t (inUnits d r b64.qmin) := by unfold own_z zval; rw [eb]; rfl
  have pw : ∀ k : Nat, 0 < 2 ^ k := fun k => Nat.two_pow_pos k
  have ht : t = false := by
    cases t with
    | false => rfl
    | true => rw [zb] at pb; simp only [signed, if_true] at pb; omega
  subst ht
  have hd : 0 < d := by
    rcases Nat.eq_zero_or_pos d with h0 | h0
    · subst h0; rw [zb] at pb; simp [signed, inUnits] at pb
    · exact h0
  have zb' : (inUnits d r b64.qmin : Int) = own_z b := by rw [zb]; simp [signed]
  have hs : s = false ∨ c = 0 := by
    cases s with
    | false => exact Or.inl rfl
    | true =>
      right
      rw [za] at na; simp only [signed, if_true] at na
      have h0 : inUnits c q b64.qmin = 0 := by omega
      unfold inUnits at h0
      rcases Nat.mul_eq_zero.mp h0 with h1 | h1
      · exact h1
      · exact absurd h1 (Nat.ne_of_gt (pw _))
  have za' : (inUnits c q b64.qmin : Int) = own_z a := by
    rcases hs with rfl | rfl
    · rw [za]; simp [signed]
    · rw [za]; simp [inUnits, signed]
  refine ⟨s != false, c, d, q, r, ?_, hd, hq, hr, za', zb', ?_⟩
  · rw [val64_ddiv, ea, eb]
    show (if d = 0 then _ else _) = _
    rw [if_neg (Nat.ne_of_gt hd)]
  · rcases hs with rfl | rfl
    · exact Or.inl rfl
    · exact Or.inr rfl
theorem own_div_aux {c d : Nat} {q r : Int} (hq : b64.qmin ≤ q) (hr : b64.qmin ≤ r) : inUnits c (q - r) (2 * b64.qmin - r) = inUnits c q b64.qmin * one64 ∧ 2 ^ (b64.qmin - (2 * b64.qmin - r)).toNat * d = inUnits d r b64.qmin := by
  have hm := own_qmin
  constructor
  · have e1 : one64 = 2 ^ (-b64.qmin).toNat := by decide +kernel
    unfold inUnits
    have : (q - r - (2 * b64.qmin - r)).toNat = (q - b64.qmin).toNat + (-b64.qmin).toNat := by omega
    rw [e1, this, Nat.pow_add, Nat.mul_assoc]
  · unfold inUnits
    have : (b64.qmin - (2 * b64.qmin - r)).toNat = (r - b64.qmin).toNat := by omega
    rw [this, Nat.mul_comm]
theorem own_zq {s : Bool} {c d : Nat} {e : Int} (h : s = false ∨ c = 0) : zval b64 (roundRatio b64 s c d e) = (zmag b64 (roundRatio b64 s c d e) : Int) := by
  rcases h with rfl | rfl
  · unfold zval; rw [sgn_roundRatio]; simp [signed]
  · have : zmag b64 (roundRatio b64 s 0 d e) = 0 := by simp [roundRatio, zmag, inUnits]
    unfold zval; rw [this]; simp [signed]
theorem own_zV {V : UInt64} (vV : 0 ≤ own_z V) : (zmag b64 (val64 V) : Int) = own_z V := by
  unfold own_z zval at *
  cases hs : sgn (val64 V) with
  | false => simp [signed]
  | true => rw [hs] at vV; simp only [signed, if_true] at vV ⊢; omega
theorem own_div_le {a b V : UInt64} (ha : DFin a) (hb : DFin b) (na : 0 ≤ own_z a) (pb : 0 < own_z b) (hV : val64 V ≠ .nan) (vV : 0 ≤ own_z V) (h : own_z a * (one64 : Int) ≤ own_z V * own_z b) : own_z (FP.ddiv a b) ≤ own_z V := by
  obtain ⟨s, c, d, q, r, e, hd, hq, hr, za, zb, hs⟩ := own_divU ha hb na pb
  have hm := own_qmin
  obtain ⟨x1, x2⟩ := own_div_aux (c := c) (d := d) hq hr
  show zval b64 (val64 (ddiv a b)) ≤ _
  rw [e, own_zq hs, ← own_zV vV]
  have := zmag_roundRatio_le good_b64 (s := s) (A := c) (B := d) (e := q - r) (e0 := 2 * b64.qmin - r) hd (val64_fits V) hV (by omega) (by omega) (by
    rw [x1, Nat.mul_assoc, x2]
    have h' : ((inUnits c q b64.qmin * one64 : Nat) : Int) ≤ ((zmag b64 (val64 V) * inUnits d r b64.qmin : Nat) : Int) := by
      rw [Int.natCast_mul, Int.natCast_mul, za, zb, own_zV vV]; exact h
    exact Int.ofNat_le.mp h')
  exact Int.ofNat_le.mpr this
theorem own_div_ge {a b V : UInt64} (ha : DFin a) (hb : DFin b) (na : 0 ≤ own_z a) (pb : 0 < own_z b) (vV : 0 ≤ own_z V) (h : own_z V * own_z b ≤ own_z a * (one64 : Int)) : own_z V ≤ own_z (FP.ddiv a b) := by
  obtain ⟨s, c, d, q, r, e, hd, hq, hr, za, zb, hs⟩ := own_divU ha hb na pb
  have hm := own_qmin
  obtain ⟨x1, x2⟩ := own_div_aux (c := c) (d := d) hq hr
  show _ ≤ zval b64 (val64 (ddiv a b))
  rw [e, own_zq hs, ← own_zV vV]
  have := zmag_roundRatio_ge good_b64 (s := s) (A := c) (B := d) (e := q - r) (e0 := 2 * b64.qmin - r) hd (val64_fits V) (by omega) (by omega) (by
    rw [x1, Nat.mul_assoc, x2]
    have h' : ((zmag b64 (val64 V) * inUnits d r b64.qmin : Nat) : Int) ≤ ((inUnits c q b64.qmin * one64 : Nat) : Int) := by
      rw [Int.natCast_mul, Int.natCast_mul, za, zb, own_zV vV]; exact h
    exact Int.ofNat_le.mp h')
  exact Int.ofNat_le.mpr this
theorem own_dcmpz {a b : UInt64} (ha : Jvm.Free.Fl.NoNaN64 a) (hb : Jvm.Free.Fl.NoNaN64 b) : FP.dcmp a b = some (compare (own_z a) (own_z b)) := by
  show dcmp a b = _
  exact dcmp_zval ((notNaN_iff a).mp (Jvm.Free.Fl.noNaN64_no.mp ha)) ((notNaN_iff b).mp (Jvm.Free.Fl.noNaN64_no.mp hb))
theorem own_vn {a : UInt64} (ha : Jvm.Free.Fl.NoNaN64 a) : val64 a ≠ .nan := (notNaN_iff a).mp (Jvm.Free.Fl.noNaN64_no.mp ha)
theorem own_df {a : UInt64} (ha : Jvm.Free.Fl.Fin64 a) : DFin a := Jvm.Free.Fl.fin64_core.mp ha
end OwnFlt
end Jvm.RoadKit
namespace Jvm.Pilot.@@N@@
open Jvm Jvm.ClassFile Sem Op Lib Jvm.Free Jvm.Stand Jvm.LawKit Jvm.RoadKit Bundle Jvm.Pilot.@@N@@.Jvm.D
def own_Z (Z : State) (a0 : Array Value) : Prop := ∀ d ∈ tables_1, d.before a0 Z = true
theorem own_w0 {Z : State} {a0 : Array Value} (hw : own_Z Z a0) : (Jvm.Cond.constant "com/example/fuseplan/fuseplan/plan/BudgetAffordsPinLaw" (17 : Nat) (131071 : Int32)).before a0 Z = true := hw _ (List.mem_of_getElem? (i := 0) rfl)
theorem own_w1 {Z : State} {a0 : Array Value} (hw : own_Z Z a0) : (Jvm.Cond.classLink "com/example/fuseplan/fuseplan/plan/BudgetAffordsPinLaw" (18 : Nat) "com/example/fuseplan/fuseplan/plan/Budget").before a0 Z = true := hw _ (List.mem_of_getElem? (i := 1) rfl)
theorem own_w2 {Z : State} {a0 : Array Value} (hw : own_Z Z a0) : (Jvm.Cond.instantiable "com/example/fuseplan/fuseplan/plan/Budget" (3 : Nat)).before a0 Z = true := hw _ (List.mem_of_getElem? (i := 2) rfl)
theorem own_w3 {Z : State} {a0 : Array Value} (hw : own_Z Z a0) : (Jvm.Cond.initialized "com/example/fuseplan/fuseplan/plan/Budget").before a0 Z = true := hw _ (List.mem_of_getElem? (i := 3) rfl)
theorem own_w4 {Z : State} {a0 : Array Value} (hw : own_Z Z a0) : (Jvm.Cond.methodLink "com/example/fuseplan/fuseplan/plan/BudgetAffordsPinLaw" (20 : Nat) ({ cls := "com/example/fuseplan/fuseplan/plan/Budget", name := "<init>", desc := "()V" } : Jvm.MethodName)).before a0 Z = true := hw _ (List.mem_of_getElem? (i := 4) rfl)
theorem own_w5 {Z : State} {a0 : Array Value} (hw : own_Z Z a0) : (Jvm.Cond.instanceMethod ({ cls := "com/example/fuseplan/fuseplan/plan/Budget", name := "<init>", desc := "()V" } : Jvm.MethodName)).before a0 Z = true := hw _ (List.mem_of_getElem? (i := 5) rfl)
theorem own_w6 {Z : State} {a0 : Array Value} (hw : own_Z Z a0) : (Jvm.Cond.code ({ cls := "com/example/fuseplan/fuseplan/plan/Budget", name := "<init>", desc := "()V" } : Jvm.MethodName) prog_83_method_1_code (1 : Nat) (Option.none : Option Jvm.ClassFile.FieldType)).before a0 Z = true := hw _ (List.mem_of_getElem? (i := 6) rfl)
theorem own_w7 {Z : State} {a0 : Array Value} (hw : own_Z Z a0) : (Jvm.Cond.classLink "com/example/fuseplan/fuseplan/plan/Budget" (1 : Nat) "com/example/fuseplan/fuseplan/plan/Budget$Spent").before a0 Z = true := hw _ (List.mem_of_getElem? (i := 7) rfl)
theorem own_w8 {Z : State} {a0 : Array Value} (hw : own_Z Z a0) : (Jvm.Cond.instantiable "com/example/fuseplan/fuseplan/plan/Budget$Spent" (2 : Nat)).before a0 Z = true := hw _ (List.mem_of_getElem? (i := 8) rfl)
theorem own_w9 {Z : State} {a0 : Array Value} (hw : own_Z Z a0) : (Jvm.Cond.initialized "com/example/fuseplan/fuseplan/plan/Budget$Spent").before a0 Z = true := hw _ (List.mem_of_getElem? (i := 9) rfl)
theorem own_w10 {Z : State} {a0 : Array Value} (hw : own_Z Z a0) : (Jvm.Cond.methodRef "com/example/fuseplan/fuseplan/plan/Budget" (3 : Nat) ({ cls := "com/example/fuseplan/fuseplan/plan/Budget$Spent", name := "<init>", desc := "()V" } : Jvm.MethodName)).before a0 Z = true := hw _ (List.mem_of_getElem? (i := 10) rfl)
theorem own_w11 {Z : State} {a0 : Array Value} (hw : own_Z Z a0) : (Jvm.Cond.instanceMethod ({ cls := "com/example/fuseplan/fuseplan/plan/Budget$Spent", name := "<init>", desc := "()V" } : Jvm.MethodName)).before a0 Z = true := hw _ (List.mem_of_getElem? (i := 11) rfl)
theorem own_w12 {Z : State} {a0 : Array Value} (hw : own_Z Z a0) : (Jvm.Cond.code ({ cls := "com/example/fuseplan/fuseplan/plan/Budget$Spent", name := "<init>", desc := "()V" } : Jvm.MethodName) prog_84_method_1_code (1 : Nat) (Option.none : Option Jvm.ClassFile.FieldType)).before a0 Z = true := hw _ (List.mem_of_getElem? (i := 12) rfl)
theorem own_w13 {Z : State} {a0 : Array Value} (hw : own_Z Z a0) : (Jvm.Cond.methodLink "com/example/fuseplan/fuseplan/plan/Budget$Spent" (1 : Nat) ({ cls := "java/lang/Object", name := "<init>", desc := "()V" } : Jvm.MethodName)).before a0 Z = true := hw _ (List.mem_of_getElem? (i := 13) rfl)
theorem own_w14 {Z : State} {a0 : Array Value} (hw : own_Z Z a0) : (Jvm.Cond.instanceMethod ({ cls := "java/lang/Object", name := "<init>", desc := "()V" } : Jvm.MethodName)).before a0 Z = true := hw _ (List.mem_of_getElem? (i := 14) rfl)
theorem own_w15 {Z : State} {a0 : Array Value} (hw : own_Z Z a0) : (Jvm.Cond.code ({ cls := "java/lang/Object", name := "<init>", desc := "()V" } : Jvm.MethodName) object_method_1_code (1 : Nat) (Option.none : Option Jvm.ClassFile.FieldType)).before a0 Z = true := hw _ (List.mem_of_getElem? (i := 15) rfl)
theorem own_w16 {Z : State} {a0 : Array Value} (hw : own_Z Z a0) : (Jvm.Cond.constantLong "com/example/fuseplan/fuseplan/plan/Budget" (9 : Nat) (200000 : Int64)).before a0 Z = true := hw _ (List.mem_of_getElem? (i := 16) rfl)
theorem own_w17 {Z : State} {a0 : Array Value} (hw : own_Z Z a0) : (Jvm.Cond.methodLink "com/example/fuseplan/fuseplan/plan/Budget" (11 : Nat) ({ cls := "com/example/fuseplan/fuseplan/plan/Budget", name := "<init>", desc := "(Lcom/example/fuseplan/fuseplan/plan/Budget$Spent;IJ)V" } : Jvm.MethodName)).before a0 Z = true := hw _ (List.mem_of_getElem? (i := 17) rfl)
theorem own_w18 {Z : State} {a0 : Array Value} (hw : own_Z Z a0) : (Jvm.Cond.instanceMethod ({ cls := "com/example/fuseplan/fuseplan/plan/Budget", name := "<init>", desc := "(Lcom/example/fuseplan/fuseplan/plan/Budget$Spent;IJ)V" } : Jvm.MethodName)).before a0 Z = true := hw _ (List.mem_of_getElem? (i := 18) rfl)
theorem own_w19 {Z : State} {a0 : Array Value} (hw : own_Z Z a0) : (Jvm.Cond.code ({ cls := "com/example/fuseplan/fuseplan/plan/Budget", name := "<init>", desc := "(Lcom/example/fuseplan/fuseplan/plan/Budget$Spent;IJ)V" } : Jvm.MethodName) prog_83_method_2_code (5 : Nat) (Option.none : Option Jvm.ClassFile.FieldType)).before a0 Z = true := hw _ (List.mem_of_getElem? (i := 19) rfl)
theorem own_w20 {Z : State} {a0 : Array Value} (hw : own_Z Z a0) : (Jvm.Cond.methodLink "com/example/fuseplan/fuseplan/plan/Budget" (14 : Nat) ({ cls := "java/lang/Object", name := "<init>", desc := "()V" } : Jvm.MethodName)).before a0 Z = true := hw _ (List.mem_of_getElem? (i := 20) rfl)
theorem own_w21 {Z : State} {a0 : Array Value} (hw : own_Z Z a0) : (Jvm.Cond.fieldLink "com/example/fuseplan/fuseplan/plan/Budget" (17 : Nat) "com/example/fuseplan/fuseplan/plan/Budget" "spent" "Lcom/example/fuseplan/fuseplan/plan/Budget$Spent;").before a0 Z = true := hw _ (List.mem_of_getElem? (i := 21) rfl)
theorem own_w22 {Z : State} {a0 : Array Value} (hw : own_Z Z a0) : (Jvm.Cond.laysFinal "com/example/fuseplan/fuseplan/plan/Budget" "com/example/fuseplan/fuseplan/plan/Budget" "spent" "Lcom/example/fuseplan/fuseplan/plan/Budget$Spent;").before a0 Z = true := hw _ (List.mem_of_getElem? (i := 22) rfl)
theorem own_w23 {Z : State} {a0 : Array Value} (hw : own_Z Z a0) : (Jvm.Cond.fieldLink "com/example/fuseplan/fuseplan/plan/Budget" (21 : Nat) "com/example/fuseplan/fuseplan/plan/Budget" "plans" "I").before a0 Z = true := hw _ (List.mem_of_getElem? (i := 23) rfl)
theorem own_w24 {Z : State} {a0 : Array Value} (hw : own_Z Z a0) : (Jvm.Cond.laysFinal "com/example/fuseplan/fuseplan/plan/Budget" "com/example/fuseplan/fuseplan/plan/Budget" "plans" "I").before a0 Z = true := hw _ (List.mem_of_getElem? (i := 24) rfl)
theorem own_w25 {Z : State} {a0 : Array Value} (hw : own_Z Z a0) : (Jvm.Cond.fieldLink "com/example/fuseplan/fuseplan/plan/Budget" (25 : Nat) "com/example/fuseplan/fuseplan/plan/Budget" "work" "J").before a0 Z = true := hw _ (List.mem_of_getElem? (i := 25) rfl)
theorem own_w26 {Z : State} {a0 : Array Value} (hw : own_Z Z a0) : (Jvm.Cond.laysFinal "com/example/fuseplan/fuseplan/plan/Budget" "com/example/fuseplan/fuseplan/plan/Budget" "work" "J").before a0 Z = true := hw _ (List.mem_of_getElem? (i := 26) rfl)
theorem own_w27 {Z : State} {a0 : Array Value} (hw : own_Z Z a0) : (Jvm.Cond.methodLink "com/example/fuseplan/fuseplan/plan/BudgetAffordsPinLaw" (21 : Nat) ({ cls := "com/example/fuseplan/fuseplan/plan/Budget", name := "spend", desc := "(J)V" } : Jvm.MethodName)).before a0 Z = true := hw _ (List.mem_of_getElem? (i := 27) rfl)
theorem own_w28 {Z : State} {a0 : Array Value} (hw : own_Z Z a0) : (Jvm.Cond.declares ({ cls := "com/example/fuseplan/fuseplan/plan/Budget", name := "spend", desc := "(J)V" } : Jvm.MethodName)).before a0 Z = true := hw _ (List.mem_of_getElem? (i := 28) rfl)
theorem own_w29 {Z : State} {a0 : Array Value} (hw : own_Z Z a0) : (Jvm.Cond.instanceMethod ({ cls := "com/example/fuseplan/fuseplan/plan/Budget", name := "spend", desc := "(J)V" } : Jvm.MethodName)).before a0 Z = true := hw _ (List.mem_of_getElem? (i := 29) rfl)
theorem own_w30 {Z : State} {a0 : Array Value} (hw : own_Z Z a0) : (Jvm.Cond.selects "com/example/fuseplan/fuseplan/plan/Budget" ({ cls := "com/example/fuseplan/fuseplan/plan/Budget", name := "spend", desc := "(J)V" } : Jvm.MethodName) ({ cls := "com/example/fuseplan/fuseplan/plan/Budget", name := "spend", desc := "(J)V" } : Jvm.MethodName)).before a0 Z = true := hw _ (List.mem_of_getElem? (i := 30) rfl)
theorem own_w31 {Z : State} {a0 : Array Value} (hw : own_Z Z a0) : (Jvm.Cond.code ({ cls := "com/example/fuseplan/fuseplan/plan/Budget", name := "spend", desc := "(J)V" } : Jvm.MethodName) prog_83_method_6_code (3 : Nat) (Option.none : Option Jvm.ClassFile.FieldType)).before a0 Z = true := hw _ (List.mem_of_getElem? (i := 31) rfl)
theorem own_w32 {Z : State} {a0 : Array Value} (hw : own_Z Z a0) : (Jvm.Cond.fieldRef "com/example/fuseplan/fuseplan/plan/Budget" (29 : Nat) "com/example/fuseplan/fuseplan/plan/Budget$Spent" "plans" "I").before a0 Z = true := hw _ (List.mem_of_getElem? (i := 32) rfl)
theorem own_w33 {Z : State} {a0 : Array Value} (hw : own_Z Z a0) : (Jvm.Cond.lays "com/example/fuseplan/fuseplan/plan/Budget$Spent" "com/example/fuseplan/fuseplan/plan/Budget$Spent" "plans" "I").before a0 Z = true := hw _ (List.mem_of_getElem? (i := 33) rfl)
theorem own_w34 {Z : State} {a0 : Array Value} (hw : own_Z Z a0) : (Jvm.Cond.fieldRef "com/example/fuseplan/fuseplan/plan/Budget" (30 : Nat) "com/example/fuseplan/fuseplan/plan/Budget$Spent" "work" "J").before a0 Z = true := hw _ (List.mem_of_getElem? (i := 34) rfl)
theorem own_w35 {Z : State} {a0 : Array Value} (hw : own_Z Z a0) : (Jvm.Cond.lays "com/example/fuseplan/fuseplan/plan/Budget$Spent" "com/example/fuseplan/fuseplan/plan/Budget$Spent" "work" "J").before a0 Z = true := hw _ (List.mem_of_getElem? (i := 35) rfl)
theorem own_w36 {Z : State} {a0 : Array Value} (hw : own_Z Z a0) : (Jvm.Cond.constantLong "com/example/fuseplan/fuseplan/plan/BudgetAffordsPinLaw" (25 : Nat) (3000 : Int64)).before a0 Z = true := hw _ (List.mem_of_getElem? (i := 36) rfl)
theorem own_w37 {Z : State} {a0 : Array Value} (hw : own_Z Z a0) : (Jvm.Cond.constantLong "com/example/fuseplan/fuseplan/plan/BudgetAffordsPinLaw" (27 : Nat) (200000 : Int64)).before a0 Z = true := hw _ (List.mem_of_getElem? (i := 37) rfl)
theorem own_w38 {Z : State} {a0 : Array Value} (hw : own_Z Z a0) : (Jvm.Cond.methodLink "com/example/fuseplan/fuseplan/plan/BudgetAffordsPinLaw" (35 : Nat) ({ cls := "com/example/fuseplan/fuseplan/plan/BudgetAffordsPinLaw", name := "productAtMost", desc := "(JJJ)Z" } : Jvm.MethodName)).before a0 Z = true := hw _ (List.mem_of_getElem? (i := 38) rfl)
theorem own_w39 {Z : State} {a0 : Array Value} (hw : own_Z Z a0) : (Jvm.Cond.static ({ cls := "com/example/fuseplan/fuseplan/plan/BudgetAffordsPinLaw", name := "productAtMost", desc := "(JJJ)Z" } : Jvm.MethodName)).before a0 Z = true := hw _ (List.mem_of_getElem? (i := 39) rfl)
theorem own_w40 {Z : State} {a0 : Array Value} (hw : own_Z Z a0) : (Jvm.Cond.initialized "com/example/fuseplan/fuseplan/plan/BudgetAffordsPinLaw").before a0 Z = true := hw _ (List.mem_of_getElem? (i := 40) rfl)
theorem own_w41 {Z : State} {a0 : Array Value} (hw : own_Z Z a0) : (Jvm.Cond.code ({ cls := "com/example/fuseplan/fuseplan/plan/BudgetAffordsPinLaw", name := "productAtMost", desc := "(JJJ)Z" } : Jvm.MethodName) method_2_code (11 : Nat) (Option.some Jvm.ClassFile.FieldType.boolean)).before a0 Z = true := hw _ (List.mem_of_getElem? (i := 41) rfl)
theorem own_w42 {Z : State} {a0 : Array Value} (hw : own_Z Z a0) : (Jvm.Cond.constantLong "com/example/fuseplan/fuseplan/plan/BudgetAffordsPinLaw" (9 : Nat) (-9223372036854775808 : Int64)).before a0 Z = true := hw _ (List.mem_of_getElem? (i := 42) rfl)
theorem own_w43 {Z : State} {a0 : Array Value} (hw : own_Z Z a0) : (Jvm.Cond.methodLink "com/example/fuseplan/fuseplan/plan/BudgetAffordsPinLaw" (11 : Nat) ({ cls := "java/lang/Math", name := "abs", desc := "(J)J" } : Jvm.MethodName)).before a0 Z = true := hw _ (List.mem_of_getElem? (i := 43) rfl)
theorem own_w44 {Z : State} {a0 : Array Value} (hw : own_Z Z a0) : (Jvm.Cond.static ({ cls := "java/lang/Math", name := "abs", desc := "(J)J" } : Jvm.MethodName)).before a0 Z = true := hw _ (List.mem_of_getElem? (i := 44) rfl)
theorem own_w45 {Z : State} {a0 : Array Value} (hw : own_Z Z a0) : (Jvm.Cond.initialized "java/lang/Math").before a0 Z = true := hw _ (List.mem_of_getElem? (i := 45) rfl)
theorem own_w46 {Z : State} {a0 : Array Value} (hw : own_Z Z a0) : (Jvm.Cond.code ({ cls := "java/lang/Math", name := "abs", desc := "(J)J" } : Jvm.MethodName) jdk_29_method_61_code (2 : Nat) (Option.some Jvm.ClassFile.FieldType.long)).before a0 Z = true := hw _ (List.mem_of_getElem? (i := 46) rfl)
theorem own_w47 {Z : State} {a0 : Array Value} (hw : own_Z Z a0) : (Jvm.Cond.methodLink "com/example/fuseplan/fuseplan/plan/BudgetAffordsPinLaw" (41 : Nat) ({ cls := "com/example/fuseplan/fuseplan/plan/Budget", name := "affords", desc := "(JJ)Z" } : Jvm.MethodName)).before a0 Z = true := hw _ (List.mem_of_getElem? (i := 47) rfl)
theorem own_w48 {Z : State} {a0 : Array Value} (hw : own_Z Z a0) : (Jvm.Cond.declares ({ cls := "com/example/fuseplan/fuseplan/plan/Budget", name := "affords", desc := "(JJ)Z" } : Jvm.MethodName)).before a0 Z = true := hw _ (List.mem_of_getElem? (i := 48) rfl)
theorem own_w49 {Z : State} {a0 : Array Value} (hw : own_Z Z a0) : (Jvm.Cond.instanceMethod ({ cls := "com/example/fuseplan/fuseplan/plan/Budget", name := "affords", desc := "(JJ)Z" } : Jvm.MethodName)).before a0 Z = true := hw _ (List.mem_of_getElem? (i := 49) rfl)
theorem own_w50 {Z : State} {a0 : Array Value} (hw : own_Z Z a0) : (Jvm.Cond.selects "com/example/fuseplan/fuseplan/plan/Budget" ({ cls := "com/example/fuseplan/fuseplan/plan/Budget", name := "affords", desc := "(JJ)Z" } : Jvm.MethodName) ({ cls := "com/example/fuseplan/fuseplan/plan/Budget", name := "affords", desc := "(JJ)Z" } : Jvm.MethodName)).before a0 Z = true := hw _ (List.mem_of_getElem? (i := 50) rfl)
theorem own_w51 {Z : State} {a0 : Array Value} (hw : own_Z Z a0) : (Jvm.Cond.code ({ cls := "com/example/fuseplan/fuseplan/plan/Budget", name := "affords", desc := "(JJ)Z" } : Jvm.MethodName) prog_83_method_5_code (5 : Nat) (Option.some Jvm.ClassFile.FieldType.boolean)).before a0 Z = true := hw _ (List.mem_of_getElem? (i := 51) rfl)
theorem own_w52 {Z : State} {a0 : Array Value} (hw : own_Z Z a0) : (Jvm.Cond.methodLink "com/example/fuseplan/fuseplan/plan/BudgetAffordsPinLaw" (29 : Nat) ({ cls := "com/example/fuseplan/fuseplan/plan/Budget", name := "halfOfRest", desc := "()Lcom/example/fuseplan/fuseplan/plan/Budget;" } : Jvm.MethodName)).before a0 Z = true := hw _ (List.mem_of_getElem? (i := 52) rfl)
theorem own_w53 {Z : State} {a0 : Array Value} (hw : own_Z Z a0) : (Jvm.Cond.declares ({ cls := "com/example/fuseplan/fuseplan/plan/Budget", name := "halfOfRest", desc := "()Lcom/example/fuseplan/fuseplan/plan/Budget;" } : Jvm.MethodName)).before a0 Z = true := hw _ (List.mem_of_getElem? (i := 53) rfl)
theorem own_w54 {Z : State} {a0 : Array Value} (hw : own_Z Z a0) : (Jvm.Cond.instanceMethod ({ cls := "com/example/fuseplan/fuseplan/plan/Budget", name := "halfOfRest", desc := "()Lcom/example/fuseplan/fuseplan/plan/Budget;" } : Jvm.MethodName)).before a0 Z = true := hw _ (List.mem_of_getElem? (i := 54) rfl)
theorem own_w55 {Z : State} {a0 : Array Value} (hw : own_Z Z a0) : (Jvm.Cond.selects "com/example/fuseplan/fuseplan/plan/Budget" ({ cls := "com/example/fuseplan/fuseplan/plan/Budget", name := "halfOfRest", desc := "()Lcom/example/fuseplan/fuseplan/plan/Budget;" } : Jvm.MethodName) ({ cls := "com/example/fuseplan/fuseplan/plan/Budget", name := "halfOfRest", desc := "()Lcom/example/fuseplan/fuseplan/plan/Budget;" } : Jvm.MethodName)).before a0 Z = true := hw _ (List.mem_of_getElem? (i := 55) rfl)
theorem own_w56 {Z : State} {a0 : Array Value} (hw : own_Z Z a0) : (Jvm.Cond.code ({ cls := "com/example/fuseplan/fuseplan/plan/Budget", name := "halfOfRest", desc := "()Lcom/example/fuseplan/fuseplan/plan/Budget;" } : Jvm.MethodName) prog_83_method_3_code (1 : Nat) (Option.some (Jvm.ClassFile.FieldType.object "com/example/fuseplan/fuseplan/plan/Budget"))).before a0 Z = true := hw _ (List.mem_of_getElem? (i := 56) rfl)
theorem own_w57 {Z : State} {a0 : Array Value} (hw : own_Z Z a0) : (Jvm.Cond.classLink "com/example/fuseplan/fuseplan/plan/Budget" (7 : Nat) "com/example/fuseplan/fuseplan/plan/Budget").before a0 Z = true := hw _ (List.mem_of_getElem? (i := 57) rfl)
theorem own_w58 {Z : State} {a0 : Array Value} (hw : own_Z Z a0) : (Jvm.Cond.constantLong "com/example/fuseplan/fuseplan/plan/Budget" (31 : Nat) (2 : Int64)).before a0 Z = true := hw _ (List.mem_of_getElem? (i := 58) rfl)
theorem own_w59 {Z : State} {a0 : Array Value} (hw : own_Z Z a0) : (Jvm.Cond.constantLong "com/example/fuseplan/fuseplan/plan/BudgetAffordsPinLaw" (33 : Nat) (2 : Int64)).before a0 Z = true := hw _ (List.mem_of_getElem? (i := 59) rfl)
theorem own_d0_0 : own_D prog_84_method_1_code 0 (.aload_n 0) 1 1 := ⟨by decide +kernel, rfl⟩
theorem own_d0_1 : own_D prog_84_method_1_code 1 (.invokespecial 1) 3 4 := ⟨by decide +kernel, rfl⟩
theorem own_d0_4 : own_D prog_84_method_1_code 4 (.return_) 1 5 := ⟨by decide +kernel, rfl⟩
theorem own_d1_0 : own_D prog_83_method_2_code 0 (.aload_n 0) 1 1 := ⟨by decide +kernel, rfl⟩
theorem own_d1_1 : own_D prog_83_method_2_code 1 (.invokespecial 14) 3 4 := ⟨by decide +kernel, rfl⟩
theorem own_d1_4 : own_D prog_83_method_2_code 4 (.aload_n 0) 1 5 := ⟨by decide +kernel, rfl⟩
theorem own_d1_5 : own_D prog_83_method_2_code 5 (.aload_n 1) 1 6 := ⟨by decide +kernel, rfl⟩
theorem own_d1_6 : own_D prog_83_method_2_code 6 (.putfield 17) 3 9 := ⟨by decide +kernel, rfl⟩
theorem own_d1_9 : own_D prog_83_method_2_code 9 (.aload_n 0) 1 10 := ⟨by decide +kernel, rfl⟩
theorem own_d1_10 : own_D prog_83_method_2_code 10 (.iload_n 2) 1 11 := ⟨by decide +kernel, rfl⟩
theorem own_d1_11 : own_D prog_83_method_2_code 11 (.putfield 21) 3 14 := ⟨by decide +kernel, rfl⟩
theorem own_d1_14 : own_D prog_83_method_2_code 14 (.aload_n 0) 1 15 := ⟨by decide +kernel, rfl⟩
theorem own_d1_15 : own_D prog_83_method_2_code 15 (.lload_n 3) 1 16 := ⟨by decide +kernel, rfl⟩
theorem own_d1_16 : own_D prog_83_method_2_code 16 (.putfield 25) 3 19 := ⟨by decide +kernel, rfl⟩
theorem own_d1_19 : own_D prog_83_method_2_code 19 (.return_) 1 20 := ⟨by decide +kernel, rfl⟩
theorem own_d2_0 : own_D prog_83_method_1_code 0 (.aload_n 0) 1 1 := ⟨by decide +kernel, rfl⟩
theorem own_d2_1 : own_D prog_83_method_1_code 1 (.new 1) 3 4 := ⟨by decide +kernel, rfl⟩
theorem own_d2_4 : own_D prog_83_method_1_code 4 (.dup) 1 5 := ⟨by decide +kernel, rfl⟩
theorem own_d2_5 : own_D prog_83_method_1_code 5 (.invokespecial 3) 3 8 := ⟨by decide +kernel, rfl⟩
theorem own_d2_8 : own_D prog_83_method_1_code 8 (.sipush 3000) 3 11 := ⟨by decide +kernel, rfl⟩
theorem own_d2_11 : own_D prog_83_method_1_code 11 (.ldc2_w 9) 3 14 := ⟨by decide +kernel, rfl⟩
theorem own_d2_14 : own_D prog_83_method_1_code 14 (.invokespecial 11) 3 17 := ⟨by decide +kernel, rfl⟩
theorem own_d2_17 : own_D prog_83_method_1_code 17 (.return_) 1 18 := ⟨by decide +kernel, rfl⟩
theorem own_d3_0 : own_D prog_83_method_6_code 0 (.aload_n 0) 1 1 := ⟨by decide +kernel, rfl⟩
theorem own_d3_1 : own_D prog_83_method_6_code 1 (.getfield 17) 3 4 := ⟨by decide +kernel, rfl⟩
theorem own_d3_4 : own_D prog_83_method_6_code 4 (.dup) 1 5 := ⟨by decide +kernel, rfl⟩
theorem own_d3_5 : own_D prog_83_method_6_code 5 (.getfield 29) 3 8 := ⟨by decide +kernel, rfl⟩
theorem own_d3_8 : own_D prog_83_method_6_code 8 (.iconst 1) 1 9 := ⟨by decide +kernel, rfl⟩
theorem own_d3_9 : own_D prog_83_method_6_code 9 (.iadd) 1 10 := ⟨by decide +kernel, rfl⟩
theorem own_d3_10 : own_D prog_83_method_6_code 10 (.putfield 29) 3 13 := ⟨by decide +kernel, rfl⟩
theorem own_d3_13 : own_D prog_83_method_6_code 13 (.aload_n 0) 1 14 := ⟨by decide +kernel, rfl⟩
theorem own_d3_14 : own_D prog_83_method_6_code 14 (.getfield 17) 3 17 := ⟨by decide +kernel, rfl⟩
theorem own_d3_17 : own_D prog_83_method_6_code 17 (.dup) 1 18 := ⟨by decide +kernel, rfl⟩
theorem own_d3_18 : own_D prog_83_method_6_code 18 (.getfield 30) 3 21 := ⟨by decide +kernel, rfl⟩
theorem own_d3_21 : own_D prog_83_method_6_code 21 (.lload_n 1) 1 22 := ⟨by decide +kernel, rfl⟩
theorem own_d3_22 : own_D prog_83_method_6_code 22 (.ladd) 1 23 := ⟨by decide +kernel, rfl⟩
theorem own_d3_23 : own_D prog_83_method_6_code 23 (.putfield 30) 3 26 := ⟨by decide +kernel, rfl⟩
theorem own_d3_26 : own_D prog_83_method_6_code 26 (.return_) 1 27 := ⟨by decide +kernel, rfl⟩
theorem own_d4_0 : own_D prog_83_method_3_code 0 (.new 7) 3 3 := ⟨by decide +kernel, rfl⟩
theorem own_d4_3 : own_D prog_83_method_3_code 3 (.dup) 1 4 := ⟨by decide +kernel, rfl⟩
theorem own_d4_4 : own_D prog_83_method_3_code 4 (.aload_n 0) 1 5 := ⟨by decide +kernel, rfl⟩
theorem own_d4_5 : own_D prog_83_method_3_code 5 (.getfield 17) 3 8 := ⟨by decide +kernel, rfl⟩
theorem own_d4_8 : own_D prog_83_method_3_code 8 (.aload_n 0) 1 9 := ⟨by decide +kernel, rfl⟩
theorem own_d4_9 : own_D prog_83_method_3_code 9 (.getfield 17) 3 12 := ⟨by decide +kernel, rfl⟩
theorem own_d4_12 : own_D prog_83_method_3_code 12 (.getfield 29) 3 15 := ⟨by decide +kernel, rfl⟩
theorem own_d4_15 : own_D prog_83_method_3_code 15 (.aload_n 0) 1 16 := ⟨by decide +kernel, rfl⟩
theorem own_d4_16 : own_D prog_83_method_3_code 16 (.getfield 21) 3 19 := ⟨by decide +kernel, rfl⟩
theorem own_d4_19 : own_D prog_83_method_3_code 19 (.aload_n 0) 1 20 := ⟨by decide +kernel, rfl⟩
theorem own_d4_20 : own_D prog_83_method_3_code 20 (.getfield 17) 3 23 := ⟨by decide +kernel, rfl⟩
theorem own_d4_23 : own_D prog_83_method_3_code 23 (.getfield 29) 3 26 := ⟨by decide +kernel, rfl⟩
theorem own_d4_26 : own_D prog_83_method_3_code 26 (.isub) 1 27 := ⟨by decide +kernel, rfl⟩
theorem own_d4_27 : own_D prog_83_method_3_code 27 (.iconst 2) 1 28 := ⟨by decide +kernel, rfl⟩
theorem own_d4_28 : own_D prog_83_method_3_code 28 (.idiv) 1 29 := ⟨by decide +kernel, rfl⟩
theorem own_d4_29 : own_D prog_83_method_3_code 29 (.iadd) 1 30 := ⟨by decide +kernel, rfl⟩
theorem own_d4_30 : own_D prog_83_method_3_code 30 (.aload_n 0) 1 31 := ⟨by decide +kernel, rfl⟩
theorem own_d4_31 : own_D prog_83_method_3_code 31 (.getfield 17) 3 34 := ⟨by decide +kernel, rfl⟩
theorem own_d4_34 : own_D prog_83_method_3_code 34 (.getfield 30) 3 37 := ⟨by decide +kernel, rfl⟩
theorem own_d4_37 : own_D prog_83_method_3_code 37 (.aload_n 0) 1 38 := ⟨by decide +kernel, rfl⟩
theorem own_d4_38 : own_D prog_83_method_3_code 38 (.getfield 25) 3 41 := ⟨by decide +kernel, rfl⟩
theorem own_d4_41 : own_D prog_83_method_3_code 41 (.aload_n 0) 1 42 := ⟨by decide +kernel, rfl⟩
theorem own_d4_42 : own_D prog_83_method_3_code 42 (.getfield 17) 3 45 := ⟨by decide +kernel, rfl⟩
theorem own_d4_45 : own_D prog_83_method_3_code 45 (.getfield 30) 3 48 := ⟨by decide +kernel, rfl⟩
theorem own_d4_48 : own_D prog_83_method_3_code 48 (.lsub) 1 49 := ⟨by decide +kernel, rfl⟩
theorem own_d4_49 : own_D prog_83_method_3_code 49 (.ldc2_w 31) 3 52 := ⟨by decide +kernel, rfl⟩
theorem own_d4_52 : own_D prog_83_method_3_code 52 (.ldiv) 1 53 := ⟨by decide +kernel, rfl⟩
theorem own_d4_53 : own_D prog_83_method_3_code 53 (.ladd) 1 54 := ⟨by decide +kernel, rfl⟩
theorem own_d4_54 : own_D prog_83_method_3_code 54 (.invokespecial 11) 3 57 := ⟨by decide +kernel, rfl⟩
theorem own_d4_57 : own_D prog_83_method_3_code 57 (.areturn) 1 58 := ⟨by decide +kernel, rfl⟩
theorem own_d5_0 : own_D prog_83_method_5_code 0 (.lload_n 1) 1 1 := ⟨by decide +kernel, rfl⟩
theorem own_d5_1 : own_D prog_83_method_5_code 1 (.aload_n 0) 1 2 := ⟨by decide +kernel, rfl⟩
theorem own_d5_2 : own_D prog_83_method_5_code 2 (.getfield 21) 3 5 := ⟨by decide +kernel, rfl⟩
theorem own_d5_5 : own_D prog_83_method_5_code 5 (.aload_n 0) 1 6 := ⟨by decide +kernel, rfl⟩
theorem own_d5_6 : own_D prog_83_method_5_code 6 (.getfield 17) 3 9 := ⟨by decide +kernel, rfl⟩
theorem own_d5_9 : own_D prog_83_method_5_code 9 (.getfield 29) 3 12 := ⟨by decide +kernel, rfl⟩
theorem own_d5_12 : own_D prog_83_method_5_code 12 (.isub) 1 13 := ⟨by decide +kernel, rfl⟩
theorem own_d5_13 : own_D prog_83_method_5_code 13 (.i2l) 1 14 := ⟨by decide +kernel, rfl⟩
theorem own_d5_14 : own_D prog_83_method_5_code 14 (.lcmp) 1 15 := ⟨by decide +kernel, rfl⟩
theorem own_d5_15 : own_B prog_83_method_5_code 15 (.ifCond .gt 29) 29 18 44 := ⟨by decide +kernel, rfl, by decide, by decide⟩
theorem own_d5_44 : own_D prog_83_method_5_code 44 (.iconst 0) 1 45 := ⟨by decide +kernel, rfl⟩
theorem own_d5_45 : own_D prog_83_method_5_code 45 (.ireturn) 1 46 := ⟨by decide +kernel, rfl⟩
theorem own_d5_18 : own_D prog_83_method_5_code 18 (.lload_n 1) 1 19 := ⟨by decide +kernel, rfl⟩
theorem own_d5_19 : own_D prog_83_method_5_code 19 (.l2d) 1 20 := ⟨by decide +kernel, rfl⟩
theorem own_d5_20 : own_D prog_83_method_5_code 20 (.lload_n 3) 1 21 := ⟨by decide +kernel, rfl⟩
theorem own_d5_21 : own_D prog_83_method_5_code 21 (.l2d) 1 22 := ⟨by decide +kernel, rfl⟩
theorem own_d5_22 : own_D prog_83_method_5_code 22 (.dmul) 1 23 := ⟨by decide +kernel, rfl⟩
theorem own_d5_23 : own_D prog_83_method_5_code 23 (.aload_n 0) 1 24 := ⟨by decide +kernel, rfl⟩
theorem own_d5_24 : own_D prog_83_method_5_code 24 (.getfield 25) 3 27 := ⟨by decide +kernel, rfl⟩
theorem own_d5_27 : own_D prog_83_method_5_code 27 (.aload_n 0) 1 28 := ⟨by decide +kernel, rfl⟩
theorem own_d5_28 : own_D prog_83_method_5_code 28 (.getfield 17) 3 31 := ⟨by decide +kernel, rfl⟩
theorem own_d5_31 : own_D prog_83_method_5_code 31 (.getfield 30) 3 34 := ⟨by decide +kernel, rfl⟩
theorem own_d5_34 : own_D prog_83_method_5_code 34 (.lsub) 1 35 := ⟨by decide +kernel, rfl⟩
theorem own_d5_35 : own_D prog_83_method_5_code 35 (.l2d) 1 36 := ⟨by decide +kernel, rfl⟩
theorem own_d5_36 : own_D prog_83_method_5_code 36 (.dcmp .g) 1 37 := ⟨by decide +kernel, rfl⟩
theorem own_d5_37 : own_B prog_83_method_5_code 37 (.ifCond .gt 7) 7 40 44 := ⟨by decide +kernel, rfl, by decide, by decide⟩
theorem own_d5_40 : own_D prog_83_method_5_code 40 (.iconst 1) 1 41 := ⟨by decide +kernel, rfl⟩
theorem own_d5_41 : own_B prog_83_method_5_code 41 (.goto 4) 4 44 45 := ⟨by decide +kernel, rfl, by decide, by decide⟩
theorem own_d6_0 : own_D jdk_29_method_61_code 0 (.lload_n 0) 1 1 := ⟨by decide +kernel, rfl⟩
theorem own_d6_1 : own_D jdk_29_method_61_code 1 (.lconst 0) 1 2 := ⟨by decide +kernel, rfl⟩
theorem own_d6_2 : own_D jdk_29_method_61_code 2 (.lcmp) 1 3 := ⟨by decide +kernel, rfl⟩
theorem own_d6_3 : own_B jdk_29_method_61_code 3 (.ifCond .ge 8) 8 6 11 := ⟨by decide +kernel, rfl, by decide, by decide⟩
theorem own_d6_11 : own_D jdk_29_method_61_code 11 (.lload_n 0) 1 12 := ⟨by decide +kernel, rfl⟩
theorem own_d6_12 : own_D jdk_29_method_61_code 12 (.lreturn) 1 13 := ⟨by decide +kernel, rfl⟩
theorem own_d6_6 : own_D jdk_29_method_61_code 6 (.lload_n 0) 1 7 := ⟨by decide +kernel, rfl⟩
theorem own_d6_7 : own_D jdk_29_method_61_code 7 (.lneg) 1 8 := ⟨by decide +kernel, rfl⟩
theorem own_d6_8 : own_B jdk_29_method_61_code 8 (.goto 4) 4 11 12 := ⟨by decide +kernel, rfl, by decide, by decide⟩
theorem own_d7_0 : own_D method_2_code 0 (.lload_n 0) 1 1 := ⟨by decide +kernel, rfl⟩
theorem own_d7_1 : own_D method_2_code 1 (.lconst 0) 1 2 := ⟨by decide +kernel, rfl⟩
theorem own_d7_2 : own_D method_2_code 2 (.lcmp) 1 3 := ⟨by decide +kernel, rfl⟩
theorem own_d7_3 : own_B method_2_code 3 (.ifCond .eq 9) 9 6 12 := ⟨by decide +kernel, rfl, by decide, by decide⟩
theorem own_d7_12 : own_D method_2_code 12 (.lload 4) 2 14 := ⟨by decide +kernel, rfl⟩
theorem own_d7_14 : own_D method_2_code 14 (.lconst 0) 1 15 := ⟨by decide +kernel, rfl⟩
theorem own_d7_15 : own_D method_2_code 15 (.lcmp) 1 16 := ⟨by decide +kernel, rfl⟩
theorem own_d7_16 : own_B method_2_code 16 (.ifCond .lt 7) 7 19 23 := ⟨by decide +kernel, rfl, by decide, by decide⟩
theorem own_d7_23 : own_D method_2_code 23 (.iconst 0) 1 24 := ⟨by decide +kernel, rfl⟩
theorem own_d7_24 : own_D method_2_code 24 (.ireturn) 1 25 := ⟨by decide +kernel, rfl⟩
theorem own_d7_19 : own_D method_2_code 19 (.iconst 1) 1 20 := ⟨by decide +kernel, rfl⟩
theorem own_d7_20 : own_B method_2_code 20 (.goto 4) 4 23 24 := ⟨by decide +kernel, rfl, by decide, by decide⟩
theorem own_d7_6 : own_D method_2_code 6 (.lload_n 2) 1 7 := ⟨by decide +kernel, rfl⟩
theorem own_d7_7 : own_D method_2_code 7 (.lconst 0) 1 8 := ⟨by decide +kernel, rfl⟩
theorem own_d7_8 : own_D method_2_code 8 (.lcmp) 1 9 := ⟨by decide +kernel, rfl⟩
theorem own_d7_9 : own_B method_2_code 9 (.ifCond .ne 16) 16 12 25 := ⟨by decide +kernel, rfl, by decide, by decide⟩
theorem own_d7_25 : own_D method_2_code 25 (.lload_n 0) 1 26 := ⟨by decide +kernel, rfl⟩
theorem own_d7_26 : own_D method_2_code 26 (.lconst 0) 1 27 := ⟨by decide +kernel, rfl⟩
theorem own_d7_27 : own_D method_2_code 27 (.lcmp) 1 28 := ⟨by decide +kernel, rfl⟩
theorem own_d7_28 : own_B method_2_code 28 (.ifCond .ge 7) 7 31 35 := ⟨by decide +kernel, rfl, by decide, by decide⟩
theorem own_d7_35 : own_D method_2_code 35 (.iconst 0) 1 36 := ⟨by decide +kernel, rfl⟩
theorem own_d7_36 : own_D method_2_code 36 (.lload_n 2) 1 37 := ⟨by decide +kernel, rfl⟩
theorem own_d7_37 : own_D method_2_code 37 (.lconst 0) 1 38 := ⟨by decide +kernel, rfl⟩
theorem own_d7_38 : own_D method_2_code 38 (.lcmp) 1 39 := ⟨by decide +kernel, rfl⟩
theorem own_d7_39 : own_B method_2_code 39 (.ifCond .ge 7) 7 42 46 := ⟨by decide +kernel, rfl, by decide, by decide⟩
theorem own_d7_46 : own_D method_2_code 46 (.iconst 0) 1 47 := ⟨by decide +kernel, rfl⟩
theorem own_d7_47 : own_B method_2_code 47 (.if_icmp .eq 7) 7 50 54 := ⟨by decide +kernel, rfl, by decide, by decide⟩
theorem own_d7_54 : own_D method_2_code 54 (.iconst 0) 1 55 := ⟨by decide +kernel, rfl⟩
theorem own_d7_55 : own_D method_2_code 55 (.istore 6) 2 57 := ⟨by decide +kernel, rfl⟩
theorem own_d7_57 : own_D method_2_code 57 (.lload_n 0) 1 58 := ⟨by decide +kernel, rfl⟩
theorem own_d7_58 : own_D method_2_code 58 (.ldc2_w 9) 3 61 := ⟨by decide +kernel, rfl⟩
theorem own_d7_61 : own_D method_2_code 61 (.lcmp) 1 62 := ⟨by decide +kernel, rfl⟩
theorem own_d7_62 : own_B method_2_code 62 (.ifCond .eq 11) 11 65 73 := ⟨by decide +kernel, rfl, by decide, by decide⟩
theorem own_d7_73 : own_D method_2_code 73 (.iload 6) 2 75 := ⟨by decide +kernel, rfl⟩
theorem own_d7_75 : own_D method_2_code 75 (.ireturn) 1 76 := ⟨by decide +kernel, rfl⟩
theorem own_d7_65 : own_D method_2_code 65 (.lload_n 2) 1 66 := ⟨by decide +kernel, rfl⟩
theorem own_d7_66 : own_D method_2_code 66 (.ldc2_w 9) 3 69 := ⟨by decide +kernel, rfl⟩
theorem own_d7_69 : own_D method_2_code 69 (.lcmp) 1 70 := ⟨by decide +kernel, rfl⟩
theorem own_d7_70 : own_B method_2_code 70 (.ifCond .ne 6) 6 73 76 := ⟨by decide +kernel, rfl, by decide, by decide⟩
theorem own_d7_76 : own_D method_2_code 76 (.lload_n 0) 1 77 := ⟨by decide +kernel, rfl⟩
theorem own_d7_77 : own_D method_2_code 77 (.invokestatic 11) 3 80 := ⟨by decide +kernel, rfl⟩
theorem own_d7_80 : own_D method_2_code 80 (.lstore 7) 2 82 := ⟨by decide +kernel, rfl⟩
theorem own_d7_82 : own_D method_2_code 82 (.lload_n 2) 1 83 := ⟨by decide +kernel, rfl⟩
theorem own_d7_83 : own_D method_2_code 83 (.invokestatic 11) 3 86 := ⟨by decide +kernel, rfl⟩
theorem own_d7_86 : own_D method_2_code 86 (.lstore 9) 2 88 := ⟨by decide +kernel, rfl⟩
theorem own_d7_88 : own_D method_2_code 88 (.iload 6) 2 90 := ⟨by decide +kernel, rfl⟩
theorem own_d7_90 : own_B method_2_code 90 (.ifCond .eq 32) 32 93 122 := ⟨by decide +kernel, rfl, by decide, by decide⟩
theorem own_d7_122 : own_D method_2_code 122 (.lload 4) 2 124 := ⟨by decide +kernel, rfl⟩
theorem own_d7_124 : own_D method_2_code 124 (.lconst 1) 1 125 := ⟨by decide +kernel, rfl⟩
theorem own_d7_125 : own_D method_2_code 125 (.lcmp) 1 126 := ⟨by decide +kernel, rfl⟩
theorem own_d7_126 : own_B method_2_code 126 (.ifCond .ge 5) 5 129 131 := ⟨by decide +kernel, rfl, by decide, by decide⟩
theorem own_d7_131 : own_D method_2_code 131 (.lload 9) 2 133 := ⟨by decide +kernel, rfl⟩
theorem own_d7_133 : own_D method_2_code 133 (.lload 4) 2 135 := ⟨by decide +kernel, rfl⟩
theorem own_d7_135 : own_D method_2_code 135 (.lload 7) 2 137 := ⟨by decide +kernel, rfl⟩
theorem own_d7_137 : own_D method_2_code 137 (.ldiv) 1 138 := ⟨by decide +kernel, rfl⟩
theorem own_d7_138 : own_D method_2_code 138 (.lcmp) 1 139 := ⟨by decide +kernel, rfl⟩
theorem own_d7_139 : own_B method_2_code 139 (.ifCond .gt 7) 7 142 146 := ⟨by decide +kernel, rfl, by decide, by decide⟩
theorem own_d7_146 : own_D method_2_code 146 (.iconst 0) 1 147 := ⟨by decide +kernel, rfl⟩
theorem own_d7_147 : own_D method_2_code 147 (.ireturn) 1 148 := ⟨by decide +kernel, rfl⟩
theorem own_d7_142 : own_D method_2_code 142 (.iconst 1) 1 143 := ⟨by decide +kernel, rfl⟩
theorem own_d7_143 : own_B method_2_code 143 (.goto 4) 4 146 147 := ⟨by decide +kernel, rfl, by decide, by decide⟩
theorem own_d7_129 : own_D method_2_code 129 (.iconst 0) 1 130 := ⟨by decide +kernel, rfl⟩
theorem own_d7_130 : own_D method_2_code 130 (.ireturn) 1 131 := ⟨by decide +kernel, rfl⟩
theorem own_d7_42 : own_D method_2_code 42 (.iconst 1) 1 43 := ⟨by decide +kernel, rfl⟩
theorem own_d7_43 : own_B method_2_code 43 (.goto 4) 4 46 47 := ⟨by decide +kernel, rfl, by decide, by decide⟩
theorem own_d7_50 : own_D method_2_code 50 (.iconst 1) 1 51 := ⟨by decide +kernel, rfl⟩
theorem own_d7_51 : own_B method_2_code 51 (.goto 4) 4 54 55 := ⟨by decide +kernel, rfl, by decide, by decide⟩
theorem own_d7_93 : own_D method_2_code 93 (.lload 4) 2 95 := ⟨by decide +kernel, rfl⟩
theorem own_d7_95 : own_D method_2_code 95 (.lconst 0) 1 96 := ⟨by decide +kernel, rfl⟩
theorem own_d7_96 : own_D method_2_code 96 (.lcmp) 1 97 := ⟨by decide +kernel, rfl⟩
theorem own_d7_97 : own_B method_2_code 97 (.ifCond .lt 5) 5 100 102 := ⟨by decide +kernel, rfl, by decide, by decide⟩
theorem own_d7_102 : own_D method_2_code 102 (.lload 9) 2 104 := ⟨by decide +kernel, rfl⟩
theorem own_d7_104 : own_D method_2_code 104 (.lload 4) 2 106 := ⟨by decide +kernel, rfl⟩
theorem own_d7_106 : own_D method_2_code 106 (.lneg) 1 107 := ⟨by decide +kernel, rfl⟩
theorem own_d7_107 : own_D method_2_code 107 (.lconst 1) 1 108 := ⟨by decide +kernel, rfl⟩
theorem own_d7_108 : own_D method_2_code 108 (.lsub) 1 109 := ⟨by decide +kernel, rfl⟩
theorem own_d7_109 : own_D method_2_code 109 (.lload 7) 2 111 := ⟨by decide +kernel, rfl⟩
theorem own_d7_111 : own_D method_2_code 111 (.ldiv) 1 112 := ⟨by decide +kernel, rfl⟩
theorem own_d7_112 : own_D method_2_code 112 (.lcmp) 1 113 := ⟨by decide +kernel, rfl⟩
theorem own_d7_113 : own_B method_2_code 113 (.ifCond .le 7) 7 116 120 := ⟨by decide +kernel, rfl, by decide, by decide⟩
theorem own_d7_120 : own_D method_2_code 120 (.iconst 0) 1 121 := ⟨by decide +kernel, rfl⟩
theorem own_d7_121 : own_D method_2_code 121 (.ireturn) 1 122 := ⟨by decide +kernel, rfl⟩
theorem own_d7_116 : own_D method_2_code 116 (.iconst 1) 1 117 := ⟨by decide +kernel, rfl⟩
theorem own_d7_117 : own_B method_2_code 117 (.goto 4) 4 120 121 := ⟨by decide +kernel, rfl, by decide, by decide⟩
theorem own_d7_100 : own_D method_2_code 100 (.iconst 1) 1 101 := ⟨by decide +kernel, rfl⟩
theorem own_d7_101 : own_D method_2_code 101 (.ireturn) 1 102 := ⟨by decide +kernel, rfl⟩
theorem own_d7_31 : own_D method_2_code 31 (.iconst 1) 1 32 := ⟨by decide +kernel, rfl⟩
theorem own_d7_32 : own_B method_2_code 32 (.goto 4) 4 35 36 := ⟨by decide +kernel, rfl, by decide, by decide⟩
theorem own_d8_0 : own_D code 0 (.iload 4) 2 2 := ⟨by decide +kernel, rfl⟩
theorem own_d8_2 : own_D code 2 (.ldc 17) 2 4 := ⟨by decide +kernel, rfl⟩
theorem own_d8_4 : own_D code 4 (.iand) 1 5 := ⟨by decide +kernel, rfl⟩
theorem own_d8_5 : own_D code 5 (.i2l) 1 6 := ⟨by decide +kernel, rfl⟩
theorem own_d8_6 : own_D code 6 (.lstore 8) 2 8 := ⟨by decide +kernel, rfl⟩
theorem own_d8_8 : own_D code 8 (.iload 5) 2 10 := ⟨by decide +kernel, rfl⟩
theorem own_d8_10 : own_D code 10 (.ldc 17) 2 12 := ⟨by decide +kernel, rfl⟩
theorem own_d8_12 : own_D code 12 (.iand) 1 13 := ⟨by decide +kernel, rfl⟩
theorem own_d8_13 : own_D code 13 (.i2l) 1 14 := ⟨by decide +kernel, rfl⟩
theorem own_d8_14 : own_D code 14 (.lstore 10) 2 16 := ⟨by decide +kernel, rfl⟩
theorem own_d8_16 : own_D code 16 (.iload 6) 2 18 := ⟨by decide +kernel, rfl⟩
theorem own_d8_18 : own_D code 18 (.ldc 17) 2 20 := ⟨by decide +kernel, rfl⟩
theorem own_d8_20 : own_D code 20 (.iand) 1 21 := ⟨by decide +kernel, rfl⟩
theorem own_d8_21 : own_D code 21 (.i2l) 1 22 := ⟨by decide +kernel, rfl⟩
theorem own_d8_22 : own_D code 22 (.lstore 12) 2 24 := ⟨by decide +kernel, rfl⟩
theorem own_d8_24 : own_D code 24 (.lconst 0) 1 25 := ⟨by decide +kernel, rfl⟩
theorem own_d8_25 : own_D code 25 (.lstore 14) 2 27 := ⟨by decide +kernel, rfl⟩
theorem own_d8_27 : own_D code 27 (.lconst 0) 1 28 := ⟨by decide +kernel, rfl⟩
theorem own_d8_28 : own_D code 28 (.lstore 16) 2 30 := ⟨by decide +kernel, rfl⟩
theorem own_d8_30 : own_D code 30 (.new 18) 3 33 := ⟨by decide +kernel, rfl⟩
theorem own_d8_33 : own_D code 33 (.dup) 1 34 := ⟨by decide +kernel, rfl⟩
theorem own_d8_34 : own_D code 34 (.invokespecial 20) 3 37 := ⟨by decide +kernel, rfl⟩
theorem own_d8_37 : own_D code 37 (.astore 18) 2 39 := ⟨by decide +kernel, rfl⟩
theorem own_d8_39 : own_D code 39 (.iload 7) 2 41 := ⟨by decide +kernel, rfl⟩
theorem own_d8_41 : own_D code 41 (.iconst 1) 1 42 := ⟨by decide +kernel, rfl⟩
theorem own_d8_42 : own_D code 42 (.iand) 1 43 := ⟨by decide +kernel, rfl⟩
theorem own_d8_43 : own_B code 43 (.ifCond .eq 23) 23 46 66 := ⟨by decide +kernel, rfl, by decide, by decide⟩
theorem own_d8_66 : own_D code 66 (.iload 7) 2 68 := ⟨by decide +kernel, rfl⟩
theorem own_d8_68 : own_D code 68 (.iconst 2) 1 69 := ⟨by decide +kernel, rfl⟩
theorem own_d8_69 : own_D code 69 (.iand) 1 70 := ⟨by decide +kernel, rfl⟩
theorem own_d8_70 : own_B code 70 (.ifCond .eq 23) 23 73 93 := ⟨by decide +kernel, rfl, by decide, by decide⟩
theorem own_d8_93 : own_D code 93 (.aload 18) 2 95 := ⟨by decide +kernel, rfl⟩
theorem own_d8_95 : own_D code 95 (.astore 19) 2 97 := ⟨by decide +kernel, rfl⟩
theorem own_d8_97 : own_D code 97 (.ldc2_w 25) 3 100 := ⟨by decide +kernel, rfl⟩
theorem own_d8_100 : own_D code 100 (.lstore 20) 2 102 := ⟨by decide +kernel, rfl⟩
theorem own_d8_102 : own_D code 102 (.ldc2_w 27) 3 105 := ⟨by decide +kernel, rfl⟩
theorem own_d8_105 : own_D code 105 (.lstore 22) 2 107 := ⟨by decide +kernel, rfl⟩
theorem own_d8_107 : own_D code 107 (.iload 7) 2 109 := ⟨by decide +kernel, rfl⟩
theorem own_d8_109 : own_D code 109 (.iconst 4) 1 110 := ⟨by decide +kernel, rfl⟩
theorem own_d8_110 : own_D code 110 (.iand) 1 111 := ⟨by decide +kernel, rfl⟩
theorem own_d8_111 : own_B code 111 (.ifCond .eq 40) 40 114 151 := ⟨by decide +kernel, rfl, by decide, by decide⟩
theorem own_d8_151 : own_D code 151 (.iload 7) 2 153 := ⟨by decide +kernel, rfl⟩
theorem own_d8_153 : own_D code 153 (.bipush 8) 2 155 := ⟨by decide +kernel, rfl⟩
theorem own_d8_155 : own_D code 155 (.iand) 1 156 := ⟨by decide +kernel, rfl⟩
theorem own_d8_156 : own_B code 156 (.ifCond .eq 23) 23 159 179 := ⟨by decide +kernel, rfl, by decide, by decide⟩
theorem own_d8_179 : own_D code 179 (.lload_n 0) 1 180 := ⟨by decide +kernel, rfl⟩
theorem own_d8_180 : own_D code 180 (.lload 20) 2 182 := ⟨by decide +kernel, rfl⟩
theorem own_d8_182 : own_D code 182 (.lload 14) 2 184 := ⟨by decide +kernel, rfl⟩
theorem own_d8_184 : own_D code 184 (.lsub) 1 185 := ⟨by decide +kernel, rfl⟩
theorem own_d8_185 : own_D code 185 (.lcmp) 1 186 := ⟨by decide +kernel, rfl⟩
theorem own_d8_186 : own_B code 186 (.ifCond .gt 20) 20 189 206 := ⟨by decide +kernel, rfl, by decide, by decide⟩
theorem own_d8_206 : own_D code 206 (.iconst 0) 1 207 := ⟨by decide +kernel, rfl⟩
theorem own_d8_207 : own_D code 207 (.istore 24) 2 209 := ⟨by decide +kernel, rfl⟩
theorem own_d8_209 : own_D code 209 (.aload 19) 2 211 := ⟨by decide +kernel, rfl⟩
theorem own_d8_211 : own_D code 211 (.lload_n 0) 1 212 := ⟨by decide +kernel, rfl⟩
theorem own_d8_212 : own_D code 212 (.lload_n 2) 1 213 := ⟨by decide +kernel, rfl⟩
theorem own_d8_213 : own_D code 213 (.invokevirtual 41) 3 216 := ⟨by decide +kernel, rfl⟩
theorem own_d8_216 : own_D code 216 (.iload 24) 2 218 := ⟨by decide +kernel, rfl⟩
theorem own_d8_218 : own_B code 218 (.if_icmp .ne 7) 7 221 225 := ⟨by decide +kernel, rfl, by decide, by decide⟩
theorem own_d8_221 : own_D code 221 (.iconst 1) 1 222 := ⟨by decide +kernel, rfl⟩
theorem own_d8_222 : own_B code 222 (.goto 4) 4 225 226 := ⟨by decide +kernel, rfl, by decide, by decide⟩
theorem own_d8_226 : own_D code 226 (.ireturn) 1 227 := ⟨by decide +kernel, rfl⟩
theorem own_d8_189 : own_D code 189 (.lload_n 0) 1 190 := ⟨by decide +kernel, rfl⟩
theorem own_d8_190 : own_D code 190 (.lload_n 2) 1 191 := ⟨by decide +kernel, rfl⟩
theorem own_d8_191 : own_D code 191 (.lload 22) 2 193 := ⟨by decide +kernel, rfl⟩
theorem own_d8_193 : own_D code 193 (.lload 16) 2 195 := ⟨by decide +kernel, rfl⟩
theorem own_d8_195 : own_D code 195 (.lsub) 1 196 := ⟨by decide +kernel, rfl⟩
theorem own_d8_196 : own_D code 196 (.invokestatic 35) 3 199 := ⟨by decide +kernel, rfl⟩
theorem own_d8_199 : own_B code 199 (.ifCond .eq 7) 7 202 206 := ⟨by decide +kernel, rfl, by decide, by decide⟩
theorem own_d8_202 : own_D code 202 (.iconst 1) 1 203 := ⟨by decide +kernel, rfl⟩
theorem own_d8_203 : own_B code 203 (.goto 4) 4 206 207 := ⟨by decide +kernel, rfl, by decide, by decide⟩
theorem own_d8_159 : own_D code 159 (.aload 18) 2 161 := ⟨by decide +kernel, rfl⟩
theorem own_d8_161 : own_D code 161 (.lload 12) 2 163 := ⟨by decide +kernel, rfl⟩
theorem own_d8_163 : own_D code 163 (.invokevirtual 21) 3 166 := ⟨by decide +kernel, rfl⟩
theorem own_d8_166 : own_D code 166 (.lload 14) 2 168 := ⟨by decide +kernel, rfl⟩
theorem own_d8_168 : own_D code 168 (.lconst 1) 1 169 := ⟨by decide +kernel, rfl⟩
theorem own_d8_169 : own_D code 169 (.ladd) 1 170 := ⟨by decide +kernel, rfl⟩
theorem own_d8_170 : own_D code 170 (.lstore 14) 2 172 := ⟨by decide +kernel, rfl⟩
theorem own_d8_172 : own_D code 172 (.lload 16) 2 174 := ⟨by decide +kernel, rfl⟩
theorem own_d8_174 : own_D code 174 (.lload 12) 2 176 := ⟨by decide +kernel, rfl⟩
theorem own_d8_176 : own_D code 176 (.ladd) 1 177 := ⟨by decide +kernel, rfl⟩
theorem own_d8_177 : own_D code 177 (.lstore 16) 2 179 := ⟨by decide +kernel, rfl⟩
theorem own_d8_114 : own_D code 114 (.aload 18) 2 116 := ⟨by decide +kernel, rfl⟩
theorem own_d8_116 : own_D code 116 (.invokevirtual 29) 3 119 := ⟨by decide +kernel, rfl⟩
theorem own_d8_119 : own_D code 119 (.astore 19) 2 121 := ⟨by decide +kernel, rfl⟩
theorem own_d8_121 : own_D code 121 (.lload 14) 2 123 := ⟨by decide +kernel, rfl⟩
theorem own_d8_123 : own_D code 123 (.ldc2_w 25) 3 126 := ⟨by decide +kernel, rfl⟩
theorem own_d8_126 : own_D code 126 (.lload 14) 2 128 := ⟨by decide +kernel, rfl⟩
theorem own_d8_128 : own_D code 128 (.lsub) 1 129 := ⟨by decide +kernel, rfl⟩
theorem own_d8_129 : own_D code 129 (.ldc2_w 33) 3 132 := ⟨by decide +kernel, rfl⟩
theorem own_d8_132 : own_D code 132 (.ldiv) 1 133 := ⟨by decide +kernel, rfl⟩
theorem own_d8_133 : own_D code 133 (.ladd) 1 134 := ⟨by decide +kernel, rfl⟩
theorem own_d8_134 : own_D code 134 (.lstore 20) 2 136 := ⟨by decide +kernel, rfl⟩
theorem own_d8_136 : own_D code 136 (.lload 16) 2 138 := ⟨by decide +kernel, rfl⟩
theorem own_d8_138 : own_D code 138 (.ldc2_w 27) 3 141 := ⟨by decide +kernel, rfl⟩
theorem own_d8_141 : own_D code 141 (.lload 16) 2 143 := ⟨by decide +kernel, rfl⟩
theorem own_d8_143 : own_D code 143 (.lsub) 1 144 := ⟨by decide +kernel, rfl⟩
theorem own_d8_144 : own_D code 144 (.ldc2_w 33) 3 147 := ⟨by decide +kernel, rfl⟩
theorem own_d8_147 : own_D code 147 (.ldiv) 1 148 := ⟨by decide +kernel, rfl⟩
theorem own_d8_148 : own_D code 148 (.ladd) 1 149 := ⟨by decide +kernel, rfl⟩
theorem own_d8_149 : own_D code 149 (.lstore 22) 2 151 := ⟨by decide +kernel, rfl⟩
theorem own_d8_73 : own_D code 73 (.aload 18) 2 75 := ⟨by decide +kernel, rfl⟩
theorem own_d8_75 : own_D code 75 (.lload 10) 2 77 := ⟨by decide +kernel, rfl⟩
theorem own_d8_77 : own_D code 77 (.invokevirtual 21) 3 80 := ⟨by decide +kernel, rfl⟩
theorem own_d8_80 : own_D code 80 (.lload 14) 2 82 := ⟨by decide +kernel, rfl⟩
theorem own_d8_82 : own_D code 82 (.lconst 1) 1 83 := ⟨by decide +kernel, rfl⟩
theorem own_d8_83 : own_D code 83 (.ladd) 1 84 := ⟨by decide +kernel, rfl⟩
theorem own_d8_84 : own_D code 84 (.lstore 14) 2 86 := ⟨by decide +kernel, rfl⟩
theorem own_d8_86 : own_D code 86 (.lload 16) 2 88 := ⟨by decide +kernel, rfl⟩
theorem own_d8_88 : own_D code 88 (.lload 10) 2 90 := ⟨by decide +kernel, rfl⟩
theorem own_d8_90 : own_D code 90 (.ladd) 1 91 := ⟨by decide +kernel, rfl⟩
theorem own_d8_91 : own_D code 91 (.lstore 16) 2 93 := ⟨by decide +kernel, rfl⟩
theorem own_d8_46 : own_D code 46 (.aload 18) 2 48 := ⟨by decide +kernel, rfl⟩
theorem own_d8_48 : own_D code 48 (.lload 8) 2 50 := ⟨by decide +kernel, rfl⟩
theorem own_d8_50 : own_D code 50 (.invokevirtual 21) 3 53 := ⟨by decide +kernel, rfl⟩
theorem own_d8_53 : own_D code 53 (.lload 14) 2 55 := ⟨by decide +kernel, rfl⟩
theorem own_d8_55 : own_D code 55 (.lconst 1) 1 56 := ⟨by decide +kernel, rfl⟩
theorem own_d8_56 : own_D code 56 (.ladd) 1 57 := ⟨by decide +kernel, rfl⟩
theorem own_d8_57 : own_D code 57 (.lstore 14) 2 59 := ⟨by decide +kernel, rfl⟩
theorem own_d8_59 : own_D code 59 (.lload 16) 2 61 := ⟨by decide +kernel, rfl⟩
theorem own_d8_61 : own_D code 61 (.lload 8) 2 63 := ⟨by decide +kernel, rfl⟩
theorem own_d8_63 : own_D code 63 (.ladd) 1 64 := ⟨by decide +kernel, rfl⟩
theorem own_d8_64 : own_D code 64 (.lstore 16) 2 66 := ⟨by decide +kernel, rfl⟩
theorem own_pd0 : parseMethodDescriptor "()V" = some ⟨[], none⟩ := by decide +kernel
theorem own_pd1 : parseMethodDescriptor "(Lcom/example/fuseplan/fuseplan/plan/Budget$Spent;IJ)V" = some ⟨[(.object "com/example/fuseplan/fuseplan/plan/Budget$Spent"), .int, .long], none⟩ := by decide +kernel
theorem own_pd2 : parseMethodDescriptor "(J)J" = some ⟨[.long], some .long⟩ := by decide +kernel
theorem own_pd3 : parseMethodDescriptor "(JJ)Z" = some ⟨[.long, .long], some .boolean⟩ := by decide +kernel
theorem own_pd4 : parseMethodDescriptor "(JJJ)Z" = some ⟨[.long, .long, .long], some .boolean⟩ := by decide +kernel
theorem own_pd5 : parseMethodDescriptor "(J)V" = some ⟨[.long], none⟩ := by decide +kernel
theorem own_pd6 : parseMethodDescriptor "()Lcom/example/fuseplan/fuseplan/plan/Budget;" = some ⟨[], some (.object "com/example/fuseplan/fuseplan/plan/Budget")⟩ := by decide +kernel
abbrev own_BU (a : Addr) (f0 f1 f2 : Value) : own_O := (a, "com/example/fuseplan/fuseplan/plan/Budget", [("com/example/fuseplan/fuseplan/plan/Budget", "spent", "Lcom/example/fuseplan/fuseplan/plan/Budget$Spent;", f0), ("com/example/fuseplan/fuseplan/plan/Budget", "plans", "I", f1), ("com/example/fuseplan/fuseplan/plan/Budget", "work", "J", f2)])
theorem own_BU_F {Z : State} {a0 : Array Value} (hw : own_Z Z a0) : ∀ f ∈ ([("com/example/fuseplan/fuseplan/plan/Budget", "spent", "Lcom/example/fuseplan/fuseplan/plan/Budget$Spent;", .null), ("com/example/fuseplan/fuseplan/plan/Budget", "plans", "I", (.int (0 : Int32))), ("com/example/fuseplan/fuseplan/plan/Budget", "work", "J", (.long (0 : Int64)))] : List (String × String × String × Value)), Laid Z a0 "com/example/fuseplan/fuseplan/plan/Budget" f.1 f.2.1 f.2.2.1 ∧ ∃ ty, parseFieldDescriptor f.2.2.1 = some ty ∧ f.2.2.2 = defaultValue ty := by
  intro f hf
  simp only [List.mem_cons, List.not_mem_nil, or_false] at hf
  rcases hf with rfl | rfl | rfl
  · exact ⟨Or.inr (own_w22 hw), (.object "com/example/fuseplan/fuseplan/plan/Budget$Spent"), by decide +kernel, rfl⟩
  · exact ⟨Or.inr (own_w24 hw), .int, by decide +kernel, rfl⟩
  · exact ⟨Or.inr (own_w26 hw), .long, by decide +kernel, rfl⟩
theorem own_BU_P {Z : State} {a0 : Array Value} (hw : own_Z Z a0) : ([("com/example/fuseplan/fuseplan/plan/Budget", "spent", "Lcom/example/fuseplan/fuseplan/plan/Budget$Spent;", .null), ("com/example/fuseplan/fuseplan/plan/Budget", "plans", "I", (.int (0 : Int32))), ("com/example/fuseplan/fuseplan/plan/Budget", "work", "J", (.long (0 : Int64)))] : List (String × String × String × Value)).Pairwise (fun f g => Jvm.RoadKit.slotOf Z f.1 f.2.1 f.2.2.1 ≠ Jvm.RoadKit.slotOf Z g.1 g.2.1 g.2.2.1) := by
  simp only [List.pairwise_cons, List.mem_cons, List.not_mem_nil, or_false, forall_eq_or_imp, forall_eq, List.Pairwise.nil, and_true, false_implies, implies_true]
  exact ⟨⟨slot_ne (C := "com/example/fuseplan/fuseplan/plan/Budget") (Or.inr (own_w22 hw)) (Or.inr (own_w24 hw)) (by decide) (t := (.object "com/example/fuseplan/fuseplan/plan/Budget$Spent")) (by decide +kernel) (t' := .int) (by decide +kernel), slot_ne (C := "com/example/fuseplan/fuseplan/plan/Budget") (Or.inr (own_w22 hw)) (Or.inr (own_w26 hw)) (by decide) (t := (.object "com/example/fuseplan/fuseplan/plan/Budget$Spent")) (by decide +kernel) (t' := .long) (by decide +kernel)⟩, slot_ne (C := "com/example/fuseplan/fuseplan/plan/Budget") (Or.inr (own_w24 hw)) (Or.inr (own_w26 hw)) (by decide) (t := .int) (by decide +kernel) (t' := .long) (by decide +kernel)⟩

abbrev own_SP (a : Addr) (f0 f1 : Value) : own_O := (a, "com/example/fuseplan/fuseplan/plan/Budget$Spent", [("com/example/fuseplan/fuseplan/plan/Budget$Spent", "plans", "I", f0), ("com/example/fuseplan/fuseplan/plan/Budget$Spent", "work", "J", f1)])
theorem own_SP_F {Z : State} {a0 : Array Value} (hw : own_Z Z a0) : ∀ f ∈ ([("com/example/fuseplan/fuseplan/plan/Budget$Spent", "plans", "I", (.int (0 : Int32))), ("com/example/fuseplan/fuseplan/plan/Budget$Spent", "work", "J", (.long (0 : Int64)))] : List (String × String × String × Value)), Laid Z a0 "com/example/fuseplan/fuseplan/plan/Budget$Spent" f.1 f.2.1 f.2.2.1 ∧ ∃ ty, parseFieldDescriptor f.2.2.1 = some ty ∧ f.2.2.2 = defaultValue ty := by
  intro f hf
  simp only [List.mem_cons, List.not_mem_nil, or_false] at hf
  rcases hf with rfl | rfl
  · exact ⟨Or.inl (own_w33 hw), .int, by decide +kernel, rfl⟩
  · exact ⟨Or.inl (own_w35 hw), .long, by decide +kernel, rfl⟩
theorem own_SP_P {Z : State} {a0 : Array Value} (hw : own_Z Z a0) : ([("com/example/fuseplan/fuseplan/plan/Budget$Spent", "plans", "I", (.int (0 : Int32))), ("com/example/fuseplan/fuseplan/plan/Budget$Spent", "work", "J", (.long (0 : Int64)))] : List (String × String × String × Value)).Pairwise (fun f g => Jvm.RoadKit.slotOf Z f.1 f.2.1 f.2.2.1 ≠ Jvm.RoadKit.slotOf Z g.1 g.2.1 g.2.2.1) := by
  simp only [List.pairwise_cons, List.mem_cons, List.not_mem_nil, or_false, forall_eq_or_imp, forall_eq, List.Pairwise.nil, and_true, false_implies, implies_true]
  exact slot_ne (C := "com/example/fuseplan/fuseplan/plan/Budget$Spent") (Or.inl (own_w33 hw)) (Or.inl (own_w35 hw)) (by decide) (t := .int) (by decide +kernel) (t' := .long) (by decide +kernel)

theorem own_and3 (k : Int32) : k &&& 3 = 0 ∨ k &&& 3 = 1 ∨ k &&& 3 = 2 ∨ k &&& 3 = 3 := by
  have h : ∀ b : BitVec 32, b &&& 3#32 = 0#32 ∨ b &&& 3#32 = 1#32 ∨ b &&& 3#32 = 2#32 ∨ b &&& 3#32 = 3#32 := by
    intro b
    have q : (b &&& 3#32).toNat ≤ 3 := by rw [BitVec.toNat_and]; exact Nat.and_le_right
    bv_omega
  rcases h k.toBitVec with q | q | q | q
  · exact Or.inl (Int32.toBitVec_inj.mp q)
  · exact Or.inr (Or.inl (Int32.toBitVec_inj.mp q))
  · exact Or.inr (Or.inr (Or.inl (Int32.toBitVec_inj.mp q)))
  · exact Or.inr (Or.inr (Or.inr (Int32.toBitVec_inj.mp q)))
theorem own_and_bound (a b : Int32) (hb : 0 ≤ b.toInt) : 0 ≤ (a &&& b).toInt ∧ (a &&& b).toInt ≤ b.toInt := by
  have q : (a &&& b).toBitVec.toNat ≤ b.toBitVec.toNat := by
    show (a.toBitVec &&& b.toBitVec).toNat ≤ _
    rw [BitVec.toNat_and]; exact Nat.and_le_right
  have hb' : b.toInt = (b.toBitVec.toNat : Int) := by
    have : b.toInt = b.toBitVec.toInt := rfl
    rw [this] at hb ⊢
    rw [BitVec.toInt_eq_toNat_cond] at hb ⊢
    have := b.toBitVec.isLt
    split at hb <;> split <;> omega
  have hlt : 2 * b.toBitVec.toNat < 2 ^ 32 := by have := Int32.toInt_lt b; omega
  have : (a &&& b).toInt = (a &&& b).toBitVec.toInt := rfl
  rw [this, BitVec.toInt_eq_toNat_cond]
  split <;> omega
theorem own_add32 {a b : Int32} (h1 : -2147483648 ≤ a.toInt + b.toInt) (h2 : a.toInt + b.toInt ≤ 2147483647) : (a + b).toInt = a.toInt + b.toInt := by
  rw [Int32.toInt_add]; exact Int.bmod_eq_of_le (by omega) (by omega)
theorem own_sub32 {a b : Int32} (h1 : -2147483648 ≤ a.toInt - b.toInt) (h2 : a.toInt - b.toInt ≤ 2147483647) : (a - b).toInt = a.toInt - b.toInt := by
  rw [Int32.toInt_sub]; exact Int.bmod_eq_of_le (by omega) (by omega)
theorem own_mul32 {a b : Int32} (h1 : -2147483648 ≤ a.toInt * b.toInt) (h2 : a.toInt * b.toInt ≤ 2147483647) : (a * b).toInt = a.toInt * b.toInt := by
  rw [Int32.toInt_mul]; exact Int.bmod_eq_of_le (by omega) (by omega)
theorem own_rem32 {a b : Int32} (ha : 0 ≤ a.toInt) (hb : 0 < b.toInt) : 0 ≤ (a % b).toInt ∧ (a % b).toInt < b.toInt := by
  rw [Int32.toInt_mod]
  have h1 := Int.tmod_nonneg b.toInt ha
  have h2 := Int.tmod_lt_of_pos a.toInt hb
  omega
theorem own_i64 (a : Int32) : a.toInt64.toInt = a.toInt := by simp

def own_small (K : Int) (a : Int64) : Prop := -K ≤ a.toInt ∧ a.toInt ≤ K
theorem own_small.mono {K M : Int} {a : Int64} (h : own_small K a) (hK : K ≤ M) : own_small M a := by unfold own_small at *; omega
theorem own_small.b53 {K : Int} {a : Int64} (h : own_small K a) (hK : K ≤ 9007199254740991) : B53 a := by unfold own_small at h; unfold B53; omega
theorem own_small.add {K M : Int} {a b : Int64} (ha : own_small K a) (hb : own_small M b) (h1 : K ≤ 4503599627370495) (h2 : M ≤ 4503599627370495) : own_small (K + M) (a + b) := by
  have q := RoadKit.add64 (ha.b53 (by omega)) (hb.b53 (by omega))
  unfold own_small at *; omega
theorem own_small.sub {K M : Int} {a b : Int64} (ha : own_small K a) (hb : own_small M b) (h1 : K ≤ 4503599627370495) (h2 : M ≤ 4503599627370495) : own_small (K + M) (a - b) := by
  have q := RoadKit.sub64 (ha.b53 (by omega)) (hb.b53 (by omega))
  unfold own_small at *; omega
theorem own_small.div2 {K : Int} {a : Int64} (ha : own_small K a) (h1 : K ≤ 4503599627370495) : own_small K (a / 2) := by
  unfold own_small at *
  have e2 : (2 : Int64).toInt = 2 := rfl
  have b1 : -K ≤ a.toInt.tdiv 2 ∧ a.toInt.tdiv 2 ≤ K := by
    have s2 : Int.sign 2 = 1 := rfl
    rw [Int.tdiv_eq_ediv]; split <;> omega
  rw [Int64.toInt_div, e2, Int.bmod_eq_of_le (by omega) (by omega)]; exact b1
theorem own_small.of (a : Int32) : own_small 2147483648 a.toInt64 := by
  have := Int32.toInt_lt a; have := Int32.le_toInt a; unfold own_small; rw [own_i64]; omega
theorem own_small.zero : own_small 0 0 := by unfold own_small; decide
theorem own_cl_cases (x y : Int64) : (y.toInt < x.toInt ∧ XT.cmpL x y = 1) ∨ (x.toInt = y.toInt ∧ XT.cmpL x y = 0) ∨ (x.toInt < y.toInt ∧ XT.cmpL x y = -1) := by
  unfold XT.cmpL
  by_cases h1 : y < x
  · rw [if_pos h1]; exact Or.inl ⟨Int64.lt_iff_toInt_lt.mp h1, rfl⟩
  · rw [if_neg h1]
    rw [Int64.lt_iff_toInt_lt] at h1
    by_cases h2 : x = y
    · rw [if_pos h2]; exact Or.inr (Or.inl ⟨by rw [h2], rfl⟩)
    · rw [if_neg h2]
      rw [← Int64.toInt_inj] at h2
      exact Or.inr (Or.inr ⟨by omega, rfl⟩)
theorem own_cl_gt (x y : Int64) : (0 < (XT.cmpL x y).toInt) ↔ y.toInt < x.toInt := by
  have e1 : (1 : Int32).toInt = 1 := rfl
  have e0 : (0 : Int32).toInt = 0 := rfl
  have e2 : (-1 : Int32).toInt = -1 := rfl
  rcases own_cl_cases x y with ⟨h, e⟩ | ⟨h, e⟩ | ⟨h, e⟩ <;> rw [e] <;> omega
theorem own_cl_eq (x y : Int64) : (XT.cmpL x y = 0) ↔ x.toInt = y.toInt := by
  rcases own_cl_cases x y with ⟨h, e⟩ | ⟨h, e⟩ | ⟨h, e⟩ <;> rw [e]
  · exact ⟨fun q => absurd q (by decide), fun q => by omega⟩
  · exact ⟨fun _ => h, fun _ => rfl⟩
  · exact ⟨fun q => absurd q (by decide), fun q => by omega⟩
theorem own_cl_lt (x y : Int64) : ((XT.cmpL x y).toInt < 0) ↔ x.toInt < y.toInt := by
  have e1 : (1 : Int32).toInt = 1 := rfl
  have e0 : (0 : Int32).toInt = 0 := rfl
  have e2 : (-1 : Int32).toInt = -1 := rfl
  rcases own_cl_cases x y with ⟨h, e⟩ | ⟨h, e⟩ | ⟨h, e⟩ <;> rw [e] <;> omega
theorem own_cl_ge (x y : Int64) : (0 ≤ (XT.cmpL x y).toInt) ↔ y.toInt ≤ x.toInt := by
  have := own_cl_lt x y; omega
theorem own_cl_le (x y : Int64) : ((XT.cmpL x y).toInt ≤ 0) ↔ x.toInt ≤ y.toInt := by
  have := own_cl_gt x y; omega

open Jvm.FP.Core in
theorem own_zl {p : Int64} : (-9007199254740992 < p.toInt ∧ p.toInt < 9007199254740992 ∧ own_z (FP.l2d p) = p.toInt * (one64 : Int)) ∨ (9007199254740992 ≤ p.toInt ∧ 9007199254740992 * (one64 : Int) ≤ own_z (FP.l2d p)) ∨ (p.toInt ≤ -9007199254740992 ∧ own_z (FP.l2d p) ≤ -(9007199254740992 * (one64 : Int))) := by
  have U0 : (0 : Int) < (one64 : Int) := by have := one64_pos; omega
  rcases Int.lt_or_le p.toInt 9007199254740992 with h1 | h1
  · rcases Int.lt_or_le (-9007199254740992) p.toInt with h2 | h2
    · exact Or.inl ⟨h2, h1, DInt_zval (l2d_whole ⟨h2, h1⟩)⟩
    · refine Or.inr (Or.inr ⟨h2, ?_⟩)
      have e : zval b64 (val64 14069245235905429504) = -(9007199254740992 * (one64 : Int)) := zval_two53n
      have q := l2d_zval_le (n := p) (V := 14069245235905429504) (by decide +kernel) (by
        rw [e, ← Int.neg_mul]; exact Int.mul_le_mul_of_nonneg_right h2 (Int.le_of_lt U0))
      rw [e] at q; exact q
  · refine Or.inr (Or.inl ⟨h1, ?_⟩)
    have e : zval b64 (val64 4845873199050653696) = 9007199254740992 * (one64 : Int) := zval_two53
    have q := l2d_zval_ge (n := p) (V := 4845873199050653696) (by decide +kernel) (by
      rw [e]; exact Int.mul_le_mul_of_nonneg_right h1 (Int.le_of_lt U0))
    rw [e] at q; exact q
def own_R (U p z : Int) : Prop := (-9007199254740992 < p ∧ p < 9007199254740992 ∧ z = p * U) ∨ (9007199254740992 ≤ p ∧ 9007199254740992 * U ≤ z) ∨ (p ≤ -9007199254740992 ∧ z ≤ -(9007199254740992 * U))
theorem own_pos {U a b A B : Int} (ha : A ≤ a) (hb : B ≤ b) (hA : 0 ≤ A) (hB : 0 ≤ B) : A * B ≤ a * b := Int.mul_le_mul ha hb hB (Int.le_trans hA ha)
theorem own_gt0 {U p z : Int} (hU : 0 < U) (h : own_R U p z) (hp : 1 ≤ p) : U ≤ z := by
  rcases h with ⟨-, -, rfl⟩ | ⟨-, h⟩ | ⟨h, -⟩
  · have := Int.mul_le_mul_of_nonneg_right hp (Int.le_of_lt hU); omega
  · omega
  · omega
theorem own_lt0 {U p z : Int} (hU : 0 < U) (h : own_R U p z) (hp : p ≤ -1) : z ≤ -U := by
  rcases h with ⟨-, -, rfl⟩ | ⟨h, -⟩ | ⟨-, h⟩
  · have := Int.mul_le_mul_of_nonneg_right hp (Int.le_of_lt hU); omega
  · omega
  · omega
theorem own_R.neg {U p z : Int} (h : own_R U p z) : own_R U (-p) (-z) := by
  rcases h with ⟨a, b, rfl⟩ | ⟨a, b⟩ | ⟨a, b⟩
  · exact Or.inl ⟨by omega, by omega, by rw [Int.neg_mul]⟩
  · exact Or.inr (Or.inr ⟨by omega, by omega⟩)
  · exact Or.inr (Or.inl ⟨by omega, by omega⟩)
/-- a great first factor -/
theorem own_big {U p z o y r : Int} (hU : 0 < U) (hp : 9007199254740992 ≤ p) (hz : 9007199254740992 * U ≤ z) (ho : own_R U o y) (r1 : -4000000 ≤ r) (r2 : r ≤ 4000000) : (p * o ≤ r → z * y ≤ r * (U * U)) ∧ (r < p * o → (r + 1) * (U * U) ≤ z * y) := by
  have UU : 0 < U * U := Int.mul_pos hU hU
  rcases Int.lt_trichotomy o 0 with h | h | h
  · have y1 := own_lt0 hU ho (by omega)
    have q1 := own_pos (U := U) hz (show U ≤ -y by omega) (by omega) (by omega)
    have q2 := own_pos (U := U) hp (show 1 ≤ -o by omega) (by omega) (by omega)
    have e1 : 9007199254740992 * U * U = 9007199254740992 * (U * U) := Int.mul_assoc _ _ _
    rw [Int.mul_neg, e1] at q1
    rw [Int.mul_neg] at q2
    have q3 := Int.mul_le_mul_of_nonneg_right (show -9007199254740992 ≤ r by omega) (Int.le_of_lt UU)
    rw [Int.neg_mul] at q3
    exact ⟨fun _ => by omega, fun g => by omega⟩
  · subst h
    have y0 : y = 0 := by rcases ho with ⟨-, -, rfl⟩ | ⟨h, -⟩ | ⟨h, -⟩ <;> omega
    subst y0
    rw [Int.mul_zero, Int.mul_zero]
    refine ⟨fun g => Int.mul_nonneg g (Int.le_of_lt UU), fun g => ?_⟩
    have := Int.mul_le_mul_of_nonneg_right (show r + 1 ≤ 0 by omega) (Int.le_of_lt UU)
    omega
  · have y1 := own_gt0 hU ho (by omega)
    have q1 := own_pos (U := U) hz y1 (by omega) (by omega)
    have q2 := own_pos (U := U) hp (show 1 ≤ o by omega) (by omega) (by omega)
    have e1 : 9007199254740992 * U * U = 9007199254740992 * (U * U) := Int.mul_assoc _ _ _
    rw [e1] at q1
    have q3 := Int.mul_le_mul_of_nonneg_right (show r + 1 ≤ 9007199254740992 by omega) (Int.le_of_lt UU)
    exact ⟨fun g => by omega, fun _ => by omega⟩
theorem own_prodR {U p z o y r : Int} (hU : 0 < U) (hp : own_R U p z) (ho : own_R U o y) (r1 : -4000000 ≤ r) (r2 : r ≤ 4000000) : (p * o ≤ r → z * y ≤ r * (U * U)) ∧ (r < p * o → (r + 1) * (U * U) ≤ z * y) := by
  have UU : 0 < U * U := Int.mul_pos hU hU
  rcases hp with ⟨a1, a2, rfl⟩ | ⟨a1, a2⟩ | ⟨a1, a2⟩
  · rcases ho with ⟨b1, b2, rfl⟩ | ⟨b1, b2⟩ | ⟨b1, b2⟩
    · have e : p * U * (o * U) = p * o * (U * U) := by
        rw [Int.mul_assoc, Int.mul_assoc, Int.mul_left_comm U o U]
      rw [e]
      exact ⟨fun g => Int.mul_le_mul_of_nonneg_right g (Int.le_of_lt UU), fun g => Int.mul_le_mul_of_nonneg_right (by omega) (Int.le_of_lt UU)⟩
    · have q := own_big (r := r) hU b1 b2 (show own_R U p (p * U) from Or.inl ⟨a1, a2, rfl⟩) r1 r2
      rw [Int.mul_comm p o, Int.mul_comm (p * U) y]; exact q
    · have q := own_big (p := -o) (z := -y) (r := r) hU (by omega) (by omega) (show own_R U p (p * U) from Or.inl ⟨a1, a2, rfl⟩).neg r1 r2
      rw [Int.neg_mul_neg, Int.neg_mul_neg] at q
      rw [Int.mul_comm p o, Int.mul_comm (p * U) y]; exact q
  · exact own_big hU a1 a2 ho r1 r2
  · have q := own_big (p := -p) (z := -z) (r := r) hU (by omega) (by omega) ho.neg r1 r2
    rw [Int.neg_mul_neg, Int.neg_mul_neg] at q
    exact q
open Jvm.FP.Core in
theorem own_bud {p o r : Int64} (hr : own_small 4000000 r) : (0 < (cmpValue (FP.dcmp (FP.dmul (FP.l2d p) (FP.l2d o)) (FP.l2d r)) .g).toInt) ↔ r.toInt < p.toInt * o.toInt := by
  have U0 : (0 : Int) < (one64 : Int) := by have := one64_pos; omega
  have fp := own_df (Jvm.Free.Fl.l2d_fin p)
  have fo := own_df (Jvm.Free.Fl.l2d_fin o)
  have nX := Jvm.Free.Fl.dmul_out (Jvm.Free.Fl.l2d_fin p) (Jvm.Free.Fl.l2d_fin o)
  have zr : own_z (FP.l2d r) = r.toInt * (one64 : Int) := DInt_zval (l2d_whole (hr.b53 (by decide)))
  have e1 : (1 : Int64).toInt = 1 := rfl
  have h1 : (r + 1).toInt = r.toInt + 1 := by
    have := RoadKit.add64 (hr.b53 (by decide)) (show B53 (1 : Int64) by unfold B53; decide); omega
  have hr1 : B53 (r + 1) := by unfold own_small at hr; unfold B53; omega
  have zr1 : own_z (FP.l2d (r + 1)) = (r.toInt + 1) * (one64 : Int) := by rw [← h1]; exact DInt_zval (l2d_whole hr1)
  obtain ⟨q1, q2⟩ := own_prodR U0 (own_zl (p := p)) (own_zl (p := o)) hr.1 hr.2
  rw [own_dcmpz nX (Jvm.Free.Fl.l2d_fin r).noNaN]
  by_cases g : r.toInt < p.toInt * o.toInt
  · have k := own_mul_ge (V := FP.l2d (r + 1)) fp fo (own_vn (Jvm.Free.Fl.l2d_fin _).noNaN) (by rw [zr1, Int.mul_assoc]; exact q2 g)
    have lt : own_z (FP.l2d r) < own_z (FP.dmul (FP.l2d p) (FP.l2d o)) := by
      rw [zr1, Int.add_mul] at k; rw [zr]; omega
    have e : compare (own_z (FP.dmul (FP.l2d p) (FP.l2d o))) (own_z (FP.l2d r)) = .gt := by rw [compare_ite, if_neg (by omega), if_neg (by omega)]
    rw [e]; exact ⟨fun _ => g, fun _ => by decide⟩
  · have k := own_mul_le (V := FP.l2d r) fp fo (own_vn (Jvm.Free.Fl.l2d_fin _).noNaN) (by rw [zr, Int.mul_assoc]; exact q1 (by omega))
    have e : compare (own_z (FP.dmul (FP.l2d p) (FP.l2d o))) (own_z (FP.l2d r)) ≠ .gt := by
      rw [compare_ite]; split
      · decide
      · split
        · decide
        · omega
    refine ⟨fun z => ?_, fun z => absurd z g⟩
    revert z e
    generalize compare (own_z (FP.dmul (FP.l2d p) (FP.l2d o))) (own_z (FP.l2d r)) = cc
    intro e
    cases cc
    · exact fun z => absurd z (by decide)
    · exact fun z => absurd z (by decide)
    · exact absurd rfl e
theorem own_sub64 {a b : Int64} (h1 : -9223372036854775808 ≤ a.toInt - b.toInt) (h2 : a.toInt - b.toInt ≤ 9223372036854775807) : (a - b).toInt = a.toInt - b.toInt := by
  rw [Int64.toInt_sub]; exact Int.bmod_eq_of_le (by omega) (by omega)
theorem own_neg64 {a : Int64} (h1 : -9223372036854775808 < a.toInt) : (-a).toInt = -a.toInt := by
  have := Int64.toInt_lt a
  rw [Int64.toInt_neg]; exact Int.bmod_eq_of_le (by omega) (by omega)
theorem own_div64 {x y : Int64} (hx : 0 ≤ x.toInt) (hy : 0 < y.toInt) : (x / y).toInt = x.toInt / y.toInt := by
  have := Int64.toInt_lt x
  have b1 : 0 ≤ x.toInt / y.toInt := Int.ediv_nonneg hx (Int.le_of_lt hy)
  have b2 : x.toInt / y.toInt ≤ x.toInt := Int.ediv_le_self _ hx
  rw [Int64.toInt_div, Int.tdiv_eq_ediv_of_nonneg hx]
  exact Int.bmod_eq_of_le (by omega) (by omega)
theorem own_nz64 {y : Int64} (h : 1 ≤ y.toInt) : y ≠ 0 := fun q => by rw [q] at h; exact absurd h (by decide)
/-- what lies behind the division, the product below nought -/
theorem own_lfN {r ap ao : Int64} {T : Int} (hr : own_small 4000000 r) (r0 : r.toInt < 0) (a1 : 1 ≤ ap.toInt) (a2 : 1 ≤ ao.toInt) (hT : T = -(ap.toInt * ao.toInt)) : (ao.toInt ≤ ((-r - 1) / ap).toInt) ↔ r.toInt < T := by
  unfold own_small at hr
  have e1 : (1 : Int64).toInt = 1 := rfl
  have n1 : (-r).toInt = -r.toInt := own_neg64 (by omega)
  have n2 : (-r - 1).toInt = -r.toInt - 1 := by rw [own_sub64 (by omega) (by omega)]; omega
  rw [own_div64 (by omega) (by omega), n2, Int.le_ediv_iff_mul_le (by omega), Int.mul_comm]
  omega
theorem own_lfP {r ap ao : Int64} {T : Int} (r0 : 1 ≤ r.toInt) (a1 : 1 ≤ ap.toInt) (hT : T = ap.toInt * ao.toInt) : ((r / ap).toInt < ao.toInt) ↔ r.toInt < T := by
  rw [own_div64 (by omega) (by omega), Int.ediv_lt_iff_lt_mul (by omega), Int.mul_comm]
  omega
theorem own_signs {p o P O : Int} (h : (p < 0 ∧ 0 ≤ o ∧ P = -p ∧ O = o) ∨ (0 ≤ p ∧ o < 0 ∧ P = p ∧ O = -o)) : p * o = -(P * O) := by
  rcases h with ⟨-, -, rfl, rfl⟩ | ⟨-, -, rfl, rfl⟩
  · rw [Int.neg_mul, Int.neg_neg]
  · rw [Int.mul_neg, Int.neg_neg]
theorem own_signs' {p o P O : Int} (h : (p < 0 ∧ o < 0 ∧ P = -p ∧ O = -o) ∨ (0 ≤ p ∧ 0 ≤ o ∧ P = p ∧ O = o)) : p * o = P * O := by
  rcases h with ⟨-, -, rfl, rfl⟩ | ⟨-, -, rfl, rfl⟩
  · rw [Int.neg_mul_neg]
  · rfl
theorem own_mul1 {P O : Int} (h1 : 1 ≤ P) (h2 : 1 ≤ O) : P ≤ P * O ∧ O ≤ P * O ∧ 1 ≤ P * O := by
  have q1 := Int.mul_le_mul (Int.le_refl P) h2 (by omega) (by omega)
  have q2 := Int.mul_le_mul h1 (Int.le_refl O) (by omega) (by omega)
  rw [Int.mul_one] at q1; rw [Int.one_mul] at q2
  omega

set_option maxRecDepth 65536 in
set_option maxHeartbeats 40000000 in
theorem own_is_ef (m : MethodId) (x0 : Addr) : entryFrame m #[(.ref x0)] 1 = mkF m 0 #[.val (.ref x0)] [] := by first | (simp [entryFrame, mkF, argsToLocals, Value.category]; done) | rfl
set_option maxRecDepth 65536 in
set_option maxHeartbeats 40000000 in
theorem own_is {l : Launch} {Z : State} {a0 : Array Value} (hw : own_Z Z a0) {h : Heap} {a : Addr} : own_Met false l Z (⟨"com/example/fuseplan/fuseplan/plan/Budget$Spent", "<init>", "()V"⟩ : MethodName) prog_84_method_1_code 1 none [] ({ frames := 1, cells := 0, slots := 0, locals := 12 } : Room) #[(.ref a)] h (fun v h' => v = none ∧ h = h') := by
  refine own_met (by first | exact plainFor_of_name (by decide +kernel) | decide +kernel) ?_
  intro p e s m below meth c K
  refine own_cast (own_is_ef m _) ?_
  refine own_aloadN K own_d0_0 rfl rfl ?_
  refine own_initO K own_d0_1 (own_w13 hw) (own_w14 hw) (own_w15 hw) rfl (by decide) (W := 0) (Nat.le_of_eq rfl) (by decide) ?_
  exact own_retV K own_d0_4 (by decide) (by decide) (⟨rfl, rfl⟩)
set_option maxRecDepth 65536 in
set_option maxHeartbeats 40000000 in
theorem own_i3_ef (m : MethodId) (x0 : Addr) (x1 : Addr) (x2 : Int32) (x3 : Int64) : entryFrame m #[(.ref x0), (.ref x1), (.int x2), (.long x3)] 5 = mkF m 0 #[.val (.ref x0), .val (.ref x1), .val (.int x2), .val (.long x3), .second] [] := by first | (simp [entryFrame, mkF, argsToLocals, Value.category]; done) | rfl
set_option maxRecDepth 65536 in
set_option maxHeartbeats 40000000 in
theorem own_i3 {l : Launch} {Z : State} {a0 : Array Value} (hw : own_Z Z a0) {h : Heap} {os : List own_O} {as : List own_A} {a b : Addr} {pl : Int32} {wk : Int64} (H : own_H Z h (own_BU a .null (.int (0 : Int32)) (.long (0 : Int64)) :: os) as) : own_Met false l Z (⟨"com/example/fuseplan/fuseplan/plan/Budget", "<init>", "(Lcom/example/fuseplan/fuseplan/plan/Budget$Spent;IJ)V"⟩ : MethodName) prog_83_method_2_code 5 none [] ({ frames := 1, cells := 0, slots := 0, locals := 12 } : Room) #[(.ref a), (.ref b), (.int pl), (.long wk)] h (fun v h' => v = none ∧ own_H Z h' (own_BU a (.ref b) (.int pl) (.long wk) :: os) as) := by
  refine own_met (by first | exact plainFor_of_name (by decide +kernel) | decide +kernel) ?_
  intro p e s m below meth c K
  refine own_cast (own_i3_ef m _ _ _ _) ?_
  refine own_aloadN K own_d1_0 rfl rfl ?_
  refine own_initO K own_d1_1 (own_w20 hw) (own_w14 hw) (own_w15 hw) rfl (by decide) (W := 0) (Nat.le_of_eq rfl) (by decide) ?_
  refine own_aloadN K own_d1_4 rfl rfl ?_
  refine own_aloadN K own_d1_5 rfl rfl ?_
  refine own_putfield K own_d1_6 (host := "") (Or.inl (own_w21 hw)) Via.refl H (j := 0) rfl (q := 0) rfl (Or.inr ⟨(own_w22 hw), rfl, rfl⟩) (own_w2 hw) (ty := (.object "com/example/fuseplan/fuseplan/plan/Budget$Spent")) (by decide +kernel) (rfl) rfl ?_
  intro h1 H2
  replace H2 : own_H Z h1 (own_BU a (.ref b) (.int (0 : Int32)) (.long (0 : Int64)) :: os) (as) := H2
  refine own_aloadN K own_d1_9 rfl rfl ?_
  refine own_iloadN K own_d1_10 rfl ?_
  refine own_putfield K own_d1_11 (host := "") (Or.inl (own_w23 hw)) Via.refl H2 (j := 0) rfl (q := 1) rfl (Or.inr ⟨(own_w24 hw), rfl, rfl⟩) (own_w2 hw) (ty := .int) (by decide +kernel) (rfl) rfl ?_
  intro h3 H4
  replace H4 : own_H Z h3 (own_BU a (.ref b) (.int pl) (.long (0 : Int64)) :: os) (as) := H4
  refine own_aloadN K own_d1_14 rfl rfl ?_
  refine own_lloadN K own_d1_15 rfl ?_
  refine own_putfield K own_d1_16 (host := "") (Or.inl (own_w25 hw)) Via.refl H4 (j := 0) rfl (q := 2) rfl (Or.inr ⟨(own_w26 hw), rfl, rfl⟩) (own_w2 hw) (ty := .long) (by decide +kernel) (rfl) rfl ?_
  intro h5 H6
  replace H6 : own_H Z h5 (own_BU a (.ref b) (.int pl) (.long wk) :: os) (as) := H6
  exact own_retV K own_d1_19 (by decide) (by decide) (⟨rfl, H6⟩)
set_option maxRecDepth 65536 in
set_option maxHeartbeats 40000000 in
theorem own_i0_ef (m : MethodId) (x0 : Addr) : entryFrame m #[(.ref x0)] 1 = mkF m 0 #[.val (.ref x0)] [] := by first | (simp [entryFrame, mkF, argsToLocals, Value.category]; done) | rfl
set_option maxRecDepth 65536 in
set_option maxHeartbeats 40000000 in
theorem own_i0 {l : Launch} {Z : State} {a0 : Array Value} (hw : own_Z Z a0) {h : Heap} {os : List own_O} {as : List own_A} {a : Addr} (H : own_H Z h (own_BU a .null (.int (0 : Int32)) (.long (0 : Int64)) :: os) as) : own_Met false l Z (⟨"com/example/fuseplan/fuseplan/plan/Budget", "<init>", "()V"⟩ : MethodName) prog_83_method_1_code 1 none [] ({ frames := 2, cells := 1, slots := 2, locals := 29 } : Room) #[(.ref a)] h (fun v h' => v = none ∧ ∃ b, own_H Z h' (own_BU a (.ref b) (.int (3000 : Int32)) (.long (200000 : Int64)) :: own_SP b (.int (0 : Int32)) (.long (0 : Int64)) :: os) as) := by
  refine own_met (by first | exact plainFor_of_name (by decide +kernel) | decide +kernel) ?_
  intro p e s m below meth c K
  refine own_cast (own_i0_ef m _) ?_
  refine own_aloadN K own_d2_0 rfl rfl ?_
  refine own_new K own_d2_1 (own_w7 hw) (own_w8 hw) (own_w9 hw) H (own_SP_F hw) (own_SP_P hw) (by decide) (by decide) ?_
  intro h1 a3 H2
  replace H2 : own_H Z h1 (own_SP a3 (.int (0 : Int32)) (.long (0 : Int64)) :: own_BU a .null (.int (0 : Int32)) (.long (0 : Int64)) :: os) (as) := H2
  refine own_dup K own_d2_4 rfl ?_
  refine own_specialRef K own_d2_5 rfl (own_w10 hw) (own_w11 hw) (own_w9 hw) (own_w12 hw) (a := a3) (argsL := []) (rest := [(.ref a3), (.ref a)]) (own_is hw) own_pd0 rfl rfl rfl (by decide) (W := 2) (Nat.le_of_eq rfl) (by decide) (by decide) (by decide) (by decide) ?_
  intro v6 h4 q5
  obtain ⟨rfl, rfl⟩ := q5
  refine own_sipush K own_d2_8 (v := (3000 : Int32)) rfl ?_
  refine own_ldc2J K own_d2_11 (v := (200000 : Int64)) (own_w16 hw) ?_
  have H7 := H2.frontO 1 rfl
  replace H7 : own_H Z h1 (own_BU a .null (.int (0 : Int32)) (.long (0 : Int64)) :: own_SP a3 (.int (0 : Int32)) (.long (0 : Int64)) :: os) (as) := H7
  refine own_special K own_d2_14 rfl (own_w17 hw) (own_w18 hw) (own_w3 hw) (own_w19 hw) (a := a) (argsL := [(.ref a3), (.int (3000 : Int32)), (.long (200000 : Int64))]) (rest := []) (own_i3 hw H7) own_pd1 rfl rfl rfl (by decide) (W := 0) (Nat.le_of_eq rfl) (by decide) (by decide) (by decide) (by decide) ?_
  intro v10 h8 q9
  obtain ⟨rfl, H11⟩ := q9
  replace H11 : own_H Z h8 (own_BU a (.ref a3) (.int (3000 : Int32)) (.long (200000 : Int64)) :: own_SP a3 (.int (0 : Int32)) (.long (0 : Int64)) :: os) (as) := H11
  exact own_retV K own_d2_17 (by decide) (by decide) (⟨rfl, _, H11⟩)
set_option maxRecDepth 65536 in
set_option maxHeartbeats 40000000 in
theorem own_spend_ef (m : MethodId) (x0 : Addr) (x1 : Int64) : entryFrame m #[(.ref x0), (.long x1)] 3 = mkF m 0 #[.val (.ref x0), .val (.long x1), .second] [] := by first | (simp [entryFrame, mkF, argsToLocals, Value.category]; done) | rfl
set_option maxRecDepth 65536 in
set_option maxHeartbeats 40000000 in
theorem own_spend {l : Launch} {Z : State} {a0 : Array Value} (hw : own_Z Z a0) {h : Heap} {os : List own_O} {as : List own_A} {a b : Addr} {pl sp : Int32} {wk sw : Int64} {sp' : Int32} {x : Int64} (H : own_H Z h (own_BU a (.ref b) (.int pl) (.long wk) :: own_SP b (.int sp) (.long sw) :: os) as) (hsp : sp + (1 : Int32) = sp') : own_Met false l Z (⟨"com/example/fuseplan/fuseplan/plan/Budget", "spend", "(J)V"⟩ : MethodName) prog_83_method_6_code 3 none [] ({ frames := 0, cells := 0, slots := 0, locals := 0 } : Room) #[(.ref a), (.long x)] h (fun v h' => v = none ∧ own_H Z h' (own_BU a (.ref b) (.int pl) (.long wk) :: own_SP b (.int sp') (.long (sw + x)) :: os) as) := by
  refine own_met (by first | exact plainFor_of_name (by decide +kernel) | decide +kernel) ?_
  intro p e s m below meth c K
  refine own_cast (own_spend_ef m _ _) ?_
  refine own_aloadN K own_d3_0 rfl rfl ?_
  refine own_getfield K own_d3_1 (host := "") (Or.inl (own_w21 hw)) Via.refl H (j := 0) rfl (q := 0) rfl ?_
  refine own_dup K own_d3_4 rfl ?_
  refine own_getfieldRef K own_d3_5 (own_w32 hw) H (j := 1) rfl (q := 0) rfl ?_
  refine own_iconst K own_d3_8 (v := (1 : Int32)) rfl ?_
  refine own_iadd K own_d3_9 ?_
  refine own_topI (x' := sp') (hsp) ?_
  refine own_putfieldRef K own_d3_10 (own_w32 hw) H (j := 1) rfl (q := 0) rfl (own_w33 hw) (own_w8 hw) (ty := .int) (by decide +kernel) (rfl) rfl ?_
  intro h1 H2
  replace H2 : own_H Z h1 (own_BU a (.ref b) (.int pl) (.long wk) :: own_SP b (.int sp') (.long sw) :: os) (as) := H2
  refine own_aloadN K own_d3_13 rfl rfl ?_
  refine own_getfield K own_d3_14 (host := "") (Or.inl (own_w21 hw)) Via.refl H2 (j := 0) rfl (q := 0) rfl ?_
  refine own_dup K own_d3_17 rfl ?_
  refine own_getfieldRef K own_d3_18 (own_w34 hw) H2 (j := 1) rfl (q := 1) rfl ?_
  refine own_lloadN K own_d3_21 rfl ?_
  refine own_ladd K own_d3_22 ?_
  refine own_putfieldRef K own_d3_23 (own_w34 hw) H2 (j := 1) rfl (q := 1) rfl (own_w35 hw) (own_w8 hw) (ty := .long) (by decide +kernel) (rfl) rfl ?_
  intro h3 H4
  replace H4 : own_H Z h3 (own_BU a (.ref b) (.int pl) (.long wk) :: own_SP b (.int sp') (.long (sw + x)) :: os) (as) := H4
  exact own_retV K own_d3_26 (by decide) (by decide) (⟨rfl, H4⟩)
set_option maxRecDepth 65536 in
set_option maxHeartbeats 40000000 in
theorem own_half_ef (m : MethodId) (x0 : Addr) : entryFrame m #[(.ref x0)] 1 = mkF m 0 #[.val (.ref x0)] [] := by first | (simp [entryFrame, mkF, argsToLocals, Value.category]; done) | rfl
set_option maxRecDepth 65536 in
set_option maxHeartbeats 40000000 in
theorem own_half {l : Launch} {Z : State} {a0 : Array Value} (hw : own_Z Z a0) {h : Heap} {os : List own_O} {as : List own_A} {a b : Addr} {pl sp : Int32} {wk sw : Int64} {pl' : Int32} (H : own_H Z h (own_BU a (.ref b) (.int pl) (.long wk) :: own_SP b (.int sp) (.long sw) :: os) as) (hpl : sp + ((pl - sp) / (2 : Int32)) = pl') : own_Met false l Z (⟨"com/example/fuseplan/fuseplan/plan/Budget", "halfOfRest", "()Lcom/example/fuseplan/fuseplan/plan/Budget;"⟩ : MethodName) prog_83_method_3_code 1 (some (.object "com/example/fuseplan/fuseplan/plan/Budget")) [] ({ frames := 2, cells := 1, slots := 3, locals := 40 } : Room) #[(.ref a)] h (fun v h' => ∃ c, v = some (.ref c) ∧ own_H Z h' (own_BU c (.ref b) (.int pl') (.long (sw + ((wk - sw) / (2 : Int64)))) :: own_BU a (.ref b) (.int pl) (.long wk) :: own_SP b (.int sp) (.long sw) :: os) as) := by
  refine own_met (by first | exact plainFor_of_name (by decide +kernel) | decide +kernel) ?_
  intro p e s m below meth c K
  refine own_cast (own_half_ef m _) ?_
  refine own_new K own_d4_0 (own_w57 hw) (own_w2 hw) (own_w3 hw) H (own_BU_F hw) (own_BU_P hw) (by decide) (by decide) ?_
  intro h1 a3 H2
  replace H2 : own_H Z h1 (own_BU a3 .null (.int (0 : Int32)) (.long (0 : Int64)) :: own_BU a (.ref b) (.int pl) (.long wk) :: own_SP b (.int sp) (.long sw) :: os) (as) := H2
  refine own_dup K own_d4_3 rfl ?_
  refine own_aloadN K own_d4_4 rfl rfl ?_
  refine own_getfield K own_d4_5 (host := "") (Or.inl (own_w21 hw)) Via.refl H2 (j := 1) rfl (q := 0) rfl ?_
  refine own_aloadN K own_d4_8 rfl rfl ?_
  refine own_getfield K own_d4_9 (host := "") (Or.inl (own_w21 hw)) Via.refl H2 (j := 1) rfl (q := 0) rfl ?_
  refine own_getfieldRef K own_d4_12 (own_w32 hw) H2 (j := 2) rfl (q := 0) rfl ?_
  refine own_aloadN K own_d4_15 rfl rfl ?_
  refine own_getfield K own_d4_16 (host := "") (Or.inl (own_w23 hw)) Via.refl H2 (j := 1) rfl (q := 1) rfl ?_
  refine own_aloadN K own_d4_19 rfl rfl ?_
  refine own_getfield K own_d4_20 (host := "") (Or.inl (own_w21 hw)) Via.refl H2 (j := 1) rfl (q := 0) rfl ?_
  refine own_getfieldRef K own_d4_23 (own_w32 hw) H2 (j := 2) rfl (q := 0) rfl ?_
  refine own_isub K own_d4_26 ?_
  refine own_iconst K own_d4_27 (v := (2 : Int32)) rfl ?_
  refine own_idiv K own_d4_28 (by decide) ?_
  refine own_iadd K own_d4_29 ?_
  refine own_topI (x' := pl') (hpl) ?_
  refine own_aloadN K own_d4_30 rfl rfl ?_
  refine own_getfield K own_d4_31 (host := "") (Or.inl (own_w21 hw)) Via.refl H2 (j := 1) rfl (q := 0) rfl ?_
  refine own_getfieldRef K own_d4_34 (own_w34 hw) H2 (j := 2) rfl (q := 1) rfl ?_
  refine own_aloadN K own_d4_37 rfl rfl ?_
  refine own_getfield K own_d4_38 (host := "") (Or.inl (own_w25 hw)) Via.refl H2 (j := 1) rfl (q := 2) rfl ?_
  refine own_aloadN K own_d4_41 rfl rfl ?_
  refine own_getfield K own_d4_42 (host := "") (Or.inl (own_w21 hw)) Via.refl H2 (j := 1) rfl (q := 0) rfl ?_
  refine own_getfieldRef K own_d4_45 (own_w34 hw) H2 (j := 2) rfl (q := 1) rfl ?_
  refine own_lsub K own_d4_48 ?_
  refine own_ldc2J K own_d4_49 (v := (2 : Int64)) (own_w58 hw) ?_
  refine own_ldiv K own_d4_52 (by decide) ?_
  refine own_ladd K own_d4_53 ?_
  refine own_special K own_d4_54 rfl (own_w17 hw) (own_w18 hw) (own_w3 hw) (own_w19 hw) (a := a3) (argsL := [(.ref b), (.int pl'), (.long (sw + ((wk - sw) / (2 : Int64))))]) (rest := [(.ref a3)]) (own_i3 hw H2) own_pd1 rfl rfl rfl (by decide) (W := 1) (Nat.le_of_eq rfl) (by decide) (by decide) (by decide) (by decide) ?_
  intro v6 h4 q5
  obtain ⟨rfl, H7⟩ := q5
  replace H7 : own_H Z h4 (own_BU a3 (.ref b) (.int pl') (.long (sw + ((wk - sw) / (2 : Int64)))) :: own_BU a (.ref b) (.int pl) (.long wk) :: own_SP b (.int sp) (.long sw) :: os) (as) := H7
  exact own_retA K rfl rfl own_d4_57 (by decide) (by decide) (⟨_, rfl, H7⟩)
set_option maxRecDepth 65536 in
set_option maxHeartbeats 40000000 in
theorem own_aff_ef (m : MethodId) (x0 : Addr) (x1 : Int64) (x2 : Int64) : entryFrame m #[(.ref x0), (.long x1), (.long x2)] 5 = mkF m 0 #[.val (.ref x0), .val (.long x1), .second, .val (.long x2), .second] [] := by first | (simp [entryFrame, mkF, argsToLocals, Value.category]; done) | rfl
set_option maxRecDepth 65536 in
set_option maxHeartbeats 40000000 in
theorem own_aff {l : Launch} {Z : State} {a0 : Array Value} (hw : own_Z Z a0) {h : Heap} {os : List own_O} {as : List own_A} {a b : Addr} {pl sp : Int32} {wk sw : Int64} {x y : Int64} (H : own_H Z h (own_BU a (.ref b) (.int pl) (.long wk) :: own_SP b (.int sp) (.long sw) :: os) as) (hr : own_small 4000000 (wk - sw)) : own_Met false l Z (⟨"com/example/fuseplan/fuseplan/plan/Budget", "affords", "(JJ)Z"⟩ : MethodName) prog_83_method_5_code 5 (some .boolean) [] ({ frames := 0, cells := 0, slots := 0, locals := 0 } : Room) #[(.ref a), (.long x), (.long y)] h (fun v h' => v = some (.int (if x.toInt ≤ (pl - sp).toInt ∧ x.toInt * y.toInt ≤ (wk - sw).toInt then 1 else 0)) ∧ h = h') := by
  refine own_met (by first | exact plainFor_of_name (by decide +kernel) | decide +kernel) ?_
  intro p e s m below meth c K
  refine own_cast (own_aff_ef m _ _ _) ?_
  refine own_lloadN K own_d5_0 rfl ?_
  refine own_aloadN K own_d5_1 rfl rfl ?_
  refine own_getfield K own_d5_2 (host := "") (Or.inl (own_w23 hw)) Via.refl H (j := 0) rfl (q := 1) rfl ?_
  refine own_aloadN K own_d5_5 rfl rfl ?_
  refine own_getfield K own_d5_6 (host := "") (Or.inl (own_w21 hw)) Via.refl H (j := 0) rfl (q := 0) rfl ?_
  refine own_getfieldRef K own_d5_9 (own_w32 hw) H (j := 1) rfl (q := 0) rfl ?_
  refine own_isub K own_d5_12 ?_
  refine own_i2l K own_d5_13 ?_
  refine own_lcmp K own_d5_14 ?_
  refine own_ifgt K own_d5_15 (fun g1 => ?_) (fun g1 => ?_)
  · refine own_iconst K own_d5_44 (v := (0 : Int32)) rfl ?_
    exact own_retZ K (by first | exact Or.inl rfl | exact Or.inr rfl | decide) own_d5_45 (by decide) (by decide) (⟨by rw [if_neg (fun c => by rw [own_cl_gt, own_i64] at g1; omega)], rfl⟩)
  · refine own_lloadN K own_d5_18 rfl ?_
    refine own_l2d K own_d5_19 ?_
    refine own_lloadN K own_d5_20 rfl ?_
    refine own_l2d K own_d5_21 ?_
    refine own_dmul K own_d5_22 (Fl.dmul_out (Fl.l2d_fin _) (Fl.l2d_fin _)) ?_
    refine own_aloadN K own_d5_23 rfl rfl ?_
    refine own_getfield K own_d5_24 (host := "") (Or.inl (own_w25 hw)) Via.refl H (j := 0) rfl (q := 2) rfl ?_
    refine own_aloadN K own_d5_27 rfl rfl ?_
    refine own_getfield K own_d5_28 (host := "") (Or.inl (own_w21 hw)) Via.refl H (j := 0) rfl (q := 0) rfl ?_
    refine own_getfieldRef K own_d5_31 (own_w34 hw) H (j := 1) rfl (q := 1) rfl ?_
    refine own_lsub K own_d5_34 ?_
    refine own_l2d K own_d5_35 ?_
    refine own_dcmp K own_d5_36 ?_
    refine own_ifgt K own_d5_37 (fun g2 => ?_) (fun g2 => ?_)
    · refine own_iconst K own_d5_44 (v := (0 : Int32)) rfl ?_
      exact own_retZ K (by first | exact Or.inl rfl | exact Or.inr rfl | decide) own_d5_45 (by decide) (by decide) (⟨by rw [if_neg (fun c => by rw [own_bud hr] at g2; omega)], rfl⟩)
    · refine own_iconst K own_d5_40 (v := (1 : Int32)) rfl ?_
      refine own_goto K own_d5_41 ?_
      exact own_retZ K (by first | exact Or.inl rfl | exact Or.inr rfl | decide) own_d5_45 (by decide) (by decide) (⟨by rw [if_pos ⟨by rw [own_cl_gt, own_i64] at g1; omega, by rw [own_bud hr] at g2; omega⟩], rfl⟩)
set_option maxRecDepth 65536 in
set_option maxHeartbeats 40000000 in
theorem own_abs_ef (m : MethodId) (x0 : Int64) : entryFrame m #[(.long x0)] 2 = mkF m 0 #[.val (.long x0), .second] [] := by first | (simp [entryFrame, mkF, argsToLocals, Value.category]; done) | rfl
set_option maxRecDepth 65536 in
set_option maxHeartbeats 40000000 in
theorem own_abs {l : Launch} {Z : State} {a0 : Array Value} (hw : own_Z Z a0) {h : Heap} {x : Int64} (hx : -9223372036854775808 < x.toInt) : own_Met false l Z (⟨"java/lang/Math", "abs", "(J)J"⟩ : MethodName) jdk_29_method_61_code 2 (some .long) [] ({ frames := 0, cells := 0, slots := 0, locals := 0 } : Room) #[(.long x)] h (fun v h' => (∃ z : Int64, v = some (.long z) ∧ ((0 ≤ x.toInt ∧ z.toInt = x.toInt) ∨ (x.toInt < 0 ∧ z.toInt = -x.toInt))) ∧ h = h') := by
  refine own_met (by first | exact plainFor_of_name (by decide +kernel) | decide +kernel) ?_
  intro p e s m below meth c K
  refine own_cast (own_abs_ef m _) ?_
  refine own_lloadN K own_d6_0 rfl ?_
  refine own_lconst K own_d6_1 (v := (0 : Int64)) rfl ?_
  refine own_lcmp K own_d6_2 ?_
  refine own_ifge K own_d6_3 (fun g => ?_) (fun g => ?_)
  · refine own_lloadN K own_d6_11 rfl ?_
    exact own_retL K own_d6_12 (by decide) (by decide) (⟨⟨_, rfl, Or.inl ⟨by rw [own_cl_ge] at g; exact g, rfl⟩⟩, rfl⟩)
  · refine own_lloadN K own_d6_6 rfl ?_
    refine own_lneg K own_d6_7 ?_
    refine own_goto K own_d6_8 ?_
    exact own_retL K own_d6_12 (by decide) (by decide) (⟨⟨_, rfl, Or.inr ⟨by rw [own_cl_ge] at g; exact Int.lt_of_not_ge g, own_neg64 hx⟩⟩, rfl⟩)
theorem own_minN {p o r : Int} (sp : (0 ≤ p ∧ ¬ 0 ≤ o) ∨ (¬ 0 ≤ p ∧ 0 ≤ o)) (zp : ¬ p = 0) (zo : ¬ o = 0) (hr : -4000000 ≤ r) (hm : p = -9223372036854775808 ∨ o = -9223372036854775808) : p * o ≤ r := by
  rcases sp with ⟨a, b⟩ | ⟨a, b⟩
  · have q := own_mul1 (P := p) (O := -o) (by omega) (by omega)
    rw [Int.mul_neg] at q; omega
  · have q := own_mul1 (P := -p) (O := o) (by omega) (by omega)
    rw [Int.neg_mul] at q; omega
theorem own_minP {p o r : Int} (sp : (0 ≤ p ∧ 0 ≤ o) ∨ (¬ 0 ≤ p ∧ ¬ 0 ≤ o)) (zp : ¬ p = 0) (zo : ¬ o = 0) (hr : r ≤ 4000000) (hm : p = -9223372036854775808 ∨ o = -9223372036854775808) : ¬ p * o ≤ r := by
  rcases sp with ⟨a, b⟩ | ⟨a, b⟩
  · omega
  · have q := own_mul1 (P := -p) (O := -o) (by omega) (by omega)
    rw [Int.neg_mul_neg] at q; omega
set_option maxRecDepth 65536 in
set_option maxHeartbeats 40000000 in
theorem own_pm_ef (m : MethodId) (x0 : Int64) (x1 : Int64) (x2 : Int64) : entryFrame m #[(.long x0), (.long x1), (.long x2)] 11 = mkF m 0 #[.val (.long x0), .second, .val (.long x1), .second, .val (.long x2), .second, .unset, .unset, .unset, .unset, .unset] [] := by first | (simp [entryFrame, mkF, argsToLocals, Value.category]; done) | rfl
set_option maxRecDepth 65536 in
set_option maxHeartbeats 40000000 in
theorem own_pm {l : Launch} {Z : State} {a0 : Array Value} (hw : own_Z Z a0) {h : Heap} {x y r : Int64} (hr : own_small 4000000 r) : own_Met false l Z (⟨"com/example/fuseplan/fuseplan/plan/BudgetAffordsPinLaw", "productAtMost", "(JJJ)Z"⟩ : MethodName) method_2_code 11 (some .boolean) [] ({ frames := 1, cells := 0, slots := 0, locals := 13 } : Room) #[(.long x), (.long y), (.long r)] h (fun v h' => v = some (.int (if x.toInt * y.toInt ≤ r.toInt then 1 else 0)) ∧ h = h') := by
  refine own_met (by first | exact plainFor_of_name (by decide +kernel) | decide +kernel) ?_
  intro p e s m below meth c K
  refine own_cast (own_pm_ef m _ _ _) ?_
  refine own_lloadN K own_d7_0 rfl ?_
  refine own_lconst K own_d7_1 (v := (0 : Int64)) rfl ?_
  refine own_lcmp K own_d7_2 ?_
  refine own_ifeq K own_d7_3 (fun gp => ?_) (fun gp => ?_)
  · refine own_lload K own_d7_12 rfl ?_
    refine own_lconst K own_d7_14 (v := (0 : Int64)) rfl ?_
    refine own_lcmp K own_d7_15 ?_
    refine own_iflt K own_d7_16 (fun gr => ?_) (fun gr => ?_)
    · refine own_iconst K own_d7_23 (v := (0 : Int32)) rfl ?_
      exact own_retZ K (by first | exact Or.inl rfl | exact Or.inr rfl | decide) own_d7_24 (by decide) (by decide) (⟨by have e0 : x.toInt * y.toInt = 0 := (by rw [own_cl_eq] at gp; have : (0 : Int64).toInt = 0 := rfl; rw [show x.toInt = 0 by omega, Int.zero_mul]); rw [own_cl_lt] at gr; have : (0 : Int64).toInt = 0 := rfl; rw [if_neg (by omega)], rfl⟩)
    · refine own_iconst K own_d7_19 (v := (1 : Int32)) rfl ?_
      refine own_goto K own_d7_20 ?_
      exact own_retZ K (by first | exact Or.inl rfl | exact Or.inr rfl | decide) own_d7_24 (by decide) (by decide) (⟨by have e0 : x.toInt * y.toInt = 0 := (by rw [own_cl_eq] at gp; have : (0 : Int64).toInt = 0 := rfl; rw [show x.toInt = 0 by omega, Int.zero_mul]); rw [own_cl_lt] at gr; have : (0 : Int64).toInt = 0 := rfl; rw [if_pos (by omega)], rfl⟩)
  · refine own_lloadN K own_d7_6 rfl ?_
    refine own_lconst K own_d7_7 (v := (0 : Int64)) rfl ?_
    refine own_lcmp K own_d7_8 ?_
    refine own_ifne K own_d7_9 (fun go => ?_) (fun go => ?_)
    · refine own_lloadN K own_d7_25 rfl ?_
      refine own_lconst K own_d7_26 (v := (0 : Int64)) rfl ?_
      refine own_lcmp K own_d7_27 ?_
      refine own_ifge K own_d7_28 (fun sp_ => ?_) (fun sp_ => ?_)
      · refine own_iconst K own_d7_35 (v := (0 : Int32)) rfl ?_
        refine own_lloadN K own_d7_36 rfl ?_
        refine own_lconst K own_d7_37 (v := (0 : Int64)) rfl ?_
        refine own_lcmp K own_d7_38 ?_
        refine own_ifge K own_d7_39 (fun so => ?_) (fun so => ?_)
        · refine own_iconst K own_d7_46 (v := (0 : Int32)) rfl ?_
          refine own_icmpeq K own_d7_47 (fun _ => ?_) (fun q => absurd (by decide) q)
          refine own_iconst K own_d7_54 (v := (0 : Int32)) rfl ?_
          refine own_istore K own_d7_55 (Ls' := #[.val (.long x), .second, .val (.long y), .second, .val (.long r), .second, .val (.int (0 : Int32)), .unset, .unset, .unset, .unset]) rfl ?_
          refine own_lloadN K own_d7_57 rfl ?_
          refine own_ldc2J K own_d7_58 (v := (-9223372036854775808 : Int64)) (own_w42 hw) ?_
          refine own_lcmp K own_d7_61 ?_
          refine own_ifeq K own_d7_62 (fun mp => ?_) (fun mp => ?_)
          · refine own_iload K own_d7_73 rfl ?_
            have zp : ¬ x.toInt = 0 := by rw [own_cl_eq] at gp; exact gp
            have zo : ¬ y.toInt = 0 := by rw [Ne, own_cl_eq] at go; exact go
            exact own_retZ K (by first | exact Or.inl rfl | exact Or.inr rfl | decide) own_d7_75 (by decide) (by decide) (⟨by rw [own_cl_eq] at mp; rw [own_cl_ge] at sp_ so; have e0 : (0 : Int64).toInt = 0 := rfl; have e9 : (-9223372036854775808 : Int64).toInt = -9223372036854775808 := rfl; rw [e0] at sp_ so; unfold own_small at hr; rw [if_neg (own_minP (by omega) zp zo hr.2 (by omega))], rfl⟩)
          · refine own_lloadN K own_d7_65 rfl ?_
            refine own_ldc2J K own_d7_66 (v := (-9223372036854775808 : Int64)) (own_w42 hw) ?_
            refine own_lcmp K own_d7_69 ?_
            refine own_ifne K own_d7_70 (fun mo => ?_) (fun mo => ?_)
            · refine own_lloadN K own_d7_76 rfl ?_
              refine own_static K own_d7_77 (own_w43 hw) (own_w44 hw) (own_w45 hw) (own_w46 hw) (argsL := [(.long x)]) (rest := []) (own_abs hw (by have := Int64.le_toInt x; rw [own_cl_eq] at mp; have : (-9223372036854775808 : Int64).toInt = -9223372036854775808 := rfl; omega)) own_pd2 rfl rfl rfl (by decide) (W := 0) (Nat.le_of_eq rfl) (by decide) (by decide) (by decide) (by decide) ?_
              intro v3 h1 q2
              obtain ⟨⟨ap, rfl, e_ap⟩, rfl⟩ := q2
              refine own_lstore K own_d7_80 (Ls' := #[.val (.long x), .second, .val (.long y), .second, .val (.long r), .second, .val (.int (0 : Int32)), .val (.long ap), .second, .unset, .unset]) rfl ?_
              refine own_lloadN K own_d7_82 rfl ?_
              refine own_static K own_d7_83 (own_w43 hw) (own_w44 hw) (own_w45 hw) (own_w46 hw) (argsL := [(.long y)]) (rest := []) (own_abs hw (by have := Int64.le_toInt y; rw [Ne, own_cl_eq] at mo; have : (-9223372036854775808 : Int64).toInt = -9223372036854775808 := rfl; omega)) own_pd2 rfl rfl rfl (by decide) (W := 0) (Nat.le_of_eq rfl) (by decide) (by decide) (by decide) (by decide) ?_
              intro v6 h4 q5
              obtain ⟨⟨ao, rfl, e_ao⟩, rfl⟩ := q5
              have zp : ¬ x.toInt = 0 := by rw [own_cl_eq] at gp; exact gp
              have zo : ¬ y.toInt = 0 := by rw [Ne, own_cl_eq] at go; exact go
              have hP : 1 ≤ ap.toInt := by omega
              have hO : 1 ≤ ao.toInt := by omega
              refine own_lstore K own_d7_86 (Ls' := #[.val (.long x), .second, .val (.long y), .second, .val (.long r), .second, .val (.int (0 : Int32)), .val (.long ap), .second, .val (.long ao), .second]) rfl ?_
              refine own_iload K own_d7_88 rfl ?_
              refine own_ifeq K own_d7_90 (fun _ => ?_) (fun q => absurd (by decide) q)
              refine own_lload K own_d7_122 rfl ?_
              refine own_lconst K own_d7_124 (v := (1 : Int64)) rfl ?_
              refine own_lcmp K own_d7_125 ?_
              refine own_ifge K own_d7_126 (fun gr => ?_) (fun gr => ?_)
              · refine own_lload K own_d7_131 rfl ?_
                refine own_lload K own_d7_133 rfl ?_
                refine own_lload K own_d7_135 rfl ?_
                refine own_ldiv K own_d7_137 (own_nz64 hP) ?_
                refine own_lcmp K own_d7_138 ?_
                refine own_ifgt K own_d7_139 (fun gd => ?_) (fun gd => ?_)
                · refine own_iconst K own_d7_146 (v := (0 : Int32)) rfl ?_
                  have e0 : (0 : Int64).toInt = 0 := rfl
                  have e1 : (1 : Int64).toInt = 1 := rfl
                  rw [own_cl_ge, e0] at sp_ so
                  have m1 := own_mul1 hP hO
                  have hT : x.toInt * y.toInt = ap.toInt * ao.toInt := own_signs' (by omega)
                  exact own_retZ K (by first | exact Or.inl rfl | exact Or.inr rfl | decide) own_d7_147 (by decide) (by decide) (⟨by rw [own_cl_ge, e1] at gr; rw [own_cl_gt, own_lfP gr hP hT] at gd; rw [if_neg (by omega)], rfl⟩)
                · refine own_iconst K own_d7_142 (v := (1 : Int32)) rfl ?_
                  refine own_goto K own_d7_143 ?_
                  have e0 : (0 : Int64).toInt = 0 := rfl
                  have e1 : (1 : Int64).toInt = 1 := rfl
                  rw [own_cl_ge, e0] at sp_ so
                  have m1 := own_mul1 hP hO
                  have hT : x.toInt * y.toInt = ap.toInt * ao.toInt := own_signs' (by omega)
                  exact own_retZ K (by first | exact Or.inl rfl | exact Or.inr rfl | decide) own_d7_147 (by decide) (by decide) (⟨by rw [own_cl_ge, e1] at gr; rw [own_cl_gt, own_lfP gr hP hT] at gd; rw [if_pos (by omega)], rfl⟩)
              · refine own_iconst K own_d7_129 (v := (0 : Int32)) rfl ?_
                have e0 : (0 : Int64).toInt = 0 := rfl
                have e1 : (1 : Int64).toInt = 1 := rfl
                rw [own_cl_ge, e0] at sp_ so
                have m1 := own_mul1 hP hO
                have hT : x.toInt * y.toInt = ap.toInt * ao.toInt := own_signs' (by omega)
                exact own_retZ K (by first | exact Or.inl rfl | exact Or.inr rfl | decide) own_d7_130 (by decide) (by decide) (⟨by rw [own_cl_ge, e1] at gr; rw [if_neg (by omega)], rfl⟩)
            · refine own_iload K own_d7_73 rfl ?_
              have zp : ¬ x.toInt = 0 := by rw [own_cl_eq] at gp; exact gp
              have zo : ¬ y.toInt = 0 := by rw [Ne, own_cl_eq] at go; exact go
              exact own_retZ K (by first | exact Or.inl rfl | exact Or.inr rfl | decide) own_d7_75 (by decide) (by decide) (⟨by rw [Ne, own_cl_eq, Decidable.not_not] at mo; rw [own_cl_ge] at sp_ so; have e0 : (0 : Int64).toInt = 0 := rfl; have e9 : (-9223372036854775808 : Int64).toInt = -9223372036854775808 := rfl; rw [e0] at sp_ so; unfold own_small at hr; rw [if_neg (own_minP (by omega) zp zo hr.2 (by omega))], rfl⟩)
        · refine own_iconst K own_d7_42 (v := (1 : Int32)) rfl ?_
          refine own_goto K own_d7_43 ?_
          refine own_icmpeq K own_d7_47 (fun q => absurd q (by decide)) (fun _ => ?_)
          refine own_iconst K own_d7_50 (v := (1 : Int32)) rfl ?_
          refine own_goto K own_d7_51 ?_
          refine own_istore K own_d7_55 (Ls' := #[.val (.long x), .second, .val (.long y), .second, .val (.long r), .second, .val (.int (1 : Int32)), .unset, .unset, .unset, .unset]) rfl ?_
          refine own_lloadN K own_d7_57 rfl ?_
          refine own_ldc2J K own_d7_58 (v := (-9223372036854775808 : Int64)) (own_w42 hw) ?_
          refine own_lcmp K own_d7_61 ?_
          refine own_ifeq K own_d7_62 (fun mp => ?_) (fun mp => ?_)
          · refine own_iload K own_d7_73 rfl ?_
            have zp : ¬ x.toInt = 0 := by rw [own_cl_eq] at gp; exact gp
            have zo : ¬ y.toInt = 0 := by rw [Ne, own_cl_eq] at go; exact go
            exact own_retZ K (by first | exact Or.inl rfl | exact Or.inr rfl | decide) own_d7_75 (by decide) (by decide) (⟨by rw [own_cl_eq] at mp; rw [own_cl_ge] at sp_ so; have e0 : (0 : Int64).toInt = 0 := rfl; have e9 : (-9223372036854775808 : Int64).toInt = -9223372036854775808 := rfl; rw [e0] at sp_ so; unfold own_small at hr; rw [if_pos (own_minN (by omega) zp zo hr.1 (by omega))], rfl⟩)
          · refine own_lloadN K own_d7_65 rfl ?_
            refine own_ldc2J K own_d7_66 (v := (-9223372036854775808 : Int64)) (own_w42 hw) ?_
            refine own_lcmp K own_d7_69 ?_
            refine own_ifne K own_d7_70 (fun mo => ?_) (fun mo => ?_)
            · refine own_lloadN K own_d7_76 rfl ?_
              refine own_static K own_d7_77 (own_w43 hw) (own_w44 hw) (own_w45 hw) (own_w46 hw) (argsL := [(.long x)]) (rest := []) (own_abs hw (by have := Int64.le_toInt x; rw [own_cl_eq] at mp; have : (-9223372036854775808 : Int64).toInt = -9223372036854775808 := rfl; omega)) own_pd2 rfl rfl rfl (by decide) (W := 0) (Nat.le_of_eq rfl) (by decide) (by decide) (by decide) (by decide) ?_
              intro v9 h7 q8
              obtain ⟨⟨ap, rfl, e_ap⟩, rfl⟩ := q8
              refine own_lstore K own_d7_80 (Ls' := #[.val (.long x), .second, .val (.long y), .second, .val (.long r), .second, .val (.int (1 : Int32)), .val (.long ap), .second, .unset, .unset]) rfl ?_
              refine own_lloadN K own_d7_82 rfl ?_
              refine own_static K own_d7_83 (own_w43 hw) (own_w44 hw) (own_w45 hw) (own_w46 hw) (argsL := [(.long y)]) (rest := []) (own_abs hw (by have := Int64.le_toInt y; rw [Ne, own_cl_eq] at mo; have : (-9223372036854775808 : Int64).toInt = -9223372036854775808 := rfl; omega)) own_pd2 rfl rfl rfl (by decide) (W := 0) (Nat.le_of_eq rfl) (by decide) (by decide) (by decide) (by decide) ?_
              intro v12 h10 q11
              obtain ⟨⟨ao, rfl, e_ao⟩, rfl⟩ := q11
              have zp : ¬ x.toInt = 0 := by rw [own_cl_eq] at gp; exact gp
              have zo : ¬ y.toInt = 0 := by rw [Ne, own_cl_eq] at go; exact go
              have hP : 1 ≤ ap.toInt := by omega
              have hO : 1 ≤ ao.toInt := by omega
              refine own_lstore K own_d7_86 (Ls' := #[.val (.long x), .second, .val (.long y), .second, .val (.long r), .second, .val (.int (1 : Int32)), .val (.long ap), .second, .val (.long ao), .second]) rfl ?_
              refine own_iload K own_d7_88 rfl ?_
              refine own_ifeq K own_d7_90 (fun q => absurd q (by decide)) (fun _ => ?_)
              refine own_lload K own_d7_93 rfl ?_
              refine own_lconst K own_d7_95 (v := (0 : Int64)) rfl ?_
              refine own_lcmp K own_d7_96 ?_
              refine own_iflt K own_d7_97 (fun gr => ?_) (fun gr => ?_)
              · refine own_lload K own_d7_102 rfl ?_
                refine own_lload K own_d7_104 rfl ?_
                refine own_lneg K own_d7_106 ?_
                refine own_lconst K own_d7_107 (v := (1 : Int64)) rfl ?_
                refine own_lsub K own_d7_108 ?_
                refine own_lload K own_d7_109 rfl ?_
                refine own_ldiv K own_d7_111 (own_nz64 hP) ?_
                refine own_lcmp K own_d7_112 ?_
                refine own_ifle K own_d7_113 (fun gd => ?_) (fun gd => ?_)
                · refine own_iconst K own_d7_120 (v := (0 : Int32)) rfl ?_
                  have e0 : (0 : Int64).toInt = 0 := rfl
                  have e1 : (1 : Int64).toInt = 1 := rfl
                  rw [own_cl_ge, e0] at sp_ so
                  have m1 := own_mul1 hP hO
                  have hT : x.toInt * y.toInt = -(ap.toInt * ao.toInt) := own_signs (by omega)
                  exact own_retZ K (by first | exact Or.inl rfl | exact Or.inr rfl | decide) own_d7_121 (by decide) (by decide) (⟨by rw [own_cl_lt, e0] at gr; rw [own_cl_le, own_lfN hr gr hP hO hT] at gd; rw [if_neg (by omega)], rfl⟩)
                · refine own_iconst K own_d7_116 (v := (1 : Int32)) rfl ?_
                  refine own_goto K own_d7_117 ?_
                  have e0 : (0 : Int64).toInt = 0 := rfl
                  have e1 : (1 : Int64).toInt = 1 := rfl
                  rw [own_cl_ge, e0] at sp_ so
                  have m1 := own_mul1 hP hO
                  have hT : x.toInt * y.toInt = -(ap.toInt * ao.toInt) := own_signs (by omega)
                  exact own_retZ K (by first | exact Or.inl rfl | exact Or.inr rfl | decide) own_d7_121 (by decide) (by decide) (⟨by rw [own_cl_lt, e0] at gr; rw [own_cl_le, own_lfN hr gr hP hO hT] at gd; rw [if_pos (by omega)], rfl⟩)
              · refine own_iconst K own_d7_100 (v := (1 : Int32)) rfl ?_
                have e0 : (0 : Int64).toInt = 0 := rfl
                have e1 : (1 : Int64).toInt = 1 := rfl
                rw [own_cl_ge, e0] at sp_ so
                have m1 := own_mul1 hP hO
                have hT : x.toInt * y.toInt = -(ap.toInt * ao.toInt) := own_signs (by omega)
                exact own_retZ K (by first | exact Or.inl rfl | exact Or.inr rfl | decide) own_d7_101 (by decide) (by decide) (⟨by rw [own_cl_lt, e0] at gr; rw [if_pos (by omega)], rfl⟩)
            · refine own_iload K own_d7_73 rfl ?_
              have zp : ¬ x.toInt = 0 := by rw [own_cl_eq] at gp; exact gp
              have zo : ¬ y.toInt = 0 := by rw [Ne, own_cl_eq] at go; exact go
              exact own_retZ K (by first | exact Or.inl rfl | exact Or.inr rfl | decide) own_d7_75 (by decide) (by decide) (⟨by rw [Ne, own_cl_eq, Decidable.not_not] at mo; rw [own_cl_ge] at sp_ so; have e0 : (0 : Int64).toInt = 0 := rfl; have e9 : (-9223372036854775808 : Int64).toInt = -9223372036854775808 := rfl; rw [e0] at sp_ so; unfold own_small at hr; rw [if_pos (own_minN (by omega) zp zo hr.1 (by omega))], rfl⟩)
      · refine own_iconst K own_d7_31 (v := (1 : Int32)) rfl ?_
        refine own_goto K own_d7_32 ?_
        refine own_lloadN K own_d7_36 rfl ?_
        refine own_lconst K own_d7_37 (v := (0 : Int64)) rfl ?_
        refine own_lcmp K own_d7_38 ?_
        refine own_ifge K own_d7_39 (fun so => ?_) (fun so => ?_)
        · refine own_iconst K own_d7_46 (v := (0 : Int32)) rfl ?_
          refine own_icmpeq K own_d7_47 (fun q => absurd q (by decide)) (fun _ => ?_)
          refine own_iconst K own_d7_50 (v := (1 : Int32)) rfl ?_
          refine own_goto K own_d7_51 ?_
          refine own_istore K own_d7_55 (Ls' := #[.val (.long x), .second, .val (.long y), .second, .val (.long r), .second, .val (.int (1 : Int32)), .unset, .unset, .unset, .unset]) rfl ?_
          refine own_lloadN K own_d7_57 rfl ?_
          refine own_ldc2J K own_d7_58 (v := (-9223372036854775808 : Int64)) (own_w42 hw) ?_
          refine own_lcmp K own_d7_61 ?_
          refine own_ifeq K own_d7_62 (fun mp => ?_) (fun mp => ?_)
          · refine own_iload K own_d7_73 rfl ?_
            have zp : ¬ x.toInt = 0 := by rw [own_cl_eq] at gp; exact gp
            have zo : ¬ y.toInt = 0 := by rw [Ne, own_cl_eq] at go; exact go
            exact own_retZ K (by first | exact Or.inl rfl | exact Or.inr rfl | decide) own_d7_75 (by decide) (by decide) (⟨by rw [own_cl_eq] at mp; rw [own_cl_ge] at sp_ so; have e0 : (0 : Int64).toInt = 0 := rfl; have e9 : (-9223372036854775808 : Int64).toInt = -9223372036854775808 := rfl; rw [e0] at sp_ so; unfold own_small at hr; rw [if_pos (own_minN (by omega) zp zo hr.1 (by omega))], rfl⟩)
          · refine own_lloadN K own_d7_65 rfl ?_
            refine own_ldc2J K own_d7_66 (v := (-9223372036854775808 : Int64)) (own_w42 hw) ?_
            refine own_lcmp K own_d7_69 ?_
            refine own_ifne K own_d7_70 (fun mo => ?_) (fun mo => ?_)
            · refine own_lloadN K own_d7_76 rfl ?_
              refine own_static K own_d7_77 (own_w43 hw) (own_w44 hw) (own_w45 hw) (own_w46 hw) (argsL := [(.long x)]) (rest := []) (own_abs hw (by have := Int64.le_toInt x; rw [own_cl_eq] at mp; have : (-9223372036854775808 : Int64).toInt = -9223372036854775808 := rfl; omega)) own_pd2 rfl rfl rfl (by decide) (W := 0) (Nat.le_of_eq rfl) (by decide) (by decide) (by decide) (by decide) ?_
              intro v15 h13 q14
              obtain ⟨⟨ap, rfl, e_ap⟩, rfl⟩ := q14
              refine own_lstore K own_d7_80 (Ls' := #[.val (.long x), .second, .val (.long y), .second, .val (.long r), .second, .val (.int (1 : Int32)), .val (.long ap), .second, .unset, .unset]) rfl ?_
              refine own_lloadN K own_d7_82 rfl ?_
              refine own_static K own_d7_83 (own_w43 hw) (own_w44 hw) (own_w45 hw) (own_w46 hw) (argsL := [(.long y)]) (rest := []) (own_abs hw (by have := Int64.le_toInt y; rw [Ne, own_cl_eq] at mo; have : (-9223372036854775808 : Int64).toInt = -9223372036854775808 := rfl; omega)) own_pd2 rfl rfl rfl (by decide) (W := 0) (Nat.le_of_eq rfl) (by decide) (by decide) (by decide) (by decide) ?_
              intro v18 h16 q17
              obtain ⟨⟨ao, rfl, e_ao⟩, rfl⟩ := q17
              have zp : ¬ x.toInt = 0 := by rw [own_cl_eq] at gp; exact gp
              have zo : ¬ y.toInt = 0 := by rw [Ne, own_cl_eq] at go; exact go
              have hP : 1 ≤ ap.toInt := by omega
              have hO : 1 ≤ ao.toInt := by omega
              refine own_lstore K own_d7_86 (Ls' := #[.val (.long x), .second, .val (.long y), .second, .val (.long r), .second, .val (.int (1 : Int32)), .val (.long ap), .second, .val (.long ao), .second]) rfl ?_
              refine own_iload K own_d7_88 rfl ?_
              refine own_ifeq K own_d7_90 (fun q => absurd q (by decide)) (fun _ => ?_)
              refine own_lload K own_d7_93 rfl ?_
              refine own_lconst K own_d7_95 (v := (0 : Int64)) rfl ?_
              refine own_lcmp K own_d7_96 ?_
              refine own_iflt K own_d7_97 (fun gr => ?_) (fun gr => ?_)
              · refine own_lload K own_d7_102 rfl ?_
                refine own_lload K own_d7_104 rfl ?_
                refine own_lneg K own_d7_106 ?_
                refine own_lconst K own_d7_107 (v := (1 : Int64)) rfl ?_
                refine own_lsub K own_d7_108 ?_
                refine own_lload K own_d7_109 rfl ?_
                refine own_ldiv K own_d7_111 (own_nz64 hP) ?_
                refine own_lcmp K own_d7_112 ?_
                refine own_ifle K own_d7_113 (fun gd => ?_) (fun gd => ?_)
                · refine own_iconst K own_d7_120 (v := (0 : Int32)) rfl ?_
                  have e0 : (0 : Int64).toInt = 0 := rfl
                  have e1 : (1 : Int64).toInt = 1 := rfl
                  rw [own_cl_ge, e0] at sp_ so
                  have m1 := own_mul1 hP hO
                  have hT : x.toInt * y.toInt = -(ap.toInt * ao.toInt) := own_signs (by omega)
                  exact own_retZ K (by first | exact Or.inl rfl | exact Or.inr rfl | decide) own_d7_121 (by decide) (by decide) (⟨by rw [own_cl_lt, e0] at gr; rw [own_cl_le, own_lfN hr gr hP hO hT] at gd; rw [if_neg (by omega)], rfl⟩)
                · refine own_iconst K own_d7_116 (v := (1 : Int32)) rfl ?_
                  refine own_goto K own_d7_117 ?_
                  have e0 : (0 : Int64).toInt = 0 := rfl
                  have e1 : (1 : Int64).toInt = 1 := rfl
                  rw [own_cl_ge, e0] at sp_ so
                  have m1 := own_mul1 hP hO
                  have hT : x.toInt * y.toInt = -(ap.toInt * ao.toInt) := own_signs (by omega)
                  exact own_retZ K (by first | exact Or.inl rfl | exact Or.inr rfl | decide) own_d7_121 (by decide) (by decide) (⟨by rw [own_cl_lt, e0] at gr; rw [own_cl_le, own_lfN hr gr hP hO hT] at gd; rw [if_pos (by omega)], rfl⟩)
              · refine own_iconst K own_d7_100 (v := (1 : Int32)) rfl ?_
                have e0 : (0 : Int64).toInt = 0 := rfl
                have e1 : (1 : Int64).toInt = 1 := rfl
                rw [own_cl_ge, e0] at sp_ so
                have m1 := own_mul1 hP hO
                have hT : x.toInt * y.toInt = -(ap.toInt * ao.toInt) := own_signs (by omega)
                exact own_retZ K (by first | exact Or.inl rfl | exact Or.inr rfl | decide) own_d7_101 (by decide) (by decide) (⟨by rw [own_cl_lt, e0] at gr; rw [if_pos (by omega)], rfl⟩)
            · refine own_iload K own_d7_73 rfl ?_
              have zp : ¬ x.toInt = 0 := by rw [own_cl_eq] at gp; exact gp
              have zo : ¬ y.toInt = 0 := by rw [Ne, own_cl_eq] at go; exact go
              exact own_retZ K (by first | exact Or.inl rfl | exact Or.inr rfl | decide) own_d7_75 (by decide) (by decide) (⟨by rw [Ne, own_cl_eq, Decidable.not_not] at mo; rw [own_cl_ge] at sp_ so; have e0 : (0 : Int64).toInt = 0 := rfl; have e9 : (-9223372036854775808 : Int64).toInt = -9223372036854775808 := rfl; rw [e0] at sp_ so; unfold own_small at hr; rw [if_pos (own_minN (by omega) zp zo hr.1 (by omega))], rfl⟩)
        · refine own_iconst K own_d7_42 (v := (1 : Int32)) rfl ?_
          refine own_goto K own_d7_43 ?_
          refine own_icmpeq K own_d7_47 (fun _ => ?_) (fun q => absurd (by decide) q)
          refine own_iconst K own_d7_54 (v := (0 : Int32)) rfl ?_
          refine own_istore K own_d7_55 (Ls' := #[.val (.long x), .second, .val (.long y), .second, .val (.long r), .second, .val (.int (0 : Int32)), .unset, .unset, .unset, .unset]) rfl ?_
          refine own_lloadN K own_d7_57 rfl ?_
          refine own_ldc2J K own_d7_58 (v := (-9223372036854775808 : Int64)) (own_w42 hw) ?_
          refine own_lcmp K own_d7_61 ?_
          refine own_ifeq K own_d7_62 (fun mp => ?_) (fun mp => ?_)
          · refine own_iload K own_d7_73 rfl ?_
            have zp : ¬ x.toInt = 0 := by rw [own_cl_eq] at gp; exact gp
            have zo : ¬ y.toInt = 0 := by rw [Ne, own_cl_eq] at go; exact go
            exact own_retZ K (by first | exact Or.inl rfl | exact Or.inr rfl | decide) own_d7_75 (by decide) (by decide) (⟨by rw [own_cl_eq] at mp; rw [own_cl_ge] at sp_ so; have e0 : (0 : Int64).toInt = 0 := rfl; have e9 : (-9223372036854775808 : Int64).toInt = -9223372036854775808 := rfl; rw [e0] at sp_ so; unfold own_small at hr; rw [if_neg (own_minP (by omega) zp zo hr.2 (by omega))], rfl⟩)
          · refine own_lloadN K own_d7_65 rfl ?_
            refine own_ldc2J K own_d7_66 (v := (-9223372036854775808 : Int64)) (own_w42 hw) ?_
            refine own_lcmp K own_d7_69 ?_
            refine own_ifne K own_d7_70 (fun mo => ?_) (fun mo => ?_)
            · refine own_lloadN K own_d7_76 rfl ?_
              refine own_static K own_d7_77 (own_w43 hw) (own_w44 hw) (own_w45 hw) (own_w46 hw) (argsL := [(.long x)]) (rest := []) (own_abs hw (by have := Int64.le_toInt x; rw [own_cl_eq] at mp; have : (-9223372036854775808 : Int64).toInt = -9223372036854775808 := rfl; omega)) own_pd2 rfl rfl rfl (by decide) (W := 0) (Nat.le_of_eq rfl) (by decide) (by decide) (by decide) (by decide) ?_
              intro v21 h19 q20
              obtain ⟨⟨ap, rfl, e_ap⟩, rfl⟩ := q20
              refine own_lstore K own_d7_80 (Ls' := #[.val (.long x), .second, .val (.long y), .second, .val (.long r), .second, .val (.int (0 : Int32)), .val (.long ap), .second, .unset, .unset]) rfl ?_
              refine own_lloadN K own_d7_82 rfl ?_
              refine own_static K own_d7_83 (own_w43 hw) (own_w44 hw) (own_w45 hw) (own_w46 hw) (argsL := [(.long y)]) (rest := []) (own_abs hw (by have := Int64.le_toInt y; rw [Ne, own_cl_eq] at mo; have : (-9223372036854775808 : Int64).toInt = -9223372036854775808 := rfl; omega)) own_pd2 rfl rfl rfl (by decide) (W := 0) (Nat.le_of_eq rfl) (by decide) (by decide) (by decide) (by decide) ?_
              intro v24 h22 q23
              obtain ⟨⟨ao, rfl, e_ao⟩, rfl⟩ := q23
              have zp : ¬ x.toInt = 0 := by rw [own_cl_eq] at gp; exact gp
              have zo : ¬ y.toInt = 0 := by rw [Ne, own_cl_eq] at go; exact go
              have hP : 1 ≤ ap.toInt := by omega
              have hO : 1 ≤ ao.toInt := by omega
              refine own_lstore K own_d7_86 (Ls' := #[.val (.long x), .second, .val (.long y), .second, .val (.long r), .second, .val (.int (0 : Int32)), .val (.long ap), .second, .val (.long ao), .second]) rfl ?_
              refine own_iload K own_d7_88 rfl ?_
              refine own_ifeq K own_d7_90 (fun _ => ?_) (fun q => absurd (by decide) q)
              refine own_lload K own_d7_122 rfl ?_
              refine own_lconst K own_d7_124 (v := (1 : Int64)) rfl ?_
              refine own_lcmp K own_d7_125 ?_
              refine own_ifge K own_d7_126 (fun gr => ?_) (fun gr => ?_)
              · refine own_lload K own_d7_131 rfl ?_
                refine own_lload K own_d7_133 rfl ?_
                refine own_lload K own_d7_135 rfl ?_
                refine own_ldiv K own_d7_137 (own_nz64 hP) ?_
                refine own_lcmp K own_d7_138 ?_
                refine own_ifgt K own_d7_139 (fun gd => ?_) (fun gd => ?_)
                · refine own_iconst K own_d7_146 (v := (0 : Int32)) rfl ?_
                  have e0 : (0 : Int64).toInt = 0 := rfl
                  have e1 : (1 : Int64).toInt = 1 := rfl
                  rw [own_cl_ge, e0] at sp_ so
                  have m1 := own_mul1 hP hO
                  have hT : x.toInt * y.toInt = ap.toInt * ao.toInt := own_signs' (by omega)
                  exact own_retZ K (by first | exact Or.inl rfl | exact Or.inr rfl | decide) own_d7_147 (by decide) (by decide) (⟨by rw [own_cl_ge, e1] at gr; rw [own_cl_gt, own_lfP gr hP hT] at gd; rw [if_neg (by omega)], rfl⟩)
                · refine own_iconst K own_d7_142 (v := (1 : Int32)) rfl ?_
                  refine own_goto K own_d7_143 ?_
                  have e0 : (0 : Int64).toInt = 0 := rfl
                  have e1 : (1 : Int64).toInt = 1 := rfl
                  rw [own_cl_ge, e0] at sp_ so
                  have m1 := own_mul1 hP hO
                  have hT : x.toInt * y.toInt = ap.toInt * ao.toInt := own_signs' (by omega)
                  exact own_retZ K (by first | exact Or.inl rfl | exact Or.inr rfl | decide) own_d7_147 (by decide) (by decide) (⟨by rw [own_cl_ge, e1] at gr; rw [own_cl_gt, own_lfP gr hP hT] at gd; rw [if_pos (by omega)], rfl⟩)
              · refine own_iconst K own_d7_129 (v := (0 : Int32)) rfl ?_
                have e0 : (0 : Int64).toInt = 0 := rfl
                have e1 : (1 : Int64).toInt = 1 := rfl
                rw [own_cl_ge, e0] at sp_ so
                have m1 := own_mul1 hP hO
                have hT : x.toInt * y.toInt = ap.toInt * ao.toInt := own_signs' (by omega)
                exact own_retZ K (by first | exact Or.inl rfl | exact Or.inr rfl | decide) own_d7_130 (by decide) (by decide) (⟨by rw [own_cl_ge, e1] at gr; rw [if_neg (by omega)], rfl⟩)
            · refine own_iload K own_d7_73 rfl ?_
              have zp : ¬ x.toInt = 0 := by rw [own_cl_eq] at gp; exact gp
              have zo : ¬ y.toInt = 0 := by rw [Ne, own_cl_eq] at go; exact go
              exact own_retZ K (by first | exact Or.inl rfl | exact Or.inr rfl | decide) own_d7_75 (by decide) (by decide) (⟨by rw [Ne, own_cl_eq, Decidable.not_not] at mo; rw [own_cl_ge] at sp_ so; have e0 : (0 : Int64).toInt = 0 := rfl; have e9 : (-9223372036854775808 : Int64).toInt = -9223372036854775808 := rfl; rw [e0] at sp_ so; unfold own_small at hr; rw [if_neg (own_minP (by omega) zp zo hr.2 (by omega))], rfl⟩)
    · refine own_lload K own_d7_12 rfl ?_
      refine own_lconst K own_d7_14 (v := (0 : Int64)) rfl ?_
      refine own_lcmp K own_d7_15 ?_
      refine own_iflt K own_d7_16 (fun gr => ?_) (fun gr => ?_)
      · refine own_iconst K own_d7_23 (v := (0 : Int32)) rfl ?_
        exact own_retZ K (by first | exact Or.inl rfl | exact Or.inr rfl | decide) own_d7_24 (by decide) (by decide) (⟨by have e0 : x.toInt * y.toInt = 0 := (by rw [Ne, own_cl_eq, Decidable.not_not] at go; have : (0 : Int64).toInt = 0 := rfl; rw [show y.toInt = 0 by omega, Int.mul_zero]); rw [own_cl_lt] at gr; have : (0 : Int64).toInt = 0 := rfl; rw [if_neg (by omega)], rfl⟩)
      · refine own_iconst K own_d7_19 (v := (1 : Int32)) rfl ?_
        refine own_goto K own_d7_20 ?_
        exact own_retZ K (by first | exact Or.inl rfl | exact Or.inr rfl | decide) own_d7_24 (by decide) (by decide) (⟨by have e0 : x.toInt * y.toInt = 0 := (by rw [Ne, own_cl_eq, Decidable.not_not] at go; have : (0 : Int64).toInt = 0 := rfl; rw [show y.toInt = 0 by omega, Int.mul_zero]); rw [own_cl_lt] at gr; have : (0 : Int64).toInt = 0 := rfl; rw [if_pos (by omega)], rfl⟩)
theorem own_mask (a : Int32) : own_small 131071 (a &&& 131071).toInt64 := by
  have h := own_and_bound a 131071 (by decide)
  have e : (131071 : Int32).toInt = 131071 := rfl
  unfold own_small; rw [own_i64]; omega
set_option maxRecDepth 65536 in
set_option maxHeartbeats 40000000 in
theorem own_law_ef (m : MethodId) (x0 : Int64) (x1 : Int64) (x2 : Int32) (x3 : Int32) (x4 : Int32) (x5 : Int32) : entryFrame m #[(.long x0), (.long x1), (.int x2), (.int x3), (.int x4), (.int x5)] 25 = mkF m 0 #[.val (.long x0), .second, .val (.long x1), .second, .val (.int x2), .val (.int x3), .val (.int x4), .val (.int x5), .unset, .unset, .unset, .unset, .unset, .unset, .unset, .unset, .unset, .unset, .unset, .unset, .unset, .unset, .unset, .unset, .unset] [] := by first | (simp [entryFrame, mkF, argsToLocals, Value.category]; done) | rfl
set_option maxRecDepth 65536 in
set_option maxHeartbeats 40000000 in
theorem own_law {l : Launch} {Z : State} {a0 : Array Value} (hw : own_Z Z a0) {x y : Int64} {ia ib ic fl : Int32} : own_Met false l Z (⟨"com/example/fuseplan/fuseplan/plan/BudgetAffordsPinLaw", "law", "(JJIIII)Z"⟩ : MethodName) code 25 (some .boolean) tables_1 room_1 #[(.long x), (.long y), (.int ia), (.int ib), (.int ic), (.int fl)] Z.heap (fun v h' => v = some (.int 1)) := by
  refine own_met (by first | exact plainFor_of_name (by decide +kernel) | decide +kernel) ?_
  intro p e s m below meth c K
  refine own_cast (own_law_ef m _ _ _ _ _ _) ?_
  have H := own_H.start Z
  refine own_iload K own_d8_0 rfl ?_
  refine own_ldcI K own_d8_2 (v := (131071 : Int32)) (own_w0 hw) ?_
  refine own_iand K own_d8_4 ?_
  refine own_i2l K own_d8_5 ?_
  obtain ⟨s1, e_s1, hs1⟩ : ∃ z : Int64, z = (ia &&& (131071 : Int32)).toInt64 ∧ own_small 131071 z := ⟨_, rfl, own_mask _⟩
  refine own_topL (x' := s1) (e_s1.symm) ?_
  refine own_lstore K own_d8_6 (Ls' := #[.val (.long x), .second, .val (.long y), .second, .val (.int ia), .val (.int ib), .val (.int ic), .val (.int fl), .val (.long s1), .second, .unset, .unset, .unset, .unset, .unset, .unset, .unset, .unset, .unset, .unset, .unset, .unset, .unset, .unset, .unset]) rfl ?_
  refine own_iload K own_d8_8 rfl ?_
  refine own_ldcI K own_d8_10 (v := (131071 : Int32)) (own_w0 hw) ?_
  refine own_iand K own_d8_12 ?_
  refine own_i2l K own_d8_13 ?_
  obtain ⟨s2, e_s2, hs2⟩ : ∃ z : Int64, z = (ib &&& (131071 : Int32)).toInt64 ∧ own_small 131071 z := ⟨_, rfl, own_mask _⟩
  refine own_topL (x' := s2) (e_s2.symm) ?_
  refine own_lstore K own_d8_14 (Ls' := #[.val (.long x), .second, .val (.long y), .second, .val (.int ia), .val (.int ib), .val (.int ic), .val (.int fl), .val (.long s1), .second, .val (.long s2), .second, .unset, .unset, .unset, .unset, .unset, .unset, .unset, .unset, .unset, .unset, .unset, .unset, .unset]) rfl ?_
  refine own_iload K own_d8_16 rfl ?_
  refine own_ldcI K own_d8_18 (v := (131071 : Int32)) (own_w0 hw) ?_
  refine own_iand K own_d8_20 ?_
  refine own_i2l K own_d8_21 ?_
  obtain ⟨s3, e_s3, hs3⟩ : ∃ z : Int64, z = (ic &&& (131071 : Int32)).toInt64 ∧ own_small 131071 z := ⟨_, rfl, own_mask _⟩
  refine own_topL (x' := s3) (e_s3.symm) ?_
  refine own_lstore K own_d8_22 (Ls' := #[.val (.long x), .second, .val (.long y), .second, .val (.int ia), .val (.int ib), .val (.int ic), .val (.int fl), .val (.long s1), .second, .val (.long s2), .second, .val (.long s3), .second, .unset, .unset, .unset, .unset, .unset, .unset, .unset, .unset, .unset, .unset, .unset]) rfl ?_
  refine own_lconst K own_d8_24 (v := (0 : Int64)) rfl ?_
  refine own_lstore K own_d8_25 (Ls' := #[.val (.long x), .second, .val (.long y), .second, .val (.int ia), .val (.int ib), .val (.int ic), .val (.int fl), .val (.long s1), .second, .val (.long s2), .second, .val (.long s3), .second, .val (.long (0 : Int64)), .second, .unset, .unset, .unset, .unset, .unset, .unset, .unset, .unset, .unset]) rfl ?_
  refine own_lconst K own_d8_27 (v := (0 : Int64)) rfl ?_
  refine own_lstore K own_d8_28 (Ls' := #[.val (.long x), .second, .val (.long y), .second, .val (.int ia), .val (.int ib), .val (.int ic), .val (.int fl), .val (.long s1), .second, .val (.long s2), .second, .val (.long s3), .second, .val (.long (0 : Int64)), .second, .val (.long (0 : Int64)), .second, .unset, .unset, .unset, .unset, .unset, .unset, .unset]) rfl ?_
  refine own_new K own_d8_30 (own_w1 hw) (own_w2 hw) (own_w3 hw) H (own_BU_F hw) (own_BU_P hw) (by decide) (by decide) ?_
  intro h1 a3 H2
  replace H2 : own_H Z h1 (own_BU a3 .null (.int (0 : Int32)) (.long (0 : Int64)) :: []) ([]) := H2
  refine own_dup K own_d8_33 rfl ?_
  refine own_special K own_d8_34 rfl (own_w4 hw) (own_w5 hw) (own_w3 hw) (own_w6 hw) (a := a3) (argsL := []) (rest := [(.ref a3)]) (own_i0 hw H2) own_pd0 rfl rfl rfl (by decide) (W := 1) (Nat.le_of_eq rfl) (by decide) (by decide) (by decide) (by decide) ?_
  intro v6 h4 q5
  obtain ⟨rfl, b7, H8⟩ := q5
  replace H8 : own_H Z h4 (own_BU a3 (.ref b7) (.int (3000 : Int32)) (.long (200000 : Int64)) :: own_SP b7 (.int (0 : Int32)) (.long (0 : Int64)) :: []) ([]) := H8
  refine own_astore K own_d8_37 rfl (Ls' := #[.val (.long x), .second, .val (.long y), .second, .val (.int ia), .val (.int ib), .val (.int ic), .val (.int fl), .val (.long s1), .second, .val (.long s2), .second, .val (.long s3), .second, .val (.long (0 : Int64)), .second, .val (.long (0 : Int64)), .second, .val (.ref a3), .unset, .unset, .unset, .unset, .unset, .unset]) rfl ?_
  refine own_iload K own_d8_39 rfl ?_
  refine own_iconst K own_d8_41 (v := (1 : Int32)) rfl ?_
  refine own_iand K own_d8_42 ?_
  refine own_ifeq K own_d8_43 (fun f9 => ?_) (fun f9 => ?_)
  · refine own_iload K own_d8_66 rfl ?_
    refine own_iconst K own_d8_68 (v := (2 : Int32)) rfl ?_
    refine own_iand K own_d8_69 ?_
    refine own_ifeq K own_d8_70 (fun f10 => ?_) (fun f10 => ?_)
    · refine own_aload K own_d8_93 rfl rfl ?_
      refine own_astore K own_d8_95 rfl (Ls' := #[.val (.long x), .second, .val (.long y), .second, .val (.int ia), .val (.int ib), .val (.int ic), .val (.int fl), .val (.long s1), .second, .val (.long s2), .second, .val (.long s3), .second, .val (.long (0 : Int64)), .second, .val (.long (0 : Int64)), .second, .val (.ref a3), .val (.ref a3), .unset, .unset, .unset, .unset, .unset]) rfl ?_
      refine own_ldc2J K own_d8_97 (v := (3000 : Int64)) (own_w36 hw) ?_
      refine own_lstore K own_d8_100 (Ls' := #[.val (.long x), .second, .val (.long y), .second, .val (.int ia), .val (.int ib), .val (.int ic), .val (.int fl), .val (.long s1), .second, .val (.long s2), .second, .val (.long s3), .second, .val (.long (0 : Int64)), .second, .val (.long (0 : Int64)), .second, .val (.ref a3), .val (.ref a3), .val (.long (3000 : Int64)), .second, .unset, .unset, .unset]) rfl ?_
      refine own_ldc2J K own_d8_102 (v := (200000 : Int64)) (own_w37 hw) ?_
      refine own_lstore K own_d8_105 (Ls' := #[.val (.long x), .second, .val (.long y), .second, .val (.int ia), .val (.int ib), .val (.int ic), .val (.int fl), .val (.long s1), .second, .val (.long s2), .second, .val (.long s3), .second, .val (.long (0 : Int64)), .second, .val (.long (0 : Int64)), .second, .val (.ref a3), .val (.ref a3), .val (.long (3000 : Int64)), .second, .val (.long (200000 : Int64)), .second, .unset]) rfl ?_
      refine own_iload K own_d8_107 rfl ?_
      refine own_iconst K own_d8_109 (v := (4 : Int32)) rfl ?_
      refine own_iand K own_d8_110 ?_
      refine own_ifeq K own_d8_111 (fun f11 => ?_) (fun f11 => ?_)
      · refine own_iload K own_d8_151 rfl ?_
        refine own_bipush K own_d8_153 (v := (8 : Int32)) rfl ?_
        refine own_iand K own_d8_155 ?_
        refine own_ifeq K own_d8_156 (fun f12 => ?_) (fun f12 => ?_)
        · refine own_lloadN K own_d8_179 rfl ?_
          refine own_lload K own_d8_180 rfl ?_
          refine own_lload K own_d8_182 rfl ?_
          refine own_lsub K own_d8_184 ?_
          refine own_topL (x' := (3000 : Int64)) (by decide) ?_
          refine own_lcmp K own_d8_185 ?_
          refine own_ifgt K own_d8_186 (fun gP => ?_) (fun gP => ?_)
          · refine own_iconst K own_d8_206 (v := (0 : Int32)) rfl ?_
            refine own_istore K own_d8_207 (Ls' := #[.val (.long x), .second, .val (.long y), .second, .val (.int ia), .val (.int ib), .val (.int ic), .val (.int fl), .val (.long s1), .second, .val (.long s2), .second, .val (.long s3), .second, .val (.long (0 : Int64)), .second, .val (.long (0 : Int64)), .second, .val (.ref a3), .val (.ref a3), .val (.long (3000 : Int64)), .second, .val (.long (200000 : Int64)), .second, .val (.int (0 : Int32))]) rfl ?_
            refine own_aload K own_d8_209 rfl rfl ?_
            refine own_lloadN K own_d8_211 rfl ?_
            refine own_lloadN K own_d8_212 rfl ?_
            have H13 := H8.frontO 1 rfl
            replace H13 : own_H Z h4 (own_SP b7 (.int (0 : Int32)) (.long (0 : Int64)) :: own_BU a3 (.ref b7) (.int (3000 : Int32)) (.long (200000 : Int64)) :: []) ([]) := H13
            have H14 := H13.frontO 1 rfl
            replace H14 : own_H Z h4 (own_BU a3 (.ref b7) (.int (3000 : Int32)) (.long (200000 : Int64)) :: own_SP b7 (.int (0 : Int32)) (.long (0 : Int64)) :: []) ([]) := H14
            refine own_virtual K own_d8_213 (own_w47 hw) (own_w48 hw) (own_w50 hw) (own_w49 hw) (own_w3 hw) (own_w51 hw) (H14.atO (i := 0) rfl) (a := a3) (argsL := [(.long x), (.long y)]) (rest := []) (own_aff hw H14 ((own_small.sub (show own_small 200000 (200000 : Int64) by unfold own_small; decide) (show own_small 0 (0 : Int64) by unfold own_small; decide) (by decide) (by decide)).mono (by decide))) own_pd3 rfl rfl rfl (by decide) (W := 0) (Nat.le_of_eq rfl) (by decide) (by decide) (by decide) (by decide) ?_
            intro v17 h15 q16
            obtain ⟨rfl, rfl⟩ := q16
            have lim : (((3000 : Int32) : Int32) - (0 : Int32)).toInt = 3000 := by decide
            have lim2 : (3000 : Int64).toInt = 3000 := by decide
            rw [own_cl_gt, lim2] at gP
            have fin : (if x.toInt ≤ ((3000 : Int32) - (0 : Int32)).toInt ∧ x.toInt * y.toInt ≤ ((200000 : Int64) - (0 : Int64)).toInt then (1 : Int32) else 0) = 0 := if_neg fun z => by rw [lim] at z; omega
            refine own_topI (x' := (0 : Int32)) (fin) ?_
            refine own_iload K own_d8_216 rfl ?_
            refine own_icmpne K own_d8_218 (fun q => absurd q (by decide)) (fun _ => ?_)
            refine own_iconst K own_d8_221 (v := (1 : Int32)) rfl ?_
            refine own_goto K own_d8_222 ?_
            exact own_retZ K (by first | exact Or.inl rfl | exact Or.inr rfl | decide) own_d8_226 (by decide) (by decide) (rfl)
          · refine own_lloadN K own_d8_189 rfl ?_
            refine own_lloadN K own_d8_190 rfl ?_
            refine own_lload K own_d8_191 rfl ?_
            refine own_lload K own_d8_193 rfl ?_
            refine own_lsub K own_d8_195 ?_
            refine own_topL (x' := (200000 : Int64)) (by decide) ?_
            refine own_static K own_d8_196 (own_w38 hw) (own_w39 hw) (own_w40 hw) (own_w41 hw) (argsL := [(.long x), (.long y), (.long (200000 : Int64))]) (rest := []) (own_pm hw ((show own_small 200000 (200000 : Int64) by unfold own_small; decide).mono (by decide))) own_pd4 rfl rfl rfl (by decide) (W := 0) (Nat.le_of_eq rfl) (by decide) (by decide) (by decide) (by decide) ?_
            intro v20 h18 q19
            obtain ⟨rfl, rfl⟩ := q19
            refine own_ifeq K own_d8_199 (fun gW => ?_) (fun gW => ?_)
            · refine own_iconst K own_d8_206 (v := (0 : Int32)) rfl ?_
              refine own_istore K own_d8_207 (Ls' := #[.val (.long x), .second, .val (.long y), .second, .val (.int ia), .val (.int ib), .val (.int ic), .val (.int fl), .val (.long s1), .second, .val (.long s2), .second, .val (.long s3), .second, .val (.long (0 : Int64)), .second, .val (.long (0 : Int64)), .second, .val (.ref a3), .val (.ref a3), .val (.long (3000 : Int64)), .second, .val (.long (200000 : Int64)), .second, .val (.int (0 : Int32))]) rfl ?_
              refine own_aload K own_d8_209 rfl rfl ?_
              refine own_lloadN K own_d8_211 rfl ?_
              refine own_lloadN K own_d8_212 rfl ?_
              have H21 := H8.frontO 1 rfl
              replace H21 : own_H Z h4 (own_SP b7 (.int (0 : Int32)) (.long (0 : Int64)) :: own_BU a3 (.ref b7) (.int (3000 : Int32)) (.long (200000 : Int64)) :: []) ([]) := H21
              have H22 := H21.frontO 1 rfl
              replace H22 : own_H Z h4 (own_BU a3 (.ref b7) (.int (3000 : Int32)) (.long (200000 : Int64)) :: own_SP b7 (.int (0 : Int32)) (.long (0 : Int64)) :: []) ([]) := H22
              refine own_virtual K own_d8_213 (own_w47 hw) (own_w48 hw) (own_w50 hw) (own_w49 hw) (own_w3 hw) (own_w51 hw) (H22.atO (i := 0) rfl) (a := a3) (argsL := [(.long x), (.long y)]) (rest := []) (own_aff hw H22 ((own_small.sub (show own_small 200000 (200000 : Int64) by unfold own_small; decide) (show own_small 0 (0 : Int64) by unfold own_small; decide) (by decide) (by decide)).mono (by decide))) own_pd3 rfl rfl rfl (by decide) (W := 0) (Nat.le_of_eq rfl) (by decide) (by decide) (by decide) (by decide) ?_
              intro v25 h23 q24
              obtain ⟨rfl, rfl⟩ := q24
              have lim : (((3000 : Int32) : Int32) - (0 : Int32)).toInt = 3000 := by decide
              have lim2 : (3000 : Int64).toInt = 3000 := by decide
              rw [own_cl_gt, lim2] at gP
              have fin : (if x.toInt ≤ ((3000 : Int32) - (0 : Int32)).toInt ∧ x.toInt * y.toInt ≤ ((200000 : Int64) - (0 : Int64)).toInt then (1 : Int32) else 0) = 0 := if_neg fun z => absurd (show (if x.toInt * y.toInt ≤ ((200000 : Int64) - (0 : Int64)).toInt then (1 : Int32) else 0) = 0 from gW) (by rw [if_pos z.2]; decide)
              refine own_topI (x' := (0 : Int32)) (fin) ?_
              refine own_iload K own_d8_216 rfl ?_
              refine own_icmpne K own_d8_218 (fun q => absurd q (by decide)) (fun _ => ?_)
              refine own_iconst K own_d8_221 (v := (1 : Int32)) rfl ?_
              refine own_goto K own_d8_222 ?_
              exact own_retZ K (by first | exact Or.inl rfl | exact Or.inr rfl | decide) own_d8_226 (by decide) (by decide) (rfl)
            · refine own_iconst K own_d8_202 (v := (1 : Int32)) rfl ?_
              refine own_goto K own_d8_203 ?_
              refine own_istore K own_d8_207 (Ls' := #[.val (.long x), .second, .val (.long y), .second, .val (.int ia), .val (.int ib), .val (.int ic), .val (.int fl), .val (.long s1), .second, .val (.long s2), .second, .val (.long s3), .second, .val (.long (0 : Int64)), .second, .val (.long (0 : Int64)), .second, .val (.ref a3), .val (.ref a3), .val (.long (3000 : Int64)), .second, .val (.long (200000 : Int64)), .second, .val (.int (1 : Int32))]) rfl ?_
              refine own_aload K own_d8_209 rfl rfl ?_
              refine own_lloadN K own_d8_211 rfl ?_
              refine own_lloadN K own_d8_212 rfl ?_
              have H26 := H8.frontO 1 rfl
              replace H26 : own_H Z h4 (own_SP b7 (.int (0 : Int32)) (.long (0 : Int64)) :: own_BU a3 (.ref b7) (.int (3000 : Int32)) (.long (200000 : Int64)) :: []) ([]) := H26
              have H27 := H26.frontO 1 rfl
              replace H27 : own_H Z h4 (own_BU a3 (.ref b7) (.int (3000 : Int32)) (.long (200000 : Int64)) :: own_SP b7 (.int (0 : Int32)) (.long (0 : Int64)) :: []) ([]) := H27
              refine own_virtual K own_d8_213 (own_w47 hw) (own_w48 hw) (own_w50 hw) (own_w49 hw) (own_w3 hw) (own_w51 hw) (H27.atO (i := 0) rfl) (a := a3) (argsL := [(.long x), (.long y)]) (rest := []) (own_aff hw H27 ((own_small.sub (show own_small 200000 (200000 : Int64) by unfold own_small; decide) (show own_small 0 (0 : Int64) by unfold own_small; decide) (by decide) (by decide)).mono (by decide))) own_pd3 rfl rfl rfl (by decide) (W := 0) (Nat.le_of_eq rfl) (by decide) (by decide) (by decide) (by decide) ?_
              intro v30 h28 q29
              obtain ⟨rfl, rfl⟩ := q29
              have lim : (((3000 : Int32) : Int32) - (0 : Int32)).toInt = 3000 := by decide
              have lim2 : (3000 : Int64).toInt = 3000 := by decide
              rw [own_cl_gt, lim2] at gP
              have fin : (if x.toInt ≤ ((3000 : Int32) - (0 : Int32)).toInt ∧ x.toInt * y.toInt ≤ ((200000 : Int64) - (0 : Int64)).toInt then (1 : Int32) else 0) = 1 := if_pos ⟨by rw [lim]; omega, Decidable.byContradiction fun z => gW (if_neg z)⟩
              refine own_topI (x' := (1 : Int32)) (fin) ?_
              refine own_iload K own_d8_216 rfl ?_
              refine own_icmpne K own_d8_218 (fun q => absurd q (by decide)) (fun _ => ?_)
              refine own_iconst K own_d8_221 (v := (1 : Int32)) rfl ?_
              refine own_goto K own_d8_222 ?_
              exact own_retZ K (by first | exact Or.inl rfl | exact Or.inr rfl | decide) own_d8_226 (by decide) (by decide) (rfl)
        · refine own_aload K own_d8_159 rfl rfl ?_
          refine own_lload K own_d8_161 rfl ?_
          have H31 := H8.frontO 1 rfl
          replace H31 : own_H Z h4 (own_SP b7 (.int (0 : Int32)) (.long (0 : Int64)) :: own_BU a3 (.ref b7) (.int (3000 : Int32)) (.long (200000 : Int64)) :: []) ([]) := H31
          have H32 := H31.frontO 1 rfl
          replace H32 : own_H Z h4 (own_BU a3 (.ref b7) (.int (3000 : Int32)) (.long (200000 : Int64)) :: own_SP b7 (.int (0 : Int32)) (.long (0 : Int64)) :: []) ([]) := H32
          refine own_virtual K own_d8_163 (own_w27 hw) (own_w28 hw) (own_w30 hw) (own_w29 hw) (own_w3 hw) (own_w31 hw) (H32.atO (i := 0) rfl) (a := a3) (argsL := [(.long s3)]) (rest := []) (own_spend hw H32 (sp' := (1 : Int32)) (by decide)) own_pd5 rfl rfl rfl (by decide) (W := 0) (Nat.le_of_eq rfl) (by decide) (by decide) (by decide) (by decide) ?_
          intro v35 h33 q34
          obtain ⟨rfl, H36⟩ := q34
          replace H36 : own_H Z h33 (own_BU a3 (.ref b7) (.int (3000 : Int32)) (.long (200000 : Int64)) :: own_SP b7 (.int (1 : Int32)) (.long ((0 : Int64) + s3)) :: []) ([]) := H36
          refine own_lload K own_d8_166 rfl ?_
          refine own_lconst K own_d8_168 (v := (1 : Int64)) rfl ?_
          refine own_ladd K own_d8_169 ?_
          refine own_topL (x' := (1 : Int64)) (by decide) ?_
          refine own_lstore K own_d8_170 (Ls' := #[.val (.long x), .second, .val (.long y), .second, .val (.int ia), .val (.int ib), .val (.int ic), .val (.int fl), .val (.long s1), .second, .val (.long s2), .second, .val (.long s3), .second, .val (.long (1 : Int64)), .second, .val (.long (0 : Int64)), .second, .val (.ref a3), .val (.ref a3), .val (.long (3000 : Int64)), .second, .val (.long (200000 : Int64)), .second, .unset]) rfl ?_
          refine own_lload K own_d8_172 rfl ?_
          refine own_lload K own_d8_174 rfl ?_
          refine own_ladd K own_d8_176 ?_
          refine own_lstore K own_d8_177 (Ls' := #[.val (.long x), .second, .val (.long y), .second, .val (.int ia), .val (.int ib), .val (.int ic), .val (.int fl), .val (.long s1), .second, .val (.long s2), .second, .val (.long s3), .second, .val (.long (1 : Int64)), .second, .val (.long ((0 : Int64) + s3)), .second, .val (.ref a3), .val (.ref a3), .val (.long (3000 : Int64)), .second, .val (.long (200000 : Int64)), .second, .unset]) rfl ?_
          refine own_lloadN K own_d8_179 rfl ?_
          refine own_lload K own_d8_180 rfl ?_
          refine own_lload K own_d8_182 rfl ?_
          refine own_lsub K own_d8_184 ?_
          refine own_topL (x' := (2999 : Int64)) (by decide) ?_
          refine own_lcmp K own_d8_185 ?_
          refine own_ifgt K own_d8_186 (fun gP => ?_) (fun gP => ?_)
          · refine own_iconst K own_d8_206 (v := (0 : Int32)) rfl ?_
            refine own_istore K own_d8_207 (Ls' := #[.val (.long x), .second, .val (.long y), .second, .val (.int ia), .val (.int ib), .val (.int ic), .val (.int fl), .val (.long s1), .second, .val (.long s2), .second, .val (.long s3), .second, .val (.long (1 : Int64)), .second, .val (.long ((0 : Int64) + s3)), .second, .val (.ref a3), .val (.ref a3), .val (.long (3000 : Int64)), .second, .val (.long (200000 : Int64)), .second, .val (.int (0 : Int32))]) rfl ?_
            refine own_aload K own_d8_209 rfl rfl ?_
            refine own_lloadN K own_d8_211 rfl ?_
            refine own_lloadN K own_d8_212 rfl ?_
            have H37 := H36.frontO 1 rfl
            replace H37 : own_H Z h33 (own_SP b7 (.int (1 : Int32)) (.long ((0 : Int64) + s3)) :: own_BU a3 (.ref b7) (.int (3000 : Int32)) (.long (200000 : Int64)) :: []) ([]) := H37
            have H38 := H37.frontO 1 rfl
            replace H38 : own_H Z h33 (own_BU a3 (.ref b7) (.int (3000 : Int32)) (.long (200000 : Int64)) :: own_SP b7 (.int (1 : Int32)) (.long ((0 : Int64) + s3)) :: []) ([]) := H38
            refine own_virtual K own_d8_213 (own_w47 hw) (own_w48 hw) (own_w50 hw) (own_w49 hw) (own_w3 hw) (own_w51 hw) (H38.atO (i := 0) rfl) (a := a3) (argsL := [(.long x), (.long y)]) (rest := []) (own_aff hw H38 ((own_small.sub (show own_small 200000 (200000 : Int64) by unfold own_small; decide) (own_small.add (show own_small 0 (0 : Int64) by unfold own_small; decide) hs3 (by decide) (by decide)) (by decide) (by decide)).mono (by decide))) own_pd3 rfl rfl rfl (by decide) (W := 0) (Nat.le_of_eq rfl) (by decide) (by decide) (by decide) (by decide) ?_
            intro v41 h39 q40
            obtain ⟨rfl, rfl⟩ := q40
            have lim : (((3000 : Int32) : Int32) - (1 : Int32)).toInt = 2999 := by decide
            have lim2 : (2999 : Int64).toInt = 2999 := by decide
            rw [own_cl_gt, lim2] at gP
            have fin : (if x.toInt ≤ ((3000 : Int32) - (1 : Int32)).toInt ∧ x.toInt * y.toInt ≤ ((200000 : Int64) - ((0 : Int64) + s3)).toInt then (1 : Int32) else 0) = 0 := if_neg fun z => by rw [lim] at z; omega
            refine own_topI (x' := (0 : Int32)) (fin) ?_
            refine own_iload K own_d8_216 rfl ?_
            refine own_icmpne K own_d8_218 (fun q => absurd q (by decide)) (fun _ => ?_)
            refine own_iconst K own_d8_221 (v := (1 : Int32)) rfl ?_
            refine own_goto K own_d8_222 ?_
            exact own_retZ K (by first | exact Or.inl rfl | exact Or.inr rfl | decide) own_d8_226 (by decide) (by decide) (rfl)
          · refine own_lloadN K own_d8_189 rfl ?_
            refine own_lloadN K own_d8_190 rfl ?_
            refine own_lload K own_d8_191 rfl ?_
            refine own_lload K own_d8_193 rfl ?_
            refine own_lsub K own_d8_195 ?_
            refine own_static K own_d8_196 (own_w38 hw) (own_w39 hw) (own_w40 hw) (own_w41 hw) (argsL := [(.long x), (.long y), (.long ((200000 : Int64) - ((0 : Int64) + s3)))]) (rest := []) (own_pm hw ((own_small.sub (show own_small 200000 (200000 : Int64) by unfold own_small; decide) (own_small.add (show own_small 0 (0 : Int64) by unfold own_small; decide) hs3 (by decide) (by decide)) (by decide) (by decide)).mono (by decide))) own_pd4 rfl rfl rfl (by decide) (W := 0) (Nat.le_of_eq rfl) (by decide) (by decide) (by decide) (by decide) ?_
            intro v44 h42 q43
            obtain ⟨rfl, rfl⟩ := q43
            refine own_ifeq K own_d8_199 (fun gW => ?_) (fun gW => ?_)
            · refine own_iconst K own_d8_206 (v := (0 : Int32)) rfl ?_
              refine own_istore K own_d8_207 (Ls' := #[.val (.long x), .second, .val (.long y), .second, .val (.int ia), .val (.int ib), .val (.int ic), .val (.int fl), .val (.long s1), .second, .val (.long s2), .second, .val (.long s3), .second, .val (.long (1 : Int64)), .second, .val (.long ((0 : Int64) + s3)), .second, .val (.ref a3), .val (.ref a3), .val (.long (3000 : Int64)), .second, .val (.long (200000 : Int64)), .second, .val (.int (0 : Int32))]) rfl ?_
              refine own_aload K own_d8_209 rfl rfl ?_
              refine own_lloadN K own_d8_211 rfl ?_
              refine own_lloadN K own_d8_212 rfl ?_
              have H45 := H36.frontO 1 rfl
              replace H45 : own_H Z h33 (own_SP b7 (.int (1 : Int32)) (.long ((0 : Int64) + s3)) :: own_BU a3 (.ref b7) (.int (3000 : Int32)) (.long (200000 : Int64)) :: []) ([]) := H45
              have H46 := H45.frontO 1 rfl
              replace H46 : own_H Z h33 (own_BU a3 (.ref b7) (.int (3000 : Int32)) (.long (200000 : Int64)) :: own_SP b7 (.int (1 : Int32)) (.long ((0 : Int64) + s3)) :: []) ([]) := H46
              refine own_virtual K own_d8_213 (own_w47 hw) (own_w48 hw) (own_w50 hw) (own_w49 hw) (own_w3 hw) (own_w51 hw) (H46.atO (i := 0) rfl) (a := a3) (argsL := [(.long x), (.long y)]) (rest := []) (own_aff hw H46 ((own_small.sub (show own_small 200000 (200000 : Int64) by unfold own_small; decide) (own_small.add (show own_small 0 (0 : Int64) by unfold own_small; decide) hs3 (by decide) (by decide)) (by decide) (by decide)).mono (by decide))) own_pd3 rfl rfl rfl (by decide) (W := 0) (Nat.le_of_eq rfl) (by decide) (by decide) (by decide) (by decide) ?_
              intro v49 h47 q48
              obtain ⟨rfl, rfl⟩ := q48
              have lim : (((3000 : Int32) : Int32) - (1 : Int32)).toInt = 2999 := by decide
              have lim2 : (2999 : Int64).toInt = 2999 := by decide
              rw [own_cl_gt, lim2] at gP
              have fin : (if x.toInt ≤ ((3000 : Int32) - (1 : Int32)).toInt ∧ x.toInt * y.toInt ≤ ((200000 : Int64) - ((0 : Int64) + s3)).toInt then (1 : Int32) else 0) = 0 := if_neg fun z => absurd (show (if x.toInt * y.toInt ≤ ((200000 : Int64) - ((0 : Int64) + s3)).toInt then (1 : Int32) else 0) = 0 from gW) (by rw [if_pos z.2]; decide)
              refine own_topI (x' := (0 : Int32)) (fin) ?_
              refine own_iload K own_d8_216 rfl ?_
              refine own_icmpne K own_d8_218 (fun q => absurd q (by decide)) (fun _ => ?_)
              refine own_iconst K own_d8_221 (v := (1 : Int32)) rfl ?_
              refine own_goto K own_d8_222 ?_
              exact own_retZ K (by first | exact Or.inl rfl | exact Or.inr rfl | decide) own_d8_226 (by decide) (by decide) (rfl)
            · refine own_iconst K own_d8_202 (v := (1 : Int32)) rfl ?_
              refine own_goto K own_d8_203 ?_
              refine own_istore K own_d8_207 (Ls' := #[.val (.long x), .second, .val (.long y), .second, .val (.int ia), .val (.int ib), .val (.int ic), .val (.int fl), .val (.long s1), .second, .val (.long s2), .second, .val (.long s3), .second, .val (.long (1 : Int64)), .second, .val (.long ((0 : Int64) + s3)), .second, .val (.ref a3), .val (.ref a3), .val (.long (3000 : Int64)), .second, .val (.long (200000 : Int64)), .second, .val (.int (1 : Int32))]) rfl ?_
              refine own_aload K own_d8_209 rfl rfl ?_
              refine own_lloadN K own_d8_211 rfl ?_
              refine own_lloadN K own_d8_212 rfl ?_
              have H50 := H36.frontO 1 rfl
              replace H50 : own_H Z h33 (own_SP b7 (.int (1 : Int32)) (.long ((0 : Int64) + s3)) :: own_BU a3 (.ref b7) (.int (3000 : Int32)) (.long (200000 : Int64)) :: []) ([]) := H50
              have H51 := H50.frontO 1 rfl
              replace H51 : own_H Z h33 (own_BU a3 (.ref b7) (.int (3000 : Int32)) (.long (200000 : Int64)) :: own_SP b7 (.int (1 : Int32)) (.long ((0 : Int64) + s3)) :: []) ([]) := H51
              refine own_virtual K own_d8_213 (own_w47 hw) (own_w48 hw) (own_w50 hw) (own_w49 hw) (own_w3 hw) (own_w51 hw) (H51.atO (i := 0) rfl) (a := a3) (argsL := [(.long x), (.long y)]) (rest := []) (own_aff hw H51 ((own_small.sub (show own_small 200000 (200000 : Int64) by unfold own_small; decide) (own_small.add (show own_small 0 (0 : Int64) by unfold own_small; decide) hs3 (by decide) (by decide)) (by decide) (by decide)).mono (by decide))) own_pd3 rfl rfl rfl (by decide) (W := 0) (Nat.le_of_eq rfl) (by decide) (by decide) (by decide) (by decide) ?_
              intro v54 h52 q53
              obtain ⟨rfl, rfl⟩ := q53
              have lim : (((3000 : Int32) : Int32) - (1 : Int32)).toInt = 2999 := by decide
              have lim2 : (2999 : Int64).toInt = 2999 := by decide
              rw [own_cl_gt, lim2] at gP
              have fin : (if x.toInt ≤ ((3000 : Int32) - (1 : Int32)).toInt ∧ x.toInt * y.toInt ≤ ((200000 : Int64) - ((0 : Int64) + s3)).toInt then (1 : Int32) else 0) = 1 := if_pos ⟨by rw [lim]; omega, Decidable.byContradiction fun z => gW (if_neg z)⟩
              refine own_topI (x' := (1 : Int32)) (fin) ?_
              refine own_iload K own_d8_216 rfl ?_
              refine own_icmpne K own_d8_218 (fun q => absurd q (by decide)) (fun _ => ?_)
              refine own_iconst K own_d8_221 (v := (1 : Int32)) rfl ?_
              refine own_goto K own_d8_222 ?_
              exact own_retZ K (by first | exact Or.inl rfl | exact Or.inr rfl | decide) own_d8_226 (by decide) (by decide) (rfl)
      · refine own_aload K own_d8_114 rfl rfl ?_
        have H55 := H8.frontO 1 rfl
        replace H55 : own_H Z h4 (own_SP b7 (.int (0 : Int32)) (.long (0 : Int64)) :: own_BU a3 (.ref b7) (.int (3000 : Int32)) (.long (200000 : Int64)) :: []) ([]) := H55
        have H56 := H55.frontO 1 rfl
        replace H56 : own_H Z h4 (own_BU a3 (.ref b7) (.int (3000 : Int32)) (.long (200000 : Int64)) :: own_SP b7 (.int (0 : Int32)) (.long (0 : Int64)) :: []) ([]) := H56
        refine own_virtual K own_d8_116 (own_w52 hw) (own_w53 hw) (own_w55 hw) (own_w54 hw) (own_w3 hw) (own_w56 hw) (H56.atO (i := 0) rfl) (a := a3) (argsL := []) (rest := []) (own_half hw H56 (pl' := (1500 : Int32)) (by decide)) own_pd6 rfl rfl rfl (by decide) (W := 0) (Nat.le_of_eq rfl) (by decide) (by decide) (by decide) (by decide) ?_
        intro v59 h57 q58
        obtain ⟨c60, rfl, H61⟩ := q58
        replace H61 : own_H Z h57 (own_BU c60 (.ref b7) (.int (1500 : Int32)) (.long ((0 : Int64) + (((200000 : Int64) - (0 : Int64)) / (2 : Int64)))) :: own_BU a3 (.ref b7) (.int (3000 : Int32)) (.long (200000 : Int64)) :: own_SP b7 (.int (0 : Int32)) (.long (0 : Int64)) :: []) ([]) := H61
        refine own_astore K own_d8_119 rfl (Ls' := #[.val (.long x), .second, .val (.long y), .second, .val (.int ia), .val (.int ib), .val (.int ic), .val (.int fl), .val (.long s1), .second, .val (.long s2), .second, .val (.long s3), .second, .val (.long (0 : Int64)), .second, .val (.long (0 : Int64)), .second, .val (.ref a3), .val (.ref c60), .val (.long (3000 : Int64)), .second, .val (.long (200000 : Int64)), .second, .unset]) rfl ?_
        refine own_lload K own_d8_121 rfl ?_
        refine own_ldc2J K own_d8_123 (v := (3000 : Int64)) (own_w36 hw) ?_
        refine own_lload K own_d8_126 rfl ?_
        refine own_lsub K own_d8_128 ?_
        refine own_topL (x' := (3000 : Int64)) (by decide) ?_
        refine own_ldc2J K own_d8_129 (v := (2 : Int64)) (own_w59 hw) ?_
        refine own_ldiv K own_d8_132 (by decide) ?_
        refine own_topL (x' := (1500 : Int64)) (by decide) ?_
        refine own_ladd K own_d8_133 ?_
        refine own_topL (x' := (1500 : Int64)) (by decide) ?_
        refine own_lstore K own_d8_134 (Ls' := #[.val (.long x), .second, .val (.long y), .second, .val (.int ia), .val (.int ib), .val (.int ic), .val (.int fl), .val (.long s1), .second, .val (.long s2), .second, .val (.long s3), .second, .val (.long (0 : Int64)), .second, .val (.long (0 : Int64)), .second, .val (.ref a3), .val (.ref c60), .val (.long (1500 : Int64)), .second, .val (.long (200000 : Int64)), .second, .unset]) rfl ?_
        refine own_lload K own_d8_136 rfl ?_
        refine own_ldc2J K own_d8_138 (v := (200000 : Int64)) (own_w37 hw) ?_
        refine own_lload K own_d8_141 rfl ?_
        refine own_lsub K own_d8_143 ?_
        refine own_topL (x' := (200000 : Int64)) (by decide) ?_
        refine own_ldc2J K own_d8_144 (v := (2 : Int64)) (own_w59 hw) ?_
        refine own_ldiv K own_d8_147 (by decide) ?_
        refine own_topL (x' := (100000 : Int64)) (by decide) ?_
        refine own_ladd K own_d8_148 ?_
        refine own_topL (x' := (100000 : Int64)) (by decide) ?_
        refine own_lstore K own_d8_149 (Ls' := #[.val (.long x), .second, .val (.long y), .second, .val (.int ia), .val (.int ib), .val (.int ic), .val (.int fl), .val (.long s1), .second, .val (.long s2), .second, .val (.long s3), .second, .val (.long (0 : Int64)), .second, .val (.long (0 : Int64)), .second, .val (.ref a3), .val (.ref c60), .val (.long (1500 : Int64)), .second, .val (.long (100000 : Int64)), .second, .unset]) rfl ?_
        refine own_iload K own_d8_151 rfl ?_
        refine own_bipush K own_d8_153 (v := (8 : Int32)) rfl ?_
        refine own_iand K own_d8_155 ?_
        refine own_ifeq K own_d8_156 (fun f62 => ?_) (fun f62 => ?_)
        · refine own_lloadN K own_d8_179 rfl ?_
          refine own_lload K own_d8_180 rfl ?_
          refine own_lload K own_d8_182 rfl ?_
          refine own_lsub K own_d8_184 ?_
          refine own_topL (x' := (1500 : Int64)) (by decide) ?_
          refine own_lcmp K own_d8_185 ?_
          refine own_ifgt K own_d8_186 (fun gP => ?_) (fun gP => ?_)
          · refine own_iconst K own_d8_206 (v := (0 : Int32)) rfl ?_
            refine own_istore K own_d8_207 (Ls' := #[.val (.long x), .second, .val (.long y), .second, .val (.int ia), .val (.int ib), .val (.int ic), .val (.int fl), .val (.long s1), .second, .val (.long s2), .second, .val (.long s3), .second, .val (.long (0 : Int64)), .second, .val (.long (0 : Int64)), .second, .val (.ref a3), .val (.ref c60), .val (.long (1500 : Int64)), .second, .val (.long (100000 : Int64)), .second, .val (.int (0 : Int32))]) rfl ?_
            refine own_aload K own_d8_209 rfl rfl ?_
            refine own_lloadN K own_d8_211 rfl ?_
            refine own_lloadN K own_d8_212 rfl ?_
            have H63 := H61.frontO 2 rfl
            replace H63 : own_H Z h57 (own_SP b7 (.int (0 : Int32)) (.long (0 : Int64)) :: own_BU c60 (.ref b7) (.int (1500 : Int32)) (.long ((0 : Int64) + (((200000 : Int64) - (0 : Int64)) / (2 : Int64)))) :: own_BU a3 (.ref b7) (.int (3000 : Int32)) (.long (200000 : Int64)) :: []) ([]) := H63
            have H64 := H63.frontO 1 rfl
            replace H64 : own_H Z h57 (own_BU c60 (.ref b7) (.int (1500 : Int32)) (.long ((0 : Int64) + (((200000 : Int64) - (0 : Int64)) / (2 : Int64)))) :: own_SP b7 (.int (0 : Int32)) (.long (0 : Int64)) :: own_BU a3 (.ref b7) (.int (3000 : Int32)) (.long (200000 : Int64)) :: []) ([]) := H64
            refine own_virtual K own_d8_213 (own_w47 hw) (own_w48 hw) (own_w50 hw) (own_w49 hw) (own_w3 hw) (own_w51 hw) (H64.atO (i := 0) rfl) (a := c60) (argsL := [(.long x), (.long y)]) (rest := []) (own_aff hw H64 ((own_small.sub (own_small.add (show own_small 0 (0 : Int64) by unfold own_small; decide) (own_small.div2 (own_small.sub (show own_small 200000 (200000 : Int64) by unfold own_small; decide) (show own_small 0 (0 : Int64) by unfold own_small; decide) (by decide) (by decide)) (by decide)) (by decide) (by decide)) (show own_small 0 (0 : Int64) by unfold own_small; decide) (by decide) (by decide)).mono (by decide))) own_pd3 rfl rfl rfl (by decide) (W := 0) (Nat.le_of_eq rfl) (by decide) (by decide) (by decide) (by decide) ?_
            intro v67 h65 q66
            obtain ⟨rfl, rfl⟩ := q66
            have lim : (((1500 : Int32) : Int32) - (0 : Int32)).toInt = 1500 := by decide
            have lim2 : (1500 : Int64).toInt = 1500 := by decide
            rw [own_cl_gt, lim2] at gP
            have fin : (if x.toInt ≤ ((1500 : Int32) - (0 : Int32)).toInt ∧ x.toInt * y.toInt ≤ (((0 : Int64) + (((200000 : Int64) - (0 : Int64)) / (2 : Int64))) - (0 : Int64)).toInt then (1 : Int32) else 0) = 0 := if_neg fun z => by rw [lim] at z; omega
            refine own_topI (x' := (0 : Int32)) (fin) ?_
            refine own_iload K own_d8_216 rfl ?_
            refine own_icmpne K own_d8_218 (fun q => absurd q (by decide)) (fun _ => ?_)
            refine own_iconst K own_d8_221 (v := (1 : Int32)) rfl ?_
            refine own_goto K own_d8_222 ?_
            exact own_retZ K (by first | exact Or.inl rfl | exact Or.inr rfl | decide) own_d8_226 (by decide) (by decide) (rfl)
          · refine own_lloadN K own_d8_189 rfl ?_
            refine own_lloadN K own_d8_190 rfl ?_
            refine own_lload K own_d8_191 rfl ?_
            refine own_lload K own_d8_193 rfl ?_
            refine own_lsub K own_d8_195 ?_
            refine own_topL (x' := (100000 : Int64)) (by decide) ?_
            refine own_static K own_d8_196 (own_w38 hw) (own_w39 hw) (own_w40 hw) (own_w41 hw) (argsL := [(.long x), (.long y), (.long (100000 : Int64))]) (rest := []) (own_pm hw ((show own_small 100000 (100000 : Int64) by unfold own_small; decide).mono (by decide))) own_pd4 rfl rfl rfl (by decide) (W := 0) (Nat.le_of_eq rfl) (by decide) (by decide) (by decide) (by decide) ?_
            intro v70 h68 q69
            obtain ⟨rfl, rfl⟩ := q69
            refine own_ifeq K own_d8_199 (fun gW => ?_) (fun gW => ?_)
            · refine own_iconst K own_d8_206 (v := (0 : Int32)) rfl ?_
              refine own_istore K own_d8_207 (Ls' := #[.val (.long x), .second, .val (.long y), .second, .val (.int ia), .val (.int ib), .val (.int ic), .val (.int fl), .val (.long s1), .second, .val (.long s2), .second, .val (.long s3), .second, .val (.long (0 : Int64)), .second, .val (.long (0 : Int64)), .second, .val (.ref a3), .val (.ref c60), .val (.long (1500 : Int64)), .second, .val (.long (100000 : Int64)), .second, .val (.int (0 : Int32))]) rfl ?_
              refine own_aload K own_d8_209 rfl rfl ?_
              refine own_lloadN K own_d8_211 rfl ?_
              refine own_lloadN K own_d8_212 rfl ?_
              have H71 := H61.frontO 2 rfl
              replace H71 : own_H Z h57 (own_SP b7 (.int (0 : Int32)) (.long (0 : Int64)) :: own_BU c60 (.ref b7) (.int (1500 : Int32)) (.long ((0 : Int64) + (((200000 : Int64) - (0 : Int64)) / (2 : Int64)))) :: own_BU a3 (.ref b7) (.int (3000 : Int32)) (.long (200000 : Int64)) :: []) ([]) := H71
              have H72 := H71.frontO 1 rfl
              replace H72 : own_H Z h57 (own_BU c60 (.ref b7) (.int (1500 : Int32)) (.long ((0 : Int64) + (((200000 : Int64) - (0 : Int64)) / (2 : Int64)))) :: own_SP b7 (.int (0 : Int32)) (.long (0 : Int64)) :: own_BU a3 (.ref b7) (.int (3000 : Int32)) (.long (200000 : Int64)) :: []) ([]) := H72
              refine own_virtual K own_d8_213 (own_w47 hw) (own_w48 hw) (own_w50 hw) (own_w49 hw) (own_w3 hw) (own_w51 hw) (H72.atO (i := 0) rfl) (a := c60) (argsL := [(.long x), (.long y)]) (rest := []) (own_aff hw H72 ((own_small.sub (own_small.add (show own_small 0 (0 : Int64) by unfold own_small; decide) (own_small.div2 (own_small.sub (show own_small 200000 (200000 : Int64) by unfold own_small; decide) (show own_small 0 (0 : Int64) by unfold own_small; decide) (by decide) (by decide)) (by decide)) (by decide) (by decide)) (show own_small 0 (0 : Int64) by unfold own_small; decide) (by decide) (by decide)).mono (by decide))) own_pd3 rfl rfl rfl (by decide) (W := 0) (Nat.le_of_eq rfl) (by decide) (by decide) (by decide) (by decide) ?_
              intro v75 h73 q74
              obtain ⟨rfl, rfl⟩ := q74
              have lim : (((1500 : Int32) : Int32) - (0 : Int32)).toInt = 1500 := by decide
              have lim2 : (1500 : Int64).toInt = 1500 := by decide
              rw [own_cl_gt, lim2] at gP
              have fin : (if x.toInt ≤ ((1500 : Int32) - (0 : Int32)).toInt ∧ x.toInt * y.toInt ≤ (((0 : Int64) + (((200000 : Int64) - (0 : Int64)) / (2 : Int64))) - (0 : Int64)).toInt then (1 : Int32) else 0) = 0 := if_neg fun z => absurd (show (if x.toInt * y.toInt ≤ (((0 : Int64) + (((200000 : Int64) - (0 : Int64)) / (2 : Int64))) - (0 : Int64)).toInt then (1 : Int32) else 0) = 0 from gW) (by rw [if_pos z.2]; decide)
              refine own_topI (x' := (0 : Int32)) (fin) ?_
              refine own_iload K own_d8_216 rfl ?_
              refine own_icmpne K own_d8_218 (fun q => absurd q (by decide)) (fun _ => ?_)
              refine own_iconst K own_d8_221 (v := (1 : Int32)) rfl ?_
              refine own_goto K own_d8_222 ?_
              exact own_retZ K (by first | exact Or.inl rfl | exact Or.inr rfl | decide) own_d8_226 (by decide) (by decide) (rfl)
            · refine own_iconst K own_d8_202 (v := (1 : Int32)) rfl ?_
              refine own_goto K own_d8_203 ?_
              refine own_istore K own_d8_207 (Ls' := #[.val (.long x), .second, .val (.long y), .second, .val (.int ia), .val (.int ib), .val (.int ic), .val (.int fl), .val (.long s1), .second, .val (.long s2), .second, .val (.long s3), .second, .val (.long (0 : Int64)), .second, .val (.long (0 : Int64)), .second, .val (.ref a3), .val (.ref c60), .val (.long (1500 : Int64)), .second, .val (.long (100000 : Int64)), .second, .val (.int (1 : Int32))]) rfl ?_
              refine own_aload K own_d8_209 rfl rfl ?_
              refine own_lloadN K own_d8_211 rfl ?_
              refine own_lloadN K own_d8_212 rfl ?_
              have H76 := H61.frontO 2 rfl
              replace H76 : own_H Z h57 (own_SP b7 (.int (0 : Int32)) (.long (0 : Int64)) :: own_BU c60 (.ref b7) (.int (1500 : Int32)) (.long ((0 : Int64) + (((200000 : Int64) - (0 : Int64)) / (2 : Int64)))) :: own_BU a3 (.ref b7) (.int (3000 : Int32)) (.long (200000 : Int64)) :: []) ([]) := H76
              have H77 := H76.frontO 1 rfl
              replace H77 : own_H Z h57 (own_BU c60 (.ref b7) (.int (1500 : Int32)) (.long ((0 : Int64) + (((200000 : Int64) - (0 : Int64)) / (2 : Int64)))) :: own_SP b7 (.int (0 : Int32)) (.long (0 : Int64)) :: own_BU a3 (.ref b7) (.int (3000 : Int32)) (.long (200000 : Int64)) :: []) ([]) := H77
              refine own_virtual K own_d8_213 (own_w47 hw) (own_w48 hw) (own_w50 hw) (own_w49 hw) (own_w3 hw) (own_w51 hw) (H77.atO (i := 0) rfl) (a := c60) (argsL := [(.long x), (.long y)]) (rest := []) (own_aff hw H77 ((own_small.sub (own_small.add (show own_small 0 (0 : Int64) by unfold own_small; decide) (own_small.div2 (own_small.sub (show own_small 200000 (200000 : Int64) by unfold own_small; decide) (show own_small 0 (0 : Int64) by unfold own_small; decide) (by decide) (by decide)) (by decide)) (by decide) (by decide)) (show own_small 0 (0 : Int64) by unfold own_small; decide) (by decide) (by decide)).mono (by decide))) own_pd3 rfl rfl rfl (by decide) (W := 0) (Nat.le_of_eq rfl) (by decide) (by decide) (by decide) (by decide) ?_
              intro v80 h78 q79
              obtain ⟨rfl, rfl⟩ := q79
              have lim : (((1500 : Int32) : Int32) - (0 : Int32)).toInt = 1500 := by decide
              have lim2 : (1500 : Int64).toInt = 1500 := by decide
              rw [own_cl_gt, lim2] at gP
              have fin : (if x.toInt ≤ ((1500 : Int32) - (0 : Int32)).toInt ∧ x.toInt * y.toInt ≤ (((0 : Int64) + (((200000 : Int64) - (0 : Int64)) / (2 : Int64))) - (0 : Int64)).toInt then (1 : Int32) else 0) = 1 := if_pos ⟨by rw [lim]; omega, Decidable.byContradiction fun z => gW (if_neg z)⟩
              refine own_topI (x' := (1 : Int32)) (fin) ?_
              refine own_iload K own_d8_216 rfl ?_
              refine own_icmpne K own_d8_218 (fun q => absurd q (by decide)) (fun _ => ?_)
              refine own_iconst K own_d8_221 (v := (1 : Int32)) rfl ?_
              refine own_goto K own_d8_222 ?_
              exact own_retZ K (by first | exact Or.inl rfl | exact Or.inr rfl | decide) own_d8_226 (by decide) (by decide) (rfl)
        · refine own_aload K own_d8_159 rfl rfl ?_
          refine own_lload K own_d8_161 rfl ?_
          have H81 := H61.frontO 2 rfl
          replace H81 : own_H Z h57 (own_SP b7 (.int (0 : Int32)) (.long (0 : Int64)) :: own_BU c60 (.ref b7) (.int (1500 : Int32)) (.long ((0 : Int64) + (((200000 : Int64) - (0 : Int64)) / (2 : Int64)))) :: own_BU a3 (.ref b7) (.int (3000 : Int32)) (.long (200000 : Int64)) :: []) ([]) := H81
          have H82 := H81.frontO 2 rfl
          replace H82 : own_H Z h57 (own_BU a3 (.ref b7) (.int (3000 : Int32)) (.long (200000 : Int64)) :: own_SP b7 (.int (0 : Int32)) (.long (0 : Int64)) :: own_BU c60 (.ref b7) (.int (1500 : Int32)) (.long ((0 : Int64) + (((200000 : Int64) - (0 : Int64)) / (2 : Int64)))) :: []) ([]) := H82
          refine own_virtual K own_d8_163 (own_w27 hw) (own_w28 hw) (own_w30 hw) (own_w29 hw) (own_w3 hw) (own_w31 hw) (H82.atO (i := 0) rfl) (a := a3) (argsL := [(.long s3)]) (rest := []) (own_spend hw H82 (sp' := (1 : Int32)) (by decide)) own_pd5 rfl rfl rfl (by decide) (W := 0) (Nat.le_of_eq rfl) (by decide) (by decide) (by decide) (by decide) ?_
          intro v85 h83 q84
          obtain ⟨rfl, H86⟩ := q84
          replace H86 : own_H Z h83 (own_BU a3 (.ref b7) (.int (3000 : Int32)) (.long (200000 : Int64)) :: own_SP b7 (.int (1 : Int32)) (.long ((0 : Int64) + s3)) :: own_BU c60 (.ref b7) (.int (1500 : Int32)) (.long ((0 : Int64) + (((200000 : Int64) - (0 : Int64)) / (2 : Int64)))) :: []) ([]) := H86
          refine own_lload K own_d8_166 rfl ?_
          refine own_lconst K own_d8_168 (v := (1 : Int64)) rfl ?_
          refine own_ladd K own_d8_169 ?_
          refine own_topL (x' := (1 : Int64)) (by decide) ?_
          refine own_lstore K own_d8_170 (Ls' := #[.val (.long x), .second, .val (.long y), .second, .val (.int ia), .val (.int ib), .val (.int ic), .val (.int fl), .val (.long s1), .second, .val (.long s2), .second, .val (.long s3), .second, .val (.long (1 : Int64)), .second, .val (.long (0 : Int64)), .second, .val (.ref a3), .val (.ref c60), .val (.long (1500 : Int64)), .second, .val (.long (100000 : Int64)), .second, .unset]) rfl ?_
          refine own_lload K own_d8_172 rfl ?_
          refine own_lload K own_d8_174 rfl ?_
          refine own_ladd K own_d8_176 ?_
          refine own_lstore K own_d8_177 (Ls' := #[.val (.long x), .second, .val (.long y), .second, .val (.int ia), .val (.int ib), .val (.int ic), .val (.int fl), .val (.long s1), .second, .val (.long s2), .second, .val (.long s3), .second, .val (.long (1 : Int64)), .second, .val (.long ((0 : Int64) + s3)), .second, .val (.ref a3), .val (.ref c60), .val (.long (1500 : Int64)), .second, .val (.long (100000 : Int64)), .second, .unset]) rfl ?_
          refine own_lloadN K own_d8_179 rfl ?_
          refine own_lload K own_d8_180 rfl ?_
          refine own_lload K own_d8_182 rfl ?_
          refine own_lsub K own_d8_184 ?_
          refine own_topL (x' := (1499 : Int64)) (by decide) ?_
          refine own_lcmp K own_d8_185 ?_
          refine own_ifgt K own_d8_186 (fun gP => ?_) (fun gP => ?_)
          · refine own_iconst K own_d8_206 (v := (0 : Int32)) rfl ?_
            refine own_istore K own_d8_207 (Ls' := #[.val (.long x), .second, .val (.long y), .second, .val (.int ia), .val (.int ib), .val (.int ic), .val (.int fl), .val (.long s1), .second, .val (.long s2), .second, .val (.long s3), .second, .val (.long (1 : Int64)), .second, .val (.long ((0 : Int64) + s3)), .second, .val (.ref a3), .val (.ref c60), .val (.long (1500 : Int64)), .second, .val (.long (100000 : Int64)), .second, .val (.int (0 : Int32))]) rfl ?_
            refine own_aload K own_d8_209 rfl rfl ?_
            refine own_lloadN K own_d8_211 rfl ?_
            refine own_lloadN K own_d8_212 rfl ?_
            have H87 := H86.frontO 1 rfl
            replace H87 : own_H Z h83 (own_SP b7 (.int (1 : Int32)) (.long ((0 : Int64) + s3)) :: own_BU a3 (.ref b7) (.int (3000 : Int32)) (.long (200000 : Int64)) :: own_BU c60 (.ref b7) (.int (1500 : Int32)) (.long ((0 : Int64) + (((200000 : Int64) - (0 : Int64)) / (2 : Int64)))) :: []) ([]) := H87
            have H88 := H87.frontO 2 rfl
            replace H88 : own_H Z h83 (own_BU c60 (.ref b7) (.int (1500 : Int32)) (.long ((0 : Int64) + (((200000 : Int64) - (0 : Int64)) / (2 : Int64)))) :: own_SP b7 (.int (1 : Int32)) (.long ((0 : Int64) + s3)) :: own_BU a3 (.ref b7) (.int (3000 : Int32)) (.long (200000 : Int64)) :: []) ([]) := H88
            refine own_virtual K own_d8_213 (own_w47 hw) (own_w48 hw) (own_w50 hw) (own_w49 hw) (own_w3 hw) (own_w51 hw) (H88.atO (i := 0) rfl) (a := c60) (argsL := [(.long x), (.long y)]) (rest := []) (own_aff hw H88 ((own_small.sub (own_small.add (show own_small 0 (0 : Int64) by unfold own_small; decide) (own_small.div2 (own_small.sub (show own_small 200000 (200000 : Int64) by unfold own_small; decide) (show own_small 0 (0 : Int64) by unfold own_small; decide) (by decide) (by decide)) (by decide)) (by decide) (by decide)) (own_small.add (show own_small 0 (0 : Int64) by unfold own_small; decide) hs3 (by decide) (by decide)) (by decide) (by decide)).mono (by decide))) own_pd3 rfl rfl rfl (by decide) (W := 0) (Nat.le_of_eq rfl) (by decide) (by decide) (by decide) (by decide) ?_
            intro v91 h89 q90
            obtain ⟨rfl, rfl⟩ := q90
            have lim : (((1500 : Int32) : Int32) - (1 : Int32)).toInt = 1499 := by decide
            have lim2 : (1499 : Int64).toInt = 1499 := by decide
            rw [own_cl_gt, lim2] at gP
            have fin : (if x.toInt ≤ ((1500 : Int32) - (1 : Int32)).toInt ∧ x.toInt * y.toInt ≤ (((0 : Int64) + (((200000 : Int64) - (0 : Int64)) / (2 : Int64))) - ((0 : Int64) + s3)).toInt then (1 : Int32) else 0) = 0 := if_neg fun z => by rw [lim] at z; omega
            refine own_topI (x' := (0 : Int32)) (fin) ?_
            refine own_iload K own_d8_216 rfl ?_
            refine own_icmpne K own_d8_218 (fun q => absurd q (by decide)) (fun _ => ?_)
            refine own_iconst K own_d8_221 (v := (1 : Int32)) rfl ?_
            refine own_goto K own_d8_222 ?_
            exact own_retZ K (by first | exact Or.inl rfl | exact Or.inr rfl | decide) own_d8_226 (by decide) (by decide) (rfl)
          · refine own_lloadN K own_d8_189 rfl ?_
            refine own_lloadN K own_d8_190 rfl ?_
            refine own_lload K own_d8_191 rfl ?_
            refine own_lload K own_d8_193 rfl ?_
            refine own_lsub K own_d8_195 ?_
            refine own_static K own_d8_196 (own_w38 hw) (own_w39 hw) (own_w40 hw) (own_w41 hw) (argsL := [(.long x), (.long y), (.long ((100000 : Int64) - ((0 : Int64) + s3)))]) (rest := []) (own_pm hw ((own_small.sub (show own_small 100000 (100000 : Int64) by unfold own_small; decide) (own_small.add (show own_small 0 (0 : Int64) by unfold own_small; decide) hs3 (by decide) (by decide)) (by decide) (by decide)).mono (by decide))) own_pd4 rfl rfl rfl (by decide) (W := 0) (Nat.le_of_eq rfl) (by decide) (by decide) (by decide) (by decide) ?_
            intro v94 h92 q93
            obtain ⟨rfl, rfl⟩ := q93
            refine own_ifeq K own_d8_199 (fun gW => ?_) (fun gW => ?_)
            · refine own_iconst K own_d8_206 (v := (0 : Int32)) rfl ?_
              refine own_istore K own_d8_207 (Ls' := #[.val (.long x), .second, .val (.long y), .second, .val (.int ia), .val (.int ib), .val (.int ic), .val (.int fl), .val (.long s1), .second, .val (.long s2), .second, .val (.long s3), .second, .val (.long (1 : Int64)), .second, .val (.long ((0 : Int64) + s3)), .second, .val (.ref a3), .val (.ref c60), .val (.long (1500 : Int64)), .second, .val (.long (100000 : Int64)), .second, .val (.int (0 : Int32))]) rfl ?_
              refine own_aload K own_d8_209 rfl rfl ?_
              refine own_lloadN K own_d8_211 rfl ?_
              refine own_lloadN K own_d8_212 rfl ?_
              have H95 := H86.frontO 1 rfl
              replace H95 : own_H Z h83 (own_SP b7 (.int (1 : Int32)) (.long ((0 : Int64) + s3)) :: own_BU a3 (.ref b7) (.int (3000 : Int32)) (.long (200000 : Int64)) :: own_BU c60 (.ref b7) (.int (1500 : Int32)) (.long ((0 : Int64) + (((200000 : Int64) - (0 : Int64)) / (2 : Int64)))) :: []) ([]) := H95
              have H96 := H95.frontO 2 rfl
              replace H96 : own_H Z h83 (own_BU c60 (.ref b7) (.int (1500 : Int32)) (.long ((0 : Int64) + (((200000 : Int64) - (0 : Int64)) / (2 : Int64)))) :: own_SP b7 (.int (1 : Int32)) (.long ((0 : Int64) + s3)) :: own_BU a3 (.ref b7) (.int (3000 : Int32)) (.long (200000 : Int64)) :: []) ([]) := H96
              refine own_virtual K own_d8_213 (own_w47 hw) (own_w48 hw) (own_w50 hw) (own_w49 hw) (own_w3 hw) (own_w51 hw) (H96.atO (i := 0) rfl) (a := c60) (argsL := [(.long x), (.long y)]) (rest := []) (own_aff hw H96 ((own_small.sub (own_small.add (show own_small 0 (0 : Int64) by unfold own_small; decide) (own_small.div2 (own_small.sub (show own_small 200000 (200000 : Int64) by unfold own_small; decide) (show own_small 0 (0 : Int64) by unfold own_small; decide) (by decide) (by decide)) (by decide)) (by decide) (by decide)) (own_small.add (show own_small 0 (0 : Int64) by unfold own_small; decide) hs3 (by decide) (by decide)) (by decide) (by decide)).mono (by decide))) own_pd3 rfl rfl rfl (by decide) (W := 0) (Nat.le_of_eq rfl) (by decide) (by decide) (by decide) (by decide) ?_
              intro v99 h97 q98
              obtain ⟨rfl, rfl⟩ := q98
              have lim : (((1500 : Int32) : Int32) - (1 : Int32)).toInt = 1499 := by decide
              have lim2 : (1499 : Int64).toInt = 1499 := by decide
              rw [own_cl_gt, lim2] at gP
              have fin : (if x.toInt ≤ ((1500 : Int32) - (1 : Int32)).toInt ∧ x.toInt * y.toInt ≤ (((0 : Int64) + (((200000 : Int64) - (0 : Int64)) / (2 : Int64))) - ((0 : Int64) + s3)).toInt then (1 : Int32) else 0) = 0 := if_neg fun z => absurd (show (if x.toInt * y.toInt ≤ (((0 : Int64) + (((200000 : Int64) - (0 : Int64)) / (2 : Int64))) - ((0 : Int64) + s3)).toInt then (1 : Int32) else 0) = 0 from gW) (by rw [if_pos z.2]; decide)
              refine own_topI (x' := (0 : Int32)) (fin) ?_
              refine own_iload K own_d8_216 rfl ?_
              refine own_icmpne K own_d8_218 (fun q => absurd q (by decide)) (fun _ => ?_)
              refine own_iconst K own_d8_221 (v := (1 : Int32)) rfl ?_
              refine own_goto K own_d8_222 ?_
              exact own_retZ K (by first | exact Or.inl rfl | exact Or.inr rfl | decide) own_d8_226 (by decide) (by decide) (rfl)
            · refine own_iconst K own_d8_202 (v := (1 : Int32)) rfl ?_
              refine own_goto K own_d8_203 ?_
              refine own_istore K own_d8_207 (Ls' := #[.val (.long x), .second, .val (.long y), .second, .val (.int ia), .val (.int ib), .val (.int ic), .val (.int fl), .val (.long s1), .second, .val (.long s2), .second, .val (.long s3), .second, .val (.long (1 : Int64)), .second, .val (.long ((0 : Int64) + s3)), .second, .val (.ref a3), .val (.ref c60), .val (.long (1500 : Int64)), .second, .val (.long (100000 : Int64)), .second, .val (.int (1 : Int32))]) rfl ?_
              refine own_aload K own_d8_209 rfl rfl ?_
              refine own_lloadN K own_d8_211 rfl ?_
              refine own_lloadN K own_d8_212 rfl ?_
              have H100 := H86.frontO 1 rfl
              replace H100 : own_H Z h83 (own_SP b7 (.int (1 : Int32)) (.long ((0 : Int64) + s3)) :: own_BU a3 (.ref b7) (.int (3000 : Int32)) (.long (200000 : Int64)) :: own_BU c60 (.ref b7) (.int (1500 : Int32)) (.long ((0 : Int64) + (((200000 : Int64) - (0 : Int64)) / (2 : Int64)))) :: []) ([]) := H100
              have H101 := H100.frontO 2 rfl
              replace H101 : own_H Z h83 (own_BU c60 (.ref b7) (.int (1500 : Int32)) (.long ((0 : Int64) + (((200000 : Int64) - (0 : Int64)) / (2 : Int64)))) :: own_SP b7 (.int (1 : Int32)) (.long ((0 : Int64) + s3)) :: own_BU a3 (.ref b7) (.int (3000 : Int32)) (.long (200000 : Int64)) :: []) ([]) := H101
              refine own_virtual K own_d8_213 (own_w47 hw) (own_w48 hw) (own_w50 hw) (own_w49 hw) (own_w3 hw) (own_w51 hw) (H101.atO (i := 0) rfl) (a := c60) (argsL := [(.long x), (.long y)]) (rest := []) (own_aff hw H101 ((own_small.sub (own_small.add (show own_small 0 (0 : Int64) by unfold own_small; decide) (own_small.div2 (own_small.sub (show own_small 200000 (200000 : Int64) by unfold own_small; decide) (show own_small 0 (0 : Int64) by unfold own_small; decide) (by decide) (by decide)) (by decide)) (by decide) (by decide)) (own_small.add (show own_small 0 (0 : Int64) by unfold own_small; decide) hs3 (by decide) (by decide)) (by decide) (by decide)).mono (by decide))) own_pd3 rfl rfl rfl (by decide) (W := 0) (Nat.le_of_eq rfl) (by decide) (by decide) (by decide) (by decide) ?_
              intro v104 h102 q103
              obtain ⟨rfl, rfl⟩ := q103
              have lim : (((1500 : Int32) : Int32) - (1 : Int32)).toInt = 1499 := by decide
              have lim2 : (1499 : Int64).toInt = 1499 := by decide
              rw [own_cl_gt, lim2] at gP
              have fin : (if x.toInt ≤ ((1500 : Int32) - (1 : Int32)).toInt ∧ x.toInt * y.toInt ≤ (((0 : Int64) + (((200000 : Int64) - (0 : Int64)) / (2 : Int64))) - ((0 : Int64) + s3)).toInt then (1 : Int32) else 0) = 1 := if_pos ⟨by rw [lim]; omega, Decidable.byContradiction fun z => gW (if_neg z)⟩
              refine own_topI (x' := (1 : Int32)) (fin) ?_
              refine own_iload K own_d8_216 rfl ?_
              refine own_icmpne K own_d8_218 (fun q => absurd q (by decide)) (fun _ => ?_)
              refine own_iconst K own_d8_221 (v := (1 : Int32)) rfl ?_
              refine own_goto K own_d8_222 ?_
              exact own_retZ K (by first | exact Or.inl rfl | exact Or.inr rfl | decide) own_d8_226 (by decide) (by decide) (rfl)
    · refine own_aload K own_d8_73 rfl rfl ?_
      refine own_lload K own_d8_75 rfl ?_
      have H105 := H8.frontO 1 rfl
      replace H105 : own_H Z h4 (own_SP b7 (.int (0 : Int32)) (.long (0 : Int64)) :: own_BU a3 (.ref b7) (.int (3000 : Int32)) (.long (200000 : Int64)) :: []) ([]) := H105
      have H106 := H105.frontO 1 rfl
      replace H106 : own_H Z h4 (own_BU a3 (.ref b7) (.int (3000 : Int32)) (.long (200000 : Int64)) :: own_SP b7 (.int (0 : Int32)) (.long (0 : Int64)) :: []) ([]) := H106
      refine own_virtual K own_d8_77 (own_w27 hw) (own_w28 hw) (own_w30 hw) (own_w29 hw) (own_w3 hw) (own_w31 hw) (H106.atO (i := 0) rfl) (a := a3) (argsL := [(.long s2)]) (rest := []) (own_spend hw H106 (sp' := (1 : Int32)) (by decide)) own_pd5 rfl rfl rfl (by decide) (W := 0) (Nat.le_of_eq rfl) (by decide) (by decide) (by decide) (by decide) ?_
      intro v109 h107 q108
      obtain ⟨rfl, H110⟩ := q108
      replace H110 : own_H Z h107 (own_BU a3 (.ref b7) (.int (3000 : Int32)) (.long (200000 : Int64)) :: own_SP b7 (.int (1 : Int32)) (.long ((0 : Int64) + s2)) :: []) ([]) := H110
      refine own_lload K own_d8_80 rfl ?_
      refine own_lconst K own_d8_82 (v := (1 : Int64)) rfl ?_
      refine own_ladd K own_d8_83 ?_
      refine own_topL (x' := (1 : Int64)) (by decide) ?_
      refine own_lstore K own_d8_84 (Ls' := #[.val (.long x), .second, .val (.long y), .second, .val (.int ia), .val (.int ib), .val (.int ic), .val (.int fl), .val (.long s1), .second, .val (.long s2), .second, .val (.long s3), .second, .val (.long (1 : Int64)), .second, .val (.long (0 : Int64)), .second, .val (.ref a3), .unset, .unset, .unset, .unset, .unset, .unset]) rfl ?_
      refine own_lload K own_d8_86 rfl ?_
      refine own_lload K own_d8_88 rfl ?_
      refine own_ladd K own_d8_90 ?_
      refine own_lstore K own_d8_91 (Ls' := #[.val (.long x), .second, .val (.long y), .second, .val (.int ia), .val (.int ib), .val (.int ic), .val (.int fl), .val (.long s1), .second, .val (.long s2), .second, .val (.long s3), .second, .val (.long (1 : Int64)), .second, .val (.long ((0 : Int64) + s2)), .second, .val (.ref a3), .unset, .unset, .unset, .unset, .unset, .unset]) rfl ?_
      refine own_aload K own_d8_93 rfl rfl ?_
      refine own_astore K own_d8_95 rfl (Ls' := #[.val (.long x), .second, .val (.long y), .second, .val (.int ia), .val (.int ib), .val (.int ic), .val (.int fl), .val (.long s1), .second, .val (.long s2), .second, .val (.long s3), .second, .val (.long (1 : Int64)), .second, .val (.long ((0 : Int64) + s2)), .second, .val (.ref a3), .val (.ref a3), .unset, .unset, .unset, .unset, .unset]) rfl ?_
      refine own_ldc2J K own_d8_97 (v := (3000 : Int64)) (own_w36 hw) ?_
      refine own_lstore K own_d8_100 (Ls' := #[.val (.long x), .second, .val (.long y), .second, .val (.int ia), .val (.int ib), .val (.int ic), .val (.int fl), .val (.long s1), .second, .val (.long s2), .second, .val (.long s3), .second, .val (.long (1 : Int64)), .second, .val (.long ((0 : Int64) + s2)), .second, .val (.ref a3), .val (.ref a3), .val (.long (3000 : Int64)), .second, .unset, .unset, .unset]) rfl ?_
      refine own_ldc2J K own_d8_102 (v := (200000 : Int64)) (own_w37 hw) ?_
      refine own_lstore K own_d8_105 (Ls' := #[.val (.long x), .second, .val (.long y), .second, .val (.int ia), .val (.int ib), .val (.int ic), .val (.int fl), .val (.long s1), .second, .val (.long s2), .second, .val (.long s3), .second, .val (.long (1 : Int64)), .second, .val (.long ((0 : Int64) + s2)), .second, .val (.ref a3), .val (.ref a3), .val (.long (3000 : Int64)), .second, .val (.long (200000 : Int64)), .second, .unset]) rfl ?_
      refine own_iload K own_d8_107 rfl ?_
      refine own_iconst K own_d8_109 (v := (4 : Int32)) rfl ?_
      refine own_iand K own_d8_110 ?_
      refine own_ifeq K own_d8_111 (fun f111 => ?_) (fun f111 => ?_)
      · refine own_iload K own_d8_151 rfl ?_
        refine own_bipush K own_d8_153 (v := (8 : Int32)) rfl ?_
        refine own_iand K own_d8_155 ?_
        refine own_ifeq K own_d8_156 (fun f112 => ?_) (fun f112 => ?_)
        · refine own_lloadN K own_d8_179 rfl ?_
          refine own_lload K own_d8_180 rfl ?_
          refine own_lload K own_d8_182 rfl ?_
          refine own_lsub K own_d8_184 ?_
          refine own_topL (x' := (2999 : Int64)) (by decide) ?_
          refine own_lcmp K own_d8_185 ?_
          refine own_ifgt K own_d8_186 (fun gP => ?_) (fun gP => ?_)
          · refine own_iconst K own_d8_206 (v := (0 : Int32)) rfl ?_
            refine own_istore K own_d8_207 (Ls' := #[.val (.long x), .second, .val (.long y), .second, .val (.int ia), .val (.int ib), .val (.int ic), .val (.int fl), .val (.long s1), .second, .val (.long s2), .second, .val (.long s3), .second, .val (.long (1 : Int64)), .second, .val (.long ((0 : Int64) + s2)), .second, .val (.ref a3), .val (.ref a3), .val (.long (3000 : Int64)), .second, .val (.long (200000 : Int64)), .second, .val (.int (0 : Int32))]) rfl ?_
            refine own_aload K own_d8_209 rfl rfl ?_
            refine own_lloadN K own_d8_211 rfl ?_
            refine own_lloadN K own_d8_212 rfl ?_
            have H113 := H110.frontO 1 rfl
            replace H113 : own_H Z h107 (own_SP b7 (.int (1 : Int32)) (.long ((0 : Int64) + s2)) :: own_BU a3 (.ref b7) (.int (3000 : Int32)) (.long (200000 : Int64)) :: []) ([]) := H113
            have H114 := H113.frontO 1 rfl
            replace H114 : own_H Z h107 (own_BU a3 (.ref b7) (.int (3000 : Int32)) (.long (200000 : Int64)) :: own_SP b7 (.int (1 : Int32)) (.long ((0 : Int64) + s2)) :: []) ([]) := H114
            refine own_virtual K own_d8_213 (own_w47 hw) (own_w48 hw) (own_w50 hw) (own_w49 hw) (own_w3 hw) (own_w51 hw) (H114.atO (i := 0) rfl) (a := a3) (argsL := [(.long x), (.long y)]) (rest := []) (own_aff hw H114 ((own_small.sub (show own_small 200000 (200000 : Int64) by unfold own_small; decide) (own_small.add (show own_small 0 (0 : Int64) by unfold own_small; decide) hs2 (by decide) (by decide)) (by decide) (by decide)).mono (by decide))) own_pd3 rfl rfl rfl (by decide) (W := 0) (Nat.le_of_eq rfl) (by decide) (by decide) (by decide) (by decide) ?_
            intro v117 h115 q116
            obtain ⟨rfl, rfl⟩ := q116
            have lim : (((3000 : Int32) : Int32) - (1 : Int32)).toInt = 2999 := by decide
            have lim2 : (2999 : Int64).toInt = 2999 := by decide
            rw [own_cl_gt, lim2] at gP
            have fin : (if x.toInt ≤ ((3000 : Int32) - (1 : Int32)).toInt ∧ x.toInt * y.toInt ≤ ((200000 : Int64) - ((0 : Int64) + s2)).toInt then (1 : Int32) else 0) = 0 := if_neg fun z => by rw [lim] at z; omega
            refine own_topI (x' := (0 : Int32)) (fin) ?_
            refine own_iload K own_d8_216 rfl ?_
            refine own_icmpne K own_d8_218 (fun q => absurd q (by decide)) (fun _ => ?_)
            refine own_iconst K own_d8_221 (v := (1 : Int32)) rfl ?_
            refine own_goto K own_d8_222 ?_
            exact own_retZ K (by first | exact Or.inl rfl | exact Or.inr rfl | decide) own_d8_226 (by decide) (by decide) (rfl)
          · refine own_lloadN K own_d8_189 rfl ?_
            refine own_lloadN K own_d8_190 rfl ?_
            refine own_lload K own_d8_191 rfl ?_
            refine own_lload K own_d8_193 rfl ?_
            refine own_lsub K own_d8_195 ?_
            refine own_static K own_d8_196 (own_w38 hw) (own_w39 hw) (own_w40 hw) (own_w41 hw) (argsL := [(.long x), (.long y), (.long ((200000 : Int64) - ((0 : Int64) + s2)))]) (rest := []) (own_pm hw ((own_small.sub (show own_small 200000 (200000 : Int64) by unfold own_small; decide) (own_small.add (show own_small 0 (0 : Int64) by unfold own_small; decide) hs2 (by decide) (by decide)) (by decide) (by decide)).mono (by decide))) own_pd4 rfl rfl rfl (by decide) (W := 0) (Nat.le_of_eq rfl) (by decide) (by decide) (by decide) (by decide) ?_
            intro v120 h118 q119
            obtain ⟨rfl, rfl⟩ := q119
            refine own_ifeq K own_d8_199 (fun gW => ?_) (fun gW => ?_)
            · refine own_iconst K own_d8_206 (v := (0 : Int32)) rfl ?_
              refine own_istore K own_d8_207 (Ls' := #[.val (.long x), .second, .val (.long y), .second, .val (.int ia), .val (.int ib), .val (.int ic), .val (.int fl), .val (.long s1), .second, .val (.long s2), .second, .val (.long s3), .second, .val (.long (1 : Int64)), .second, .val (.long ((0 : Int64) + s2)), .second, .val (.ref a3), .val (.ref a3), .val (.long (3000 : Int64)), .second, .val (.long (200000 : Int64)), .second, .val (.int (0 : Int32))]) rfl ?_
              refine own_aload K own_d8_209 rfl rfl ?_
              refine own_lloadN K own_d8_211 rfl ?_
              refine own_lloadN K own_d8_212 rfl ?_
              have H121 := H110.frontO 1 rfl
              replace H121 : own_H Z h107 (own_SP b7 (.int (1 : Int32)) (.long ((0 : Int64) + s2)) :: own_BU a3 (.ref b7) (.int (3000 : Int32)) (.long (200000 : Int64)) :: []) ([]) := H121
              have H122 := H121.frontO 1 rfl
              replace H122 : own_H Z h107 (own_BU a3 (.ref b7) (.int (3000 : Int32)) (.long (200000 : Int64)) :: own_SP b7 (.int (1 : Int32)) (.long ((0 : Int64) + s2)) :: []) ([]) := H122
              refine own_virtual K own_d8_213 (own_w47 hw) (own_w48 hw) (own_w50 hw) (own_w49 hw) (own_w3 hw) (own_w51 hw) (H122.atO (i := 0) rfl) (a := a3) (argsL := [(.long x), (.long y)]) (rest := []) (own_aff hw H122 ((own_small.sub (show own_small 200000 (200000 : Int64) by unfold own_small; decide) (own_small.add (show own_small 0 (0 : Int64) by unfold own_small; decide) hs2 (by decide) (by decide)) (by decide) (by decide)).mono (by decide))) own_pd3 rfl rfl rfl (by decide) (W := 0) (Nat.le_of_eq rfl) (by decide) (by decide) (by decide) (by decide) ?_
              intro v125 h123 q124
              obtain ⟨rfl, rfl⟩ := q124
              have lim : (((3000 : Int32) : Int32) - (1 : Int32)).toInt = 2999 := by decide
              have lim2 : (2999 : Int64).toInt = 2999 := by decide
              rw [own_cl_gt, lim2] at gP
              have fin : (if x.toInt ≤ ((3000 : Int32) - (1 : Int32)).toInt ∧ x.toInt * y.toInt ≤ ((200000 : Int64) - ((0 : Int64) + s2)).toInt then (1 : Int32) else 0) = 0 := if_neg fun z => absurd (show (if x.toInt * y.toInt ≤ ((200000 : Int64) - ((0 : Int64) + s2)).toInt then (1 : Int32) else 0) = 0 from gW) (by rw [if_pos z.2]; decide)
              refine own_topI (x' := (0 : Int32)) (fin) ?_
              refine own_iload K own_d8_216 rfl ?_
              refine own_icmpne K own_d8_218 (fun q => absurd q (by decide)) (fun _ => ?_)
              refine own_iconst K own_d8_221 (v := (1 : Int32)) rfl ?_
              refine own_goto K own_d8_222 ?_
              exact own_retZ K (by first | exact Or.inl rfl | exact Or.inr rfl | decide) own_d8_226 (by decide) (by decide) (rfl)
            · refine own_iconst K own_d8_202 (v := (1 : Int32)) rfl ?_
              refine own_goto K own_d8_203 ?_
              refine own_istore K own_d8_207 (Ls' := #[.val (.long x), .second, .val (.long y), .second, .val (.int ia), .val (.int ib), .val (.int ic), .val (.int fl), .val (.long s1), .second, .val (.long s2), .second, .val (.long s3), .second, .val (.long (1 : Int64)), .second, .val (.long ((0 : Int64) + s2)), .second, .val (.ref a3), .val (.ref a3), .val (.long (3000 : Int64)), .second, .val (.long (200000 : Int64)), .second, .val (.int (1 : Int32))]) rfl ?_
              refine own_aload K own_d8_209 rfl rfl ?_
              refine own_lloadN K own_d8_211 rfl ?_
              refine own_lloadN K own_d8_212 rfl ?_
              have H126 := H110.frontO 1 rfl
              replace H126 : own_H Z h107 (own_SP b7 (.int (1 : Int32)) (.long ((0 : Int64) + s2)) :: own_BU a3 (.ref b7) (.int (3000 : Int32)) (.long (200000 : Int64)) :: []) ([]) := H126
              have H127 := H126.frontO 1 rfl
              replace H127 : own_H Z h107 (own_BU a3 (.ref b7) (.int (3000 : Int32)) (.long (200000 : Int64)) :: own_SP b7 (.int (1 : Int32)) (.long ((0 : Int64) + s2)) :: []) ([]) := H127
              refine own_virtual K own_d8_213 (own_w47 hw) (own_w48 hw) (own_w50 hw) (own_w49 hw) (own_w3 hw) (own_w51 hw) (H127.atO (i := 0) rfl) (a := a3) (argsL := [(.long x), (.long y)]) (rest := []) (own_aff hw H127 ((own_small.sub (show own_small 200000 (200000 : Int64) by unfold own_small; decide) (own_small.add (show own_small 0 (0 : Int64) by unfold own_small; decide) hs2 (by decide) (by decide)) (by decide) (by decide)).mono (by decide))) own_pd3 rfl rfl rfl (by decide) (W := 0) (Nat.le_of_eq rfl) (by decide) (by decide) (by decide) (by decide) ?_
              intro v130 h128 q129
              obtain ⟨rfl, rfl⟩ := q129
              have lim : (((3000 : Int32) : Int32) - (1 : Int32)).toInt = 2999 := by decide
              have lim2 : (2999 : Int64).toInt = 2999 := by decide
              rw [own_cl_gt, lim2] at gP
              have fin : (if x.toInt ≤ ((3000 : Int32) - (1 : Int32)).toInt ∧ x.toInt * y.toInt ≤ ((200000 : Int64) - ((0 : Int64) + s2)).toInt then (1 : Int32) else 0) = 1 := if_pos ⟨by rw [lim]; omega, Decidable.byContradiction fun z => gW (if_neg z)⟩
              refine own_topI (x' := (1 : Int32)) (fin) ?_
              refine own_iload K own_d8_216 rfl ?_
              refine own_icmpne K own_d8_218 (fun q => absurd q (by decide)) (fun _ => ?_)
              refine own_iconst K own_d8_221 (v := (1 : Int32)) rfl ?_
              refine own_goto K own_d8_222 ?_
              exact own_retZ K (by first | exact Or.inl rfl | exact Or.inr rfl | decide) own_d8_226 (by decide) (by decide) (rfl)
        · refine own_aload K own_d8_159 rfl rfl ?_
          refine own_lload K own_d8_161 rfl ?_
          have H131 := H110.frontO 1 rfl
          replace H131 : own_H Z h107 (own_SP b7 (.int (1 : Int32)) (.long ((0 : Int64) + s2)) :: own_BU a3 (.ref b7) (.int (3000 : Int32)) (.long (200000 : Int64)) :: []) ([]) := H131
          have H132 := H131.frontO 1 rfl
          replace H132 : own_H Z h107 (own_BU a3 (.ref b7) (.int (3000 : Int32)) (.long (200000 : Int64)) :: own_SP b7 (.int (1 : Int32)) (.long ((0 : Int64) + s2)) :: []) ([]) := H132
          refine own_virtual K own_d8_163 (own_w27 hw) (own_w28 hw) (own_w30 hw) (own_w29 hw) (own_w3 hw) (own_w31 hw) (H132.atO (i := 0) rfl) (a := a3) (argsL := [(.long s3)]) (rest := []) (own_spend hw H132 (sp' := (2 : Int32)) (by decide)) own_pd5 rfl rfl rfl (by decide) (W := 0) (Nat.le_of_eq rfl) (by decide) (by decide) (by decide) (by decide) ?_
          intro v135 h133 q134
          obtain ⟨rfl, H136⟩ := q134
          replace H136 : own_H Z h133 (own_BU a3 (.ref b7) (.int (3000 : Int32)) (.long (200000 : Int64)) :: own_SP b7 (.int (2 : Int32)) (.long (((0 : Int64) + s2) + s3)) :: []) ([]) := H136
          refine own_lload K own_d8_166 rfl ?_
          refine own_lconst K own_d8_168 (v := (1 : Int64)) rfl ?_
          refine own_ladd K own_d8_169 ?_
          refine own_topL (x' := (2 : Int64)) (by decide) ?_
          refine own_lstore K own_d8_170 (Ls' := #[.val (.long x), .second, .val (.long y), .second, .val (.int ia), .val (.int ib), .val (.int ic), .val (.int fl), .val (.long s1), .second, .val (.long s2), .second, .val (.long s3), .second, .val (.long (2 : Int64)), .second, .val (.long ((0 : Int64) + s2)), .second, .val (.ref a3), .val (.ref a3), .val (.long (3000 : Int64)), .second, .val (.long (200000 : Int64)), .second, .unset]) rfl ?_
          refine own_lload K own_d8_172 rfl ?_
          refine own_lload K own_d8_174 rfl ?_
          refine own_ladd K own_d8_176 ?_
          refine own_lstore K own_d8_177 (Ls' := #[.val (.long x), .second, .val (.long y), .second, .val (.int ia), .val (.int ib), .val (.int ic), .val (.int fl), .val (.long s1), .second, .val (.long s2), .second, .val (.long s3), .second, .val (.long (2 : Int64)), .second, .val (.long (((0 : Int64) + s2) + s3)), .second, .val (.ref a3), .val (.ref a3), .val (.long (3000 : Int64)), .second, .val (.long (200000 : Int64)), .second, .unset]) rfl ?_
          refine own_lloadN K own_d8_179 rfl ?_
          refine own_lload K own_d8_180 rfl ?_
          refine own_lload K own_d8_182 rfl ?_
          refine own_lsub K own_d8_184 ?_
          refine own_topL (x' := (2998 : Int64)) (by decide) ?_
          refine own_lcmp K own_d8_185 ?_
          refine own_ifgt K own_d8_186 (fun gP => ?_) (fun gP => ?_)
          · refine own_iconst K own_d8_206 (v := (0 : Int32)) rfl ?_
            refine own_istore K own_d8_207 (Ls' := #[.val (.long x), .second, .val (.long y), .second, .val (.int ia), .val (.int ib), .val (.int ic), .val (.int fl), .val (.long s1), .second, .val (.long s2), .second, .val (.long s3), .second, .val (.long (2 : Int64)), .second, .val (.long (((0 : Int64) + s2) + s3)), .second, .val (.ref a3), .val (.ref a3), .val (.long (3000 : Int64)), .second, .val (.long (200000 : Int64)), .second, .val (.int (0 : Int32))]) rfl ?_
            refine own_aload K own_d8_209 rfl rfl ?_
            refine own_lloadN K own_d8_211 rfl ?_
            refine own_lloadN K own_d8_212 rfl ?_
            have H137 := H136.frontO 1 rfl
            replace H137 : own_H Z h133 (own_SP b7 (.int (2 : Int32)) (.long (((0 : Int64) + s2) + s3)) :: own_BU a3 (.ref b7) (.int (3000 : Int32)) (.long (200000 : Int64)) :: []) ([]) := H137
            have H138 := H137.frontO 1 rfl
            replace H138 : own_H Z h133 (own_BU a3 (.ref b7) (.int (3000 : Int32)) (.long (200000 : Int64)) :: own_SP b7 (.int (2 : Int32)) (.long (((0 : Int64) + s2) + s3)) :: []) ([]) := H138
            refine own_virtual K own_d8_213 (own_w47 hw) (own_w48 hw) (own_w50 hw) (own_w49 hw) (own_w3 hw) (own_w51 hw) (H138.atO (i := 0) rfl) (a := a3) (argsL := [(.long x), (.long y)]) (rest := []) (own_aff hw H138 ((own_small.sub (show own_small 200000 (200000 : Int64) by unfold own_small; decide) (own_small.add (own_small.add (show own_small 0 (0 : Int64) by unfold own_small; decide) hs2 (by decide) (by decide)) hs3 (by decide) (by decide)) (by decide) (by decide)).mono (by decide))) own_pd3 rfl rfl rfl (by decide) (W := 0) (Nat.le_of_eq rfl) (by decide) (by decide) (by decide) (by decide) ?_
            intro v141 h139 q140
            obtain ⟨rfl, rfl⟩ := q140
            have lim : (((3000 : Int32) : Int32) - (2 : Int32)).toInt = 2998 := by decide
            have lim2 : (2998 : Int64).toInt = 2998 := by decide
            rw [own_cl_gt, lim2] at gP
            have fin : (if x.toInt ≤ ((3000 : Int32) - (2 : Int32)).toInt ∧ x.toInt * y.toInt ≤ ((200000 : Int64) - (((0 : Int64) + s2) + s3)).toInt then (1 : Int32) else 0) = 0 := if_neg fun z => by rw [lim] at z; omega
            refine own_topI (x' := (0 : Int32)) (fin) ?_
            refine own_iload K own_d8_216 rfl ?_
            refine own_icmpne K own_d8_218 (fun q => absurd q (by decide)) (fun _ => ?_)
            refine own_iconst K own_d8_221 (v := (1 : Int32)) rfl ?_
            refine own_goto K own_d8_222 ?_
            exact own_retZ K (by first | exact Or.inl rfl | exact Or.inr rfl | decide) own_d8_226 (by decide) (by decide) (rfl)
          · refine own_lloadN K own_d8_189 rfl ?_
            refine own_lloadN K own_d8_190 rfl ?_
            refine own_lload K own_d8_191 rfl ?_
            refine own_lload K own_d8_193 rfl ?_
            refine own_lsub K own_d8_195 ?_
            refine own_static K own_d8_196 (own_w38 hw) (own_w39 hw) (own_w40 hw) (own_w41 hw) (argsL := [(.long x), (.long y), (.long ((200000 : Int64) - (((0 : Int64) + s2) + s3)))]) (rest := []) (own_pm hw ((own_small.sub (show own_small 200000 (200000 : Int64) by unfold own_small; decide) (own_small.add (own_small.add (show own_small 0 (0 : Int64) by unfold own_small; decide) hs2 (by decide) (by decide)) hs3 (by decide) (by decide)) (by decide) (by decide)).mono (by decide))) own_pd4 rfl rfl rfl (by decide) (W := 0) (Nat.le_of_eq rfl) (by decide) (by decide) (by decide) (by decide) ?_
            intro v144 h142 q143
            obtain ⟨rfl, rfl⟩ := q143
            refine own_ifeq K own_d8_199 (fun gW => ?_) (fun gW => ?_)
            · refine own_iconst K own_d8_206 (v := (0 : Int32)) rfl ?_
              refine own_istore K own_d8_207 (Ls' := #[.val (.long x), .second, .val (.long y), .second, .val (.int ia), .val (.int ib), .val (.int ic), .val (.int fl), .val (.long s1), .second, .val (.long s2), .second, .val (.long s3), .second, .val (.long (2 : Int64)), .second, .val (.long (((0 : Int64) + s2) + s3)), .second, .val (.ref a3), .val (.ref a3), .val (.long (3000 : Int64)), .second, .val (.long (200000 : Int64)), .second, .val (.int (0 : Int32))]) rfl ?_
              refine own_aload K own_d8_209 rfl rfl ?_
              refine own_lloadN K own_d8_211 rfl ?_
              refine own_lloadN K own_d8_212 rfl ?_
              have H145 := H136.frontO 1 rfl
              replace H145 : own_H Z h133 (own_SP b7 (.int (2 : Int32)) (.long (((0 : Int64) + s2) + s3)) :: own_BU a3 (.ref b7) (.int (3000 : Int32)) (.long (200000 : Int64)) :: []) ([]) := H145
              have H146 := H145.frontO 1 rfl
              replace H146 : own_H Z h133 (own_BU a3 (.ref b7) (.int (3000 : Int32)) (.long (200000 : Int64)) :: own_SP b7 (.int (2 : Int32)) (.long (((0 : Int64) + s2) + s3)) :: []) ([]) := H146
              refine own_virtual K own_d8_213 (own_w47 hw) (own_w48 hw) (own_w50 hw) (own_w49 hw) (own_w3 hw) (own_w51 hw) (H146.atO (i := 0) rfl) (a := a3) (argsL := [(.long x), (.long y)]) (rest := []) (own_aff hw H146 ((own_small.sub (show own_small 200000 (200000 : Int64) by unfold own_small; decide) (own_small.add (own_small.add (show own_small 0 (0 : Int64) by unfold own_small; decide) hs2 (by decide) (by decide)) hs3 (by decide) (by decide)) (by decide) (by decide)).mono (by decide))) own_pd3 rfl rfl rfl (by decide) (W := 0) (Nat.le_of_eq rfl) (by decide) (by decide) (by decide) (by decide) ?_
              intro v149 h147 q148
              obtain ⟨rfl, rfl⟩ := q148
              have lim : (((3000 : Int32) : Int32) - (2 : Int32)).toInt = 2998 := by decide
              have lim2 : (2998 : Int64).toInt = 2998 := by decide
              rw [own_cl_gt, lim2] at gP
              have fin : (if x.toInt ≤ ((3000 : Int32) - (2 : Int32)).toInt ∧ x.toInt * y.toInt ≤ ((200000 : Int64) - (((0 : Int64) + s2) + s3)).toInt then (1 : Int32) else 0) = 0 := if_neg fun z => absurd (show (if x.toInt * y.toInt ≤ ((200000 : Int64) - (((0 : Int64) + s2) + s3)).toInt then (1 : Int32) else 0) = 0 from gW) (by rw [if_pos z.2]; decide)
              refine own_topI (x' := (0 : Int32)) (fin) ?_
              refine own_iload K own_d8_216 rfl ?_
              refine own_icmpne K own_d8_218 (fun q => absurd q (by decide)) (fun _ => ?_)
              refine own_iconst K own_d8_221 (v := (1 : Int32)) rfl ?_
              refine own_goto K own_d8_222 ?_
              exact own_retZ K (by first | exact Or.inl rfl | exact Or.inr rfl | decide) own_d8_226 (by decide) (by decide) (rfl)
            · refine own_iconst K own_d8_202 (v := (1 : Int32)) rfl ?_
              refine own_goto K own_d8_203 ?_
              refine own_istore K own_d8_207 (Ls' := #[.val (.long x), .second, .val (.long y), .second, .val (.int ia), .val (.int ib), .val (.int ic), .val (.int fl), .val (.long s1), .second, .val (.long s2), .second, .val (.long s3), .second, .val (.long (2 : Int64)), .second, .val (.long (((0 : Int64) + s2) + s3)), .second, .val (.ref a3), .val (.ref a3), .val (.long (3000 : Int64)), .second, .val (.long (200000 : Int64)), .second, .val (.int (1 : Int32))]) rfl ?_
              refine own_aload K own_d8_209 rfl rfl ?_
              refine own_lloadN K own_d8_211 rfl ?_
              refine own_lloadN K own_d8_212 rfl ?_
              have H150 := H136.frontO 1 rfl
              replace H150 : own_H Z h133 (own_SP b7 (.int (2 : Int32)) (.long (((0 : Int64) + s2) + s3)) :: own_BU a3 (.ref b7) (.int (3000 : Int32)) (.long (200000 : Int64)) :: []) ([]) := H150
              have H151 := H150.frontO 1 rfl
              replace H151 : own_H Z h133 (own_BU a3 (.ref b7) (.int (3000 : Int32)) (.long (200000 : Int64)) :: own_SP b7 (.int (2 : Int32)) (.long (((0 : Int64) + s2) + s3)) :: []) ([]) := H151
              refine own_virtual K own_d8_213 (own_w47 hw) (own_w48 hw) (own_w50 hw) (own_w49 hw) (own_w3 hw) (own_w51 hw) (H151.atO (i := 0) rfl) (a := a3) (argsL := [(.long x), (.long y)]) (rest := []) (own_aff hw H151 ((own_small.sub (show own_small 200000 (200000 : Int64) by unfold own_small; decide) (own_small.add (own_small.add (show own_small 0 (0 : Int64) by unfold own_small; decide) hs2 (by decide) (by decide)) hs3 (by decide) (by decide)) (by decide) (by decide)).mono (by decide))) own_pd3 rfl rfl rfl (by decide) (W := 0) (Nat.le_of_eq rfl) (by decide) (by decide) (by decide) (by decide) ?_
              intro v154 h152 q153
              obtain ⟨rfl, rfl⟩ := q153
              have lim : (((3000 : Int32) : Int32) - (2 : Int32)).toInt = 2998 := by decide
              have lim2 : (2998 : Int64).toInt = 2998 := by decide
              rw [own_cl_gt, lim2] at gP
              have fin : (if x.toInt ≤ ((3000 : Int32) - (2 : Int32)).toInt ∧ x.toInt * y.toInt ≤ ((200000 : Int64) - (((0 : Int64) + s2) + s3)).toInt then (1 : Int32) else 0) = 1 := if_pos ⟨by rw [lim]; omega, Decidable.byContradiction fun z => gW (if_neg z)⟩
              refine own_topI (x' := (1 : Int32)) (fin) ?_
              refine own_iload K own_d8_216 rfl ?_
              refine own_icmpne K own_d8_218 (fun q => absurd q (by decide)) (fun _ => ?_)
              refine own_iconst K own_d8_221 (v := (1 : Int32)) rfl ?_
              refine own_goto K own_d8_222 ?_
              exact own_retZ K (by first | exact Or.inl rfl | exact Or.inr rfl | decide) own_d8_226 (by decide) (by decide) (rfl)
      · refine own_aload K own_d8_114 rfl rfl ?_
        have H155 := H110.frontO 1 rfl
        replace H155 : own_H Z h107 (own_SP b7 (.int (1 : Int32)) (.long ((0 : Int64) + s2)) :: own_BU a3 (.ref b7) (.int (3000 : Int32)) (.long (200000 : Int64)) :: []) ([]) := H155
        have H156 := H155.frontO 1 rfl
        replace H156 : own_H Z h107 (own_BU a3 (.ref b7) (.int (3000 : Int32)) (.long (200000 : Int64)) :: own_SP b7 (.int (1 : Int32)) (.long ((0 : Int64) + s2)) :: []) ([]) := H156
        refine own_virtual K own_d8_116 (own_w52 hw) (own_w53 hw) (own_w55 hw) (own_w54 hw) (own_w3 hw) (own_w56 hw) (H156.atO (i := 0) rfl) (a := a3) (argsL := []) (rest := []) (own_half hw H156 (pl' := (1500 : Int32)) (by decide)) own_pd6 rfl rfl rfl (by decide) (W := 0) (Nat.le_of_eq rfl) (by decide) (by decide) (by decide) (by decide) ?_
        intro v159 h157 q158
        obtain ⟨c160, rfl, H161⟩ := q158
        replace H161 : own_H Z h157 (own_BU c160 (.ref b7) (.int (1500 : Int32)) (.long (((0 : Int64) + s2) + (((200000 : Int64) - ((0 : Int64) + s2)) / (2 : Int64)))) :: own_BU a3 (.ref b7) (.int (3000 : Int32)) (.long (200000 : Int64)) :: own_SP b7 (.int (1 : Int32)) (.long ((0 : Int64) + s2)) :: []) ([]) := H161
        refine own_astore K own_d8_119 rfl (Ls' := #[.val (.long x), .second, .val (.long y), .second, .val (.int ia), .val (.int ib), .val (.int ic), .val (.int fl), .val (.long s1), .second, .val (.long s2), .second, .val (.long s3), .second, .val (.long (1 : Int64)), .second, .val (.long ((0 : Int64) + s2)), .second, .val (.ref a3), .val (.ref c160), .val (.long (3000 : Int64)), .second, .val (.long (200000 : Int64)), .second, .unset]) rfl ?_
        refine own_lload K own_d8_121 rfl ?_
        refine own_ldc2J K own_d8_123 (v := (3000 : Int64)) (own_w36 hw) ?_
        refine own_lload K own_d8_126 rfl ?_
        refine own_lsub K own_d8_128 ?_
        refine own_topL (x' := (2999 : Int64)) (by decide) ?_
        refine own_ldc2J K own_d8_129 (v := (2 : Int64)) (own_w59 hw) ?_
        refine own_ldiv K own_d8_132 (by decide) ?_
        refine own_topL (x' := (1499 : Int64)) (by decide) ?_
        refine own_ladd K own_d8_133 ?_
        refine own_topL (x' := (1500 : Int64)) (by decide) ?_
        refine own_lstore K own_d8_134 (Ls' := #[.val (.long x), .second, .val (.long y), .second, .val (.int ia), .val (.int ib), .val (.int ic), .val (.int fl), .val (.long s1), .second, .val (.long s2), .second, .val (.long s3), .second, .val (.long (1 : Int64)), .second, .val (.long ((0 : Int64) + s2)), .second, .val (.ref a3), .val (.ref c160), .val (.long (1500 : Int64)), .second, .val (.long (200000 : Int64)), .second, .unset]) rfl ?_
        refine own_lload K own_d8_136 rfl ?_
        refine own_ldc2J K own_d8_138 (v := (200000 : Int64)) (own_w37 hw) ?_
        refine own_lload K own_d8_141 rfl ?_
        refine own_lsub K own_d8_143 ?_
        refine own_ldc2J K own_d8_144 (v := (2 : Int64)) (own_w59 hw) ?_
        refine own_ldiv K own_d8_147 (by decide) ?_
        refine own_ladd K own_d8_148 ?_
        refine own_lstore K own_d8_149 (Ls' := #[.val (.long x), .second, .val (.long y), .second, .val (.int ia), .val (.int ib), .val (.int ic), .val (.int fl), .val (.long s1), .second, .val (.long s2), .second, .val (.long s3), .second, .val (.long (1 : Int64)), .second, .val (.long ((0 : Int64) + s2)), .second, .val (.ref a3), .val (.ref c160), .val (.long (1500 : Int64)), .second, .val (.long (((0 : Int64) + s2) + (((200000 : Int64) - ((0 : Int64) + s2)) / (2 : Int64)))), .second, .unset]) rfl ?_
        refine own_iload K own_d8_151 rfl ?_
        refine own_bipush K own_d8_153 (v := (8 : Int32)) rfl ?_
        refine own_iand K own_d8_155 ?_
        refine own_ifeq K own_d8_156 (fun f162 => ?_) (fun f162 => ?_)
        · refine own_lloadN K own_d8_179 rfl ?_
          refine own_lload K own_d8_180 rfl ?_
          refine own_lload K own_d8_182 rfl ?_
          refine own_lsub K own_d8_184 ?_
          refine own_topL (x' := (1499 : Int64)) (by decide) ?_
          refine own_lcmp K own_d8_185 ?_
          refine own_ifgt K own_d8_186 (fun gP => ?_) (fun gP => ?_)
          · refine own_iconst K own_d8_206 (v := (0 : Int32)) rfl ?_
            refine own_istore K own_d8_207 (Ls' := #[.val (.long x), .second, .val (.long y), .second, .val (.int ia), .val (.int ib), .val (.int ic), .val (.int fl), .val (.long s1), .second, .val (.long s2), .second, .val (.long s3), .second, .val (.long (1 : Int64)), .second, .val (.long ((0 : Int64) + s2)), .second, .val (.ref a3), .val (.ref c160), .val (.long (1500 : Int64)), .second, .val (.long (((0 : Int64) + s2) + (((200000 : Int64) - ((0 : Int64) + s2)) / (2 : Int64)))), .second, .val (.int (0 : Int32))]) rfl ?_
            refine own_aload K own_d8_209 rfl rfl ?_
            refine own_lloadN K own_d8_211 rfl ?_
            refine own_lloadN K own_d8_212 rfl ?_
            have H163 := H161.frontO 2 rfl
            replace H163 : own_H Z h157 (own_SP b7 (.int (1 : Int32)) (.long ((0 : Int64) + s2)) :: own_BU c160 (.ref b7) (.int (1500 : Int32)) (.long (((0 : Int64) + s2) + (((200000 : Int64) - ((0 : Int64) + s2)) / (2 : Int64)))) :: own_BU a3 (.ref b7) (.int (3000 : Int32)) (.long (200000 : Int64)) :: []) ([]) := H163
            have H164 := H163.frontO 1 rfl
            replace H164 : own_H Z h157 (own_BU c160 (.ref b7) (.int (1500 : Int32)) (.long (((0 : Int64) + s2) + (((200000 : Int64) - ((0 : Int64) + s2)) / (2 : Int64)))) :: own_SP b7 (.int (1 : Int32)) (.long ((0 : Int64) + s2)) :: own_BU a3 (.ref b7) (.int (3000 : Int32)) (.long (200000 : Int64)) :: []) ([]) := H164
            refine own_virtual K own_d8_213 (own_w47 hw) (own_w48 hw) (own_w50 hw) (own_w49 hw) (own_w3 hw) (own_w51 hw) (H164.atO (i := 0) rfl) (a := c160) (argsL := [(.long x), (.long y)]) (rest := []) (own_aff hw H164 ((own_small.sub (own_small.add (own_small.add (show own_small 0 (0 : Int64) by unfold own_small; decide) hs2 (by decide) (by decide)) (own_small.div2 (own_small.sub (show own_small 200000 (200000 : Int64) by unfold own_small; decide) (own_small.add (show own_small 0 (0 : Int64) by unfold own_small; decide) hs2 (by decide) (by decide)) (by decide) (by decide)) (by decide)) (by decide) (by decide)) (own_small.add (show own_small 0 (0 : Int64) by unfold own_small; decide) hs2 (by decide) (by decide)) (by decide) (by decide)).mono (by decide))) own_pd3 rfl rfl rfl (by decide) (W := 0) (Nat.le_of_eq rfl) (by decide) (by decide) (by decide) (by decide) ?_
            intro v167 h165 q166
            obtain ⟨rfl, rfl⟩ := q166
            have lim : (((1500 : Int32) : Int32) - (1 : Int32)).toInt = 1499 := by decide
            have lim2 : (1499 : Int64).toInt = 1499 := by decide
            rw [own_cl_gt, lim2] at gP
            have fin : (if x.toInt ≤ ((1500 : Int32) - (1 : Int32)).toInt ∧ x.toInt * y.toInt ≤ ((((0 : Int64) + s2) + (((200000 : Int64) - ((0 : Int64) + s2)) / (2 : Int64))) - ((0 : Int64) + s2)).toInt then (1 : Int32) else 0) = 0 := if_neg fun z => by rw [lim] at z; omega
            refine own_topI (x' := (0 : Int32)) (fin) ?_
            refine own_iload K own_d8_216 rfl ?_
            refine own_icmpne K own_d8_218 (fun q => absurd q (by decide)) (fun _ => ?_)
            refine own_iconst K own_d8_221 (v := (1 : Int32)) rfl ?_
            refine own_goto K own_d8_222 ?_
            exact own_retZ K (by first | exact Or.inl rfl | exact Or.inr rfl | decide) own_d8_226 (by decide) (by decide) (rfl)
          · refine own_lloadN K own_d8_189 rfl ?_
            refine own_lloadN K own_d8_190 rfl ?_
            refine own_lload K own_d8_191 rfl ?_
            refine own_lload K own_d8_193 rfl ?_
            refine own_lsub K own_d8_195 ?_
            refine own_static K own_d8_196 (own_w38 hw) (own_w39 hw) (own_w40 hw) (own_w41 hw) (argsL := [(.long x), (.long y), (.long ((((0 : Int64) + s2) + (((200000 : Int64) - ((0 : Int64) + s2)) / (2 : Int64))) - ((0 : Int64) + s2)))]) (rest := []) (own_pm hw ((own_small.sub (own_small.add (own_small.add (show own_small 0 (0 : Int64) by unfold own_small; decide) hs2 (by decide) (by decide)) (own_small.div2 (own_small.sub (show own_small 200000 (200000 : Int64) by unfold own_small; decide) (own_small.add (show own_small 0 (0 : Int64) by unfold own_small; decide) hs2 (by decide) (by decide)) (by decide) (by decide)) (by decide)) (by decide) (by decide)) (own_small.add (show own_small 0 (0 : Int64) by unfold own_small; decide) hs2 (by decide) (by decide)) (by decide) (by decide)).mono (by decide))) own_pd4 rfl rfl rfl (by decide) (W := 0) (Nat.le_of_eq rfl) (by decide) (by decide) (by decide) (by decide) ?_
            intro v170 h168 q169
            obtain ⟨rfl, rfl⟩ := q169
            refine own_ifeq K own_d8_199 (fun gW => ?_) (fun gW => ?_)
            · refine own_iconst K own_d8_206 (v := (0 : Int32)) rfl ?_
              refine own_istore K own_d8_207 (Ls' := #[.val (.long x), .second, .val (.long y), .second, .val (.int ia), .val (.int ib), .val (.int ic), .val (.int fl), .val (.long s1), .second, .val (.long s2), .second, .val (.long s3), .second, .val (.long (1 : Int64)), .second, .val (.long ((0 : Int64) + s2)), .second, .val (.ref a3), .val (.ref c160), .val (.long (1500 : Int64)), .second, .val (.long (((0 : Int64) + s2) + (((200000 : Int64) - ((0 : Int64) + s2)) / (2 : Int64)))), .second, .val (.int (0 : Int32))]) rfl ?_
              refine own_aload K own_d8_209 rfl rfl ?_
              refine own_lloadN K own_d8_211 rfl ?_
              refine own_lloadN K own_d8_212 rfl ?_
              have H171 := H161.frontO 2 rfl
              replace H171 : own_H Z h157 (own_SP b7 (.int (1 : Int32)) (.long ((0 : Int64) + s2)) :: own_BU c160 (.ref b7) (.int (1500 : Int32)) (.long (((0 : Int64) + s2) + (((200000 : Int64) - ((0 : Int64) + s2)) / (2 : Int64)))) :: own_BU a3 (.ref b7) (.int (3000 : Int32)) (.long (200000 : Int64)) :: []) ([]) := H171
              have H172 := H171.frontO 1 rfl
              replace H172 : own_H Z h157 (own_BU c160 (.ref b7) (.int (1500 : Int32)) (.long (((0 : Int64) + s2) + (((200000 : Int64) - ((0 : Int64) + s2)) / (2 : Int64)))) :: own_SP b7 (.int (1 : Int32)) (.long ((0 : Int64) + s2)) :: own_BU a3 (.ref b7) (.int (3000 : Int32)) (.long (200000 : Int64)) :: []) ([]) := H172
              refine own_virtual K own_d8_213 (own_w47 hw) (own_w48 hw) (own_w50 hw) (own_w49 hw) (own_w3 hw) (own_w51 hw) (H172.atO (i := 0) rfl) (a := c160) (argsL := [(.long x), (.long y)]) (rest := []) (own_aff hw H172 ((own_small.sub (own_small.add (own_small.add (show own_small 0 (0 : Int64) by unfold own_small; decide) hs2 (by decide) (by decide)) (own_small.div2 (own_small.sub (show own_small 200000 (200000 : Int64) by unfold own_small; decide) (own_small.add (show own_small 0 (0 : Int64) by unfold own_small; decide) hs2 (by decide) (by decide)) (by decide) (by decide)) (by decide)) (by decide) (by decide)) (own_small.add (show own_small 0 (0 : Int64) by unfold own_small; decide) hs2 (by decide) (by decide)) (by decide) (by decide)).mono (by decide))) own_pd3 rfl rfl rfl (by decide) (W := 0) (Nat.le_of_eq rfl) (by decide) (by decide) (by decide) (by decide) ?_
              intro v175 h173 q174
              obtain ⟨rfl, rfl⟩ := q174
              have lim : (((1500 : Int32) : Int32) - (1 : Int32)).toInt = 1499 := by decide
              have lim2 : (1499 : Int64).toInt = 1499 := by decide
              rw [own_cl_gt, lim2] at gP
              have fin : (if x.toInt ≤ ((1500 : Int32) - (1 : Int32)).toInt ∧ x.toInt * y.toInt ≤ ((((0 : Int64) + s2) + (((200000 : Int64) - ((0 : Int64) + s2)) / (2 : Int64))) - ((0 : Int64) + s2)).toInt then (1 : Int32) else 0) = 0 := if_neg fun z => absurd (show (if x.toInt * y.toInt ≤ ((((0 : Int64) + s2) + (((200000 : Int64) - ((0 : Int64) + s2)) / (2 : Int64))) - ((0 : Int64) + s2)).toInt then (1 : Int32) else 0) = 0 from gW) (by rw [if_pos z.2]; decide)
              refine own_topI (x' := (0 : Int32)) (fin) ?_
              refine own_iload K own_d8_216 rfl ?_
              refine own_icmpne K own_d8_218 (fun q => absurd q (by decide)) (fun _ => ?_)
              refine own_iconst K own_d8_221 (v := (1 : Int32)) rfl ?_
              refine own_goto K own_d8_222 ?_
              exact own_retZ K (by first | exact Or.inl rfl | exact Or.inr rfl | decide) own_d8_226 (by decide) (by decide) (rfl)
            · refine own_iconst K own_d8_202 (v := (1 : Int32)) rfl ?_
              refine own_goto K own_d8_203 ?_
              refine own_istore K own_d8_207 (Ls' := #[.val (.long x), .second, .val (.long y), .second, .val (.int ia), .val (.int ib), .val (.int ic), .val (.int fl), .val (.long s1), .second, .val (.long s2), .second, .val (.long s3), .second, .val (.long (1 : Int64)), .second, .val (.long ((0 : Int64) + s2)), .second, .val (.ref a3), .val (.ref c160), .val (.long (1500 : Int64)), .second, .val (.long (((0 : Int64) + s2) + (((200000 : Int64) - ((0 : Int64) + s2)) / (2 : Int64)))), .second, .val (.int (1 : Int32))]) rfl ?_
              refine own_aload K own_d8_209 rfl rfl ?_
              refine own_lloadN K own_d8_211 rfl ?_
              refine own_lloadN K own_d8_212 rfl ?_
              have H176 := H161.frontO 2 rfl
              replace H176 : own_H Z h157 (own_SP b7 (.int (1 : Int32)) (.long ((0 : Int64) + s2)) :: own_BU c160 (.ref b7) (.int (1500 : Int32)) (.long (((0 : Int64) + s2) + (((200000 : Int64) - ((0 : Int64) + s2)) / (2 : Int64)))) :: own_BU a3 (.ref b7) (.int (3000 : Int32)) (.long (200000 : Int64)) :: []) ([]) := H176
              have H177 := H176.frontO 1 rfl
              replace H177 : own_H Z h157 (own_BU c160 (.ref b7) (.int (1500 : Int32)) (.long (((0 : Int64) + s2) + (((200000 : Int64) - ((0 : Int64) + s2)) / (2 : Int64)))) :: own_SP b7 (.int (1 : Int32)) (.long ((0 : Int64) + s2)) :: own_BU a3 (.ref b7) (.int (3000 : Int32)) (.long (200000 : Int64)) :: []) ([]) := H177
              refine own_virtual K own_d8_213 (own_w47 hw) (own_w48 hw) (own_w50 hw) (own_w49 hw) (own_w3 hw) (own_w51 hw) (H177.atO (i := 0) rfl) (a := c160) (argsL := [(.long x), (.long y)]) (rest := []) (own_aff hw H177 ((own_small.sub (own_small.add (own_small.add (show own_small 0 (0 : Int64) by unfold own_small; decide) hs2 (by decide) (by decide)) (own_small.div2 (own_small.sub (show own_small 200000 (200000 : Int64) by unfold own_small; decide) (own_small.add (show own_small 0 (0 : Int64) by unfold own_small; decide) hs2 (by decide) (by decide)) (by decide) (by decide)) (by decide)) (by decide) (by decide)) (own_small.add (show own_small 0 (0 : Int64) by unfold own_small; decide) hs2 (by decide) (by decide)) (by decide) (by decide)).mono (by decide))) own_pd3 rfl rfl rfl (by decide) (W := 0) (Nat.le_of_eq rfl) (by decide) (by decide) (by decide) (by decide) ?_
              intro v180 h178 q179
              obtain ⟨rfl, rfl⟩ := q179
              have lim : (((1500 : Int32) : Int32) - (1 : Int32)).toInt = 1499 := by decide
              have lim2 : (1499 : Int64).toInt = 1499 := by decide
              rw [own_cl_gt, lim2] at gP
              have fin : (if x.toInt ≤ ((1500 : Int32) - (1 : Int32)).toInt ∧ x.toInt * y.toInt ≤ ((((0 : Int64) + s2) + (((200000 : Int64) - ((0 : Int64) + s2)) / (2 : Int64))) - ((0 : Int64) + s2)).toInt then (1 : Int32) else 0) = 1 := if_pos ⟨by rw [lim]; omega, Decidable.byContradiction fun z => gW (if_neg z)⟩
              refine own_topI (x' := (1 : Int32)) (fin) ?_
              refine own_iload K own_d8_216 rfl ?_
              refine own_icmpne K own_d8_218 (fun q => absurd q (by decide)) (fun _ => ?_)
              refine own_iconst K own_d8_221 (v := (1 : Int32)) rfl ?_
              refine own_goto K own_d8_222 ?_
              exact own_retZ K (by first | exact Or.inl rfl | exact Or.inr rfl | decide) own_d8_226 (by decide) (by decide) (rfl)
        · refine own_aload K own_d8_159 rfl rfl ?_
          refine own_lload K own_d8_161 rfl ?_
          have H181 := H161.frontO 2 rfl
          replace H181 : own_H Z h157 (own_SP b7 (.int (1 : Int32)) (.long ((0 : Int64) + s2)) :: own_BU c160 (.ref b7) (.int (1500 : Int32)) (.long (((0 : Int64) + s2) + (((200000 : Int64) - ((0 : Int64) + s2)) / (2 : Int64)))) :: own_BU a3 (.ref b7) (.int (3000 : Int32)) (.long (200000 : Int64)) :: []) ([]) := H181
          have H182 := H181.frontO 2 rfl
          replace H182 : own_H Z h157 (own_BU a3 (.ref b7) (.int (3000 : Int32)) (.long (200000 : Int64)) :: own_SP b7 (.int (1 : Int32)) (.long ((0 : Int64) + s2)) :: own_BU c160 (.ref b7) (.int (1500 : Int32)) (.long (((0 : Int64) + s2) + (((200000 : Int64) - ((0 : Int64) + s2)) / (2 : Int64)))) :: []) ([]) := H182
          refine own_virtual K own_d8_163 (own_w27 hw) (own_w28 hw) (own_w30 hw) (own_w29 hw) (own_w3 hw) (own_w31 hw) (H182.atO (i := 0) rfl) (a := a3) (argsL := [(.long s3)]) (rest := []) (own_spend hw H182 (sp' := (2 : Int32)) (by decide)) own_pd5 rfl rfl rfl (by decide) (W := 0) (Nat.le_of_eq rfl) (by decide) (by decide) (by decide) (by decide) ?_
          intro v185 h183 q184
          obtain ⟨rfl, H186⟩ := q184
          replace H186 : own_H Z h183 (own_BU a3 (.ref b7) (.int (3000 : Int32)) (.long (200000 : Int64)) :: own_SP b7 (.int (2 : Int32)) (.long (((0 : Int64) + s2) + s3)) :: own_BU c160 (.ref b7) (.int (1500 : Int32)) (.long (((0 : Int64) + s2) + (((200000 : Int64) - ((0 : Int64) + s2)) / (2 : Int64)))) :: []) ([]) := H186
          refine own_lload K own_d8_166 rfl ?_
          refine own_lconst K own_d8_168 (v := (1 : Int64)) rfl ?_
          refine own_ladd K own_d8_169 ?_
          refine own_topL (x' := (2 : Int64)) (by decide) ?_
          refine own_lstore K own_d8_170 (Ls' := #[.val (.long x), .second, .val (.long y), .second, .val (.int ia), .val (.int ib), .val (.int ic), .val (.int fl), .val (.long s1), .second, .val (.long s2), .second, .val (.long s3), .second, .val (.long (2 : Int64)), .second, .val (.long ((0 : Int64) + s2)), .second, .val (.ref a3), .val (.ref c160), .val (.long (1500 : Int64)), .second, .val (.long (((0 : Int64) + s2) + (((200000 : Int64) - ((0 : Int64) + s2)) / (2 : Int64)))), .second, .unset]) rfl ?_
          refine own_lload K own_d8_172 rfl ?_
          refine own_lload K own_d8_174 rfl ?_
          refine own_ladd K own_d8_176 ?_
          refine own_lstore K own_d8_177 (Ls' := #[.val (.long x), .second, .val (.long y), .second, .val (.int ia), .val (.int ib), .val (.int ic), .val (.int fl), .val (.long s1), .second, .val (.long s2), .second, .val (.long s3), .second, .val (.long (2 : Int64)), .second, .val (.long (((0 : Int64) + s2) + s3)), .second, .val (.ref a3), .val (.ref c160), .val (.long (1500 : Int64)), .second, .val (.long (((0 : Int64) + s2) + (((200000 : Int64) - ((0 : Int64) + s2)) / (2 : Int64)))), .second, .unset]) rfl ?_
          refine own_lloadN K own_d8_179 rfl ?_
          refine own_lload K own_d8_180 rfl ?_
          refine own_lload K own_d8_182 rfl ?_
          refine own_lsub K own_d8_184 ?_
          refine own_topL (x' := (1498 : Int64)) (by decide) ?_
          refine own_lcmp K own_d8_185 ?_
          refine own_ifgt K own_d8_186 (fun gP => ?_) (fun gP => ?_)
          · refine own_iconst K own_d8_206 (v := (0 : Int32)) rfl ?_
            refine own_istore K own_d8_207 (Ls' := #[.val (.long x), .second, .val (.long y), .second, .val (.int ia), .val (.int ib), .val (.int ic), .val (.int fl), .val (.long s1), .second, .val (.long s2), .second, .val (.long s3), .second, .val (.long (2 : Int64)), .second, .val (.long (((0 : Int64) + s2) + s3)), .second, .val (.ref a3), .val (.ref c160), .val (.long (1500 : Int64)), .second, .val (.long (((0 : Int64) + s2) + (((200000 : Int64) - ((0 : Int64) + s2)) / (2 : Int64)))), .second, .val (.int (0 : Int32))]) rfl ?_
            refine own_aload K own_d8_209 rfl rfl ?_
            refine own_lloadN K own_d8_211 rfl ?_
            refine own_lloadN K own_d8_212 rfl ?_
            have H187 := H186.frontO 1 rfl
            replace H187 : own_H Z h183 (own_SP b7 (.int (2 : Int32)) (.long (((0 : Int64) + s2) + s3)) :: own_BU a3 (.ref b7) (.int (3000 : Int32)) (.long (200000 : Int64)) :: own_BU c160 (.ref b7) (.int (1500 : Int32)) (.long (((0 : Int64) + s2) + (((200000 : Int64) - ((0 : Int64) + s2)) / (2 : Int64)))) :: []) ([]) := H187
            have H188 := H187.frontO 2 rfl
            replace H188 : own_H Z h183 (own_BU c160 (.ref b7) (.int (1500 : Int32)) (.long (((0 : Int64) + s2) + (((200000 : Int64) - ((0 : Int64) + s2)) / (2 : Int64)))) :: own_SP b7 (.int (2 : Int32)) (.long (((0 : Int64) + s2) + s3)) :: own_BU a3 (.ref b7) (.int (3000 : Int32)) (.long (200000 : Int64)) :: []) ([]) := H188
            refine own_virtual K own_d8_213 (own_w47 hw) (own_w48 hw) (own_w50 hw) (own_w49 hw) (own_w3 hw) (own_w51 hw) (H188.atO (i := 0) rfl) (a := c160) (argsL := [(.long x), (.long y)]) (rest := []) (own_aff hw H188 ((own_small.sub (own_small.add (own_small.add (show own_small 0 (0 : Int64) by unfold own_small; decide) hs2 (by decide) (by decide)) (own_small.div2 (own_small.sub (show own_small 200000 (200000 : Int64) by unfold own_small; decide) (own_small.add (show own_small 0 (0 : Int64) by unfold own_small; decide) hs2 (by decide) (by decide)) (by decide) (by decide)) (by decide)) (by decide) (by decide)) (own_small.add (own_small.add (show own_small 0 (0 : Int64) by unfold own_small; decide) hs2 (by decide) (by decide)) hs3 (by decide) (by decide)) (by decide) (by decide)).mono (by decide))) own_pd3 rfl rfl rfl (by decide) (W := 0) (Nat.le_of_eq rfl) (by decide) (by decide) (by decide) (by decide) ?_
            intro v191 h189 q190
            obtain ⟨rfl, rfl⟩ := q190
            have lim : (((1500 : Int32) : Int32) - (2 : Int32)).toInt = 1498 := by decide
            have lim2 : (1498 : Int64).toInt = 1498 := by decide
            rw [own_cl_gt, lim2] at gP
            have fin : (if x.toInt ≤ ((1500 : Int32) - (2 : Int32)).toInt ∧ x.toInt * y.toInt ≤ ((((0 : Int64) + s2) + (((200000 : Int64) - ((0 : Int64) + s2)) / (2 : Int64))) - (((0 : Int64) + s2) + s3)).toInt then (1 : Int32) else 0) = 0 := if_neg fun z => by rw [lim] at z; omega
            refine own_topI (x' := (0 : Int32)) (fin) ?_
            refine own_iload K own_d8_216 rfl ?_
            refine own_icmpne K own_d8_218 (fun q => absurd q (by decide)) (fun _ => ?_)
            refine own_iconst K own_d8_221 (v := (1 : Int32)) rfl ?_
            refine own_goto K own_d8_222 ?_
            exact own_retZ K (by first | exact Or.inl rfl | exact Or.inr rfl | decide) own_d8_226 (by decide) (by decide) (rfl)
          · refine own_lloadN K own_d8_189 rfl ?_
            refine own_lloadN K own_d8_190 rfl ?_
            refine own_lload K own_d8_191 rfl ?_
            refine own_lload K own_d8_193 rfl ?_
            refine own_lsub K own_d8_195 ?_
            refine own_static K own_d8_196 (own_w38 hw) (own_w39 hw) (own_w40 hw) (own_w41 hw) (argsL := [(.long x), (.long y), (.long ((((0 : Int64) + s2) + (((200000 : Int64) - ((0 : Int64) + s2)) / (2 : Int64))) - (((0 : Int64) + s2) + s3)))]) (rest := []) (own_pm hw ((own_small.sub (own_small.add (own_small.add (show own_small 0 (0 : Int64) by unfold own_small; decide) hs2 (by decide) (by decide)) (own_small.div2 (own_small.sub (show own_small 200000 (200000 : Int64) by unfold own_small; decide) (own_small.add (show own_small 0 (0 : Int64) by unfold own_small; decide) hs2 (by decide) (by decide)) (by decide) (by decide)) (by decide)) (by decide) (by decide)) (own_small.add (own_small.add (show own_small 0 (0 : Int64) by unfold own_small; decide) hs2 (by decide) (by decide)) hs3 (by decide) (by decide)) (by decide) (by decide)).mono (by decide))) own_pd4 rfl rfl rfl (by decide) (W := 0) (Nat.le_of_eq rfl) (by decide) (by decide) (by decide) (by decide) ?_
            intro v194 h192 q193
            obtain ⟨rfl, rfl⟩ := q193
            refine own_ifeq K own_d8_199 (fun gW => ?_) (fun gW => ?_)
            · refine own_iconst K own_d8_206 (v := (0 : Int32)) rfl ?_
              refine own_istore K own_d8_207 (Ls' := #[.val (.long x), .second, .val (.long y), .second, .val (.int ia), .val (.int ib), .val (.int ic), .val (.int fl), .val (.long s1), .second, .val (.long s2), .second, .val (.long s3), .second, .val (.long (2 : Int64)), .second, .val (.long (((0 : Int64) + s2) + s3)), .second, .val (.ref a3), .val (.ref c160), .val (.long (1500 : Int64)), .second, .val (.long (((0 : Int64) + s2) + (((200000 : Int64) - ((0 : Int64) + s2)) / (2 : Int64)))), .second, .val (.int (0 : Int32))]) rfl ?_
              refine own_aload K own_d8_209 rfl rfl ?_
              refine own_lloadN K own_d8_211 rfl ?_
              refine own_lloadN K own_d8_212 rfl ?_
              have H195 := H186.frontO 1 rfl
              replace H195 : own_H Z h183 (own_SP b7 (.int (2 : Int32)) (.long (((0 : Int64) + s2) + s3)) :: own_BU a3 (.ref b7) (.int (3000 : Int32)) (.long (200000 : Int64)) :: own_BU c160 (.ref b7) (.int (1500 : Int32)) (.long (((0 : Int64) + s2) + (((200000 : Int64) - ((0 : Int64) + s2)) / (2 : Int64)))) :: []) ([]) := H195
              have H196 := H195.frontO 2 rfl
              replace H196 : own_H Z h183 (own_BU c160 (.ref b7) (.int (1500 : Int32)) (.long (((0 : Int64) + s2) + (((200000 : Int64) - ((0 : Int64) + s2)) / (2 : Int64)))) :: own_SP b7 (.int (2 : Int32)) (.long (((0 : Int64) + s2) + s3)) :: own_BU a3 (.ref b7) (.int (3000 : Int32)) (.long (200000 : Int64)) :: []) ([]) := H196
              refine own_virtual K own_d8_213 (own_w47 hw) (own_w48 hw) (own_w50 hw) (own_w49 hw) (own_w3 hw) (own_w51 hw) (H196.atO (i := 0) rfl) (a := c160) (argsL := [(.long x), (.long y)]) (rest := []) (own_aff hw H196 ((own_small.sub (own_small.add (own_small.add (show own_small 0 (0 : Int64) by unfold own_small; decide) hs2 (by decide) (by decide)) (own_small.div2 (own_small.sub (show own_small 200000 (200000 : Int64) by unfold own_small; decide) (own_small.add (show own_small 0 (0 : Int64) by unfold own_small; decide) hs2 (by decide) (by decide)) (by decide) (by decide)) (by decide)) (by decide) (by decide)) (own_small.add (own_small.add (show own_small 0 (0 : Int64) by unfold own_small; decide) hs2 (by decide) (by decide)) hs3 (by decide) (by decide)) (by decide) (by decide)).mono (by decide))) own_pd3 rfl rfl rfl (by decide) (W := 0) (Nat.le_of_eq rfl) (by decide) (by decide) (by decide) (by decide) ?_
              intro v199 h197 q198
              obtain ⟨rfl, rfl⟩ := q198
              have lim : (((1500 : Int32) : Int32) - (2 : Int32)).toInt = 1498 := by decide
              have lim2 : (1498 : Int64).toInt = 1498 := by decide
              rw [own_cl_gt, lim2] at gP
              have fin : (if x.toInt ≤ ((1500 : Int32) - (2 : Int32)).toInt ∧ x.toInt * y.toInt ≤ ((((0 : Int64) + s2) + (((200000 : Int64) - ((0 : Int64) + s2)) / (2 : Int64))) - (((0 : Int64) + s2) + s3)).toInt then (1 : Int32) else 0) = 0 := if_neg fun z => absurd (show (if x.toInt * y.toInt ≤ ((((0 : Int64) + s2) + (((200000 : Int64) - ((0 : Int64) + s2)) / (2 : Int64))) - (((0 : Int64) + s2) + s3)).toInt then (1 : Int32) else 0) = 0 from gW) (by rw [if_pos z.2]; decide)
              refine own_topI (x' := (0 : Int32)) (fin) ?_
              refine own_iload K own_d8_216 rfl ?_
              refine own_icmpne K own_d8_218 (fun q => absurd q (by decide)) (fun _ => ?_)
              refine own_iconst K own_d8_221 (v := (1 : Int32)) rfl ?_
              refine own_goto K own_d8_222 ?_
              exact own_retZ K (by first | exact Or.inl rfl | exact Or.inr rfl | decide) own_d8_226 (by decide) (by decide) (rfl)
            · refine own_iconst K own_d8_202 (v := (1 : Int32)) rfl ?_
              refine own_goto K own_d8_203 ?_
              refine own_istore K own_d8_207 (Ls' := #[.val (.long x), .second, .val (.long y), .second, .val (.int ia), .val (.int ib), .val (.int ic), .val (.int fl), .val (.long s1), .second, .val (.long s2), .second, .val (.long s3), .second, .val (.long (2 : Int64)), .second, .val (.long (((0 : Int64) + s2) + s3)), .second, .val (.ref a3), .val (.ref c160), .val (.long (1500 : Int64)), .second, .val (.long (((0 : Int64) + s2) + (((200000 : Int64) - ((0 : Int64) + s2)) / (2 : Int64)))), .second, .val (.int (1 : Int32))]) rfl ?_
              refine own_aload K own_d8_209 rfl rfl ?_
              refine own_lloadN K own_d8_211 rfl ?_
              refine own_lloadN K own_d8_212 rfl ?_
              have H200 := H186.frontO 1 rfl
              replace H200 : own_H Z h183 (own_SP b7 (.int (2 : Int32)) (.long (((0 : Int64) + s2) + s3)) :: own_BU a3 (.ref b7) (.int (3000 : Int32)) (.long (200000 : Int64)) :: own_BU c160 (.ref b7) (.int (1500 : Int32)) (.long (((0 : Int64) + s2) + (((200000 : Int64) - ((0 : Int64) + s2)) / (2 : Int64)))) :: []) ([]) := H200
              have H201 := H200.frontO 2 rfl
              replace H201 : own_H Z h183 (own_BU c160 (.ref b7) (.int (1500 : Int32)) (.long (((0 : Int64) + s2) + (((200000 : Int64) - ((0 : Int64) + s2)) / (2 : Int64)))) :: own_SP b7 (.int (2 : Int32)) (.long (((0 : Int64) + s2) + s3)) :: own_BU a3 (.ref b7) (.int (3000 : Int32)) (.long (200000 : Int64)) :: []) ([]) := H201
              refine own_virtual K own_d8_213 (own_w47 hw) (own_w48 hw) (own_w50 hw) (own_w49 hw) (own_w3 hw) (own_w51 hw) (H201.atO (i := 0) rfl) (a := c160) (argsL := [(.long x), (.long y)]) (rest := []) (own_aff hw H201 ((own_small.sub (own_small.add (own_small.add (show own_small 0 (0 : Int64) by unfold own_small; decide) hs2 (by decide) (by decide)) (own_small.div2 (own_small.sub (show own_small 200000 (200000 : Int64) by unfold own_small; decide) (own_small.add (show own_small 0 (0 : Int64) by unfold own_small; decide) hs2 (by decide) (by decide)) (by decide) (by decide)) (by decide)) (by decide) (by decide)) (own_small.add (own_small.add (show own_small 0 (0 : Int64) by unfold own_small; decide) hs2 (by decide) (by decide)) hs3 (by decide) (by decide)) (by decide) (by decide)).mono (by decide))) own_pd3 rfl rfl rfl (by decide) (W := 0) (Nat.le_of_eq rfl) (by decide) (by decide) (by decide) (by decide) ?_
              intro v204 h202 q203
              obtain ⟨rfl, rfl⟩ := q203
              have lim : (((1500 : Int32) : Int32) - (2 : Int32)).toInt = 1498 := by decide
              have lim2 : (1498 : Int64).toInt = 1498 := by decide
              rw [own_cl_gt, lim2] at gP
              have fin : (if x.toInt ≤ ((1500 : Int32) - (2 : Int32)).toInt ∧ x.toInt * y.toInt ≤ ((((0 : Int64) + s2) + (((200000 : Int64) - ((0 : Int64) + s2)) / (2 : Int64))) - (((0 : Int64) + s2) + s3)).toInt then (1 : Int32) else 0) = 1 := if_pos ⟨by rw [lim]; omega, Decidable.byContradiction fun z => gW (if_neg z)⟩
              refine own_topI (x' := (1 : Int32)) (fin) ?_
              refine own_iload K own_d8_216 rfl ?_
              refine own_icmpne K own_d8_218 (fun q => absurd q (by decide)) (fun _ => ?_)
              refine own_iconst K own_d8_221 (v := (1 : Int32)) rfl ?_
              refine own_goto K own_d8_222 ?_
              exact own_retZ K (by first | exact Or.inl rfl | exact Or.inr rfl | decide) own_d8_226 (by decide) (by decide) (rfl)
  · refine own_aload K own_d8_46 rfl rfl ?_
    refine own_lload K own_d8_48 rfl ?_
    have H205 := H8.frontO 1 rfl
    replace H205 : own_H Z h4 (own_SP b7 (.int (0 : Int32)) (.long (0 : Int64)) :: own_BU a3 (.ref b7) (.int (3000 : Int32)) (.long (200000 : Int64)) :: []) ([]) := H205
    have H206 := H205.frontO 1 rfl
    replace H206 : own_H Z h4 (own_BU a3 (.ref b7) (.int (3000 : Int32)) (.long (200000 : Int64)) :: own_SP b7 (.int (0 : Int32)) (.long (0 : Int64)) :: []) ([]) := H206
    refine own_virtual K own_d8_50 (own_w27 hw) (own_w28 hw) (own_w30 hw) (own_w29 hw) (own_w3 hw) (own_w31 hw) (H206.atO (i := 0) rfl) (a := a3) (argsL := [(.long s1)]) (rest := []) (own_spend hw H206 (sp' := (1 : Int32)) (by decide)) own_pd5 rfl rfl rfl (by decide) (W := 0) (Nat.le_of_eq rfl) (by decide) (by decide) (by decide) (by decide) ?_
    intro v209 h207 q208
    obtain ⟨rfl, H210⟩ := q208
    replace H210 : own_H Z h207 (own_BU a3 (.ref b7) (.int (3000 : Int32)) (.long (200000 : Int64)) :: own_SP b7 (.int (1 : Int32)) (.long ((0 : Int64) + s1)) :: []) ([]) := H210
    refine own_lload K own_d8_53 rfl ?_
    refine own_lconst K own_d8_55 (v := (1 : Int64)) rfl ?_
    refine own_ladd K own_d8_56 ?_
    refine own_topL (x' := (1 : Int64)) (by decide) ?_
    refine own_lstore K own_d8_57 (Ls' := #[.val (.long x), .second, .val (.long y), .second, .val (.int ia), .val (.int ib), .val (.int ic), .val (.int fl), .val (.long s1), .second, .val (.long s2), .second, .val (.long s3), .second, .val (.long (1 : Int64)), .second, .val (.long (0 : Int64)), .second, .val (.ref a3), .unset, .unset, .unset, .unset, .unset, .unset]) rfl ?_
    refine own_lload K own_d8_59 rfl ?_
    refine own_lload K own_d8_61 rfl ?_
    refine own_ladd K own_d8_63 ?_
    refine own_lstore K own_d8_64 (Ls' := #[.val (.long x), .second, .val (.long y), .second, .val (.int ia), .val (.int ib), .val (.int ic), .val (.int fl), .val (.long s1), .second, .val (.long s2), .second, .val (.long s3), .second, .val (.long (1 : Int64)), .second, .val (.long ((0 : Int64) + s1)), .second, .val (.ref a3), .unset, .unset, .unset, .unset, .unset, .unset]) rfl ?_
    refine own_iload K own_d8_66 rfl ?_
    refine own_iconst K own_d8_68 (v := (2 : Int32)) rfl ?_
    refine own_iand K own_d8_69 ?_
    refine own_ifeq K own_d8_70 (fun f211 => ?_) (fun f211 => ?_)
    · refine own_aload K own_d8_93 rfl rfl ?_
      refine own_astore K own_d8_95 rfl (Ls' := #[.val (.long x), .second, .val (.long y), .second, .val (.int ia), .val (.int ib), .val (.int ic), .val (.int fl), .val (.long s1), .second, .val (.long s2), .second, .val (.long s3), .second, .val (.long (1 : Int64)), .second, .val (.long ((0 : Int64) + s1)), .second, .val (.ref a3), .val (.ref a3), .unset, .unset, .unset, .unset, .unset]) rfl ?_
      refine own_ldc2J K own_d8_97 (v := (3000 : Int64)) (own_w36 hw) ?_
      refine own_lstore K own_d8_100 (Ls' := #[.val (.long x), .second, .val (.long y), .second, .val (.int ia), .val (.int ib), .val (.int ic), .val (.int fl), .val (.long s1), .second, .val (.long s2), .second, .val (.long s3), .second, .val (.long (1 : Int64)), .second, .val (.long ((0 : Int64) + s1)), .second, .val (.ref a3), .val (.ref a3), .val (.long (3000 : Int64)), .second, .unset, .unset, .unset]) rfl ?_
      refine own_ldc2J K own_d8_102 (v := (200000 : Int64)) (own_w37 hw) ?_
      refine own_lstore K own_d8_105 (Ls' := #[.val (.long x), .second, .val (.long y), .second, .val (.int ia), .val (.int ib), .val (.int ic), .val (.int fl), .val (.long s1), .second, .val (.long s2), .second, .val (.long s3), .second, .val (.long (1 : Int64)), .second, .val (.long ((0 : Int64) + s1)), .second, .val (.ref a3), .val (.ref a3), .val (.long (3000 : Int64)), .second, .val (.long (200000 : Int64)), .second, .unset]) rfl ?_
      refine own_iload K own_d8_107 rfl ?_
      refine own_iconst K own_d8_109 (v := (4 : Int32)) rfl ?_
      refine own_iand K own_d8_110 ?_
      refine own_ifeq K own_d8_111 (fun f212 => ?_) (fun f212 => ?_)
      · refine own_iload K own_d8_151 rfl ?_
        refine own_bipush K own_d8_153 (v := (8 : Int32)) rfl ?_
        refine own_iand K own_d8_155 ?_
        refine own_ifeq K own_d8_156 (fun f213 => ?_) (fun f213 => ?_)
        · refine own_lloadN K own_d8_179 rfl ?_
          refine own_lload K own_d8_180 rfl ?_
          refine own_lload K own_d8_182 rfl ?_
          refine own_lsub K own_d8_184 ?_
          refine own_topL (x' := (2999 : Int64)) (by decide) ?_
          refine own_lcmp K own_d8_185 ?_
          refine own_ifgt K own_d8_186 (fun gP => ?_) (fun gP => ?_)
          · refine own_iconst K own_d8_206 (v := (0 : Int32)) rfl ?_
            refine own_istore K own_d8_207 (Ls' := #[.val (.long x), .second, .val (.long y), .second, .val (.int ia), .val (.int ib), .val (.int ic), .val (.int fl), .val (.long s1), .second, .val (.long s2), .second, .val (.long s3), .second, .val (.long (1 : Int64)), .second, .val (.long ((0 : Int64) + s1)), .second, .val (.ref a3), .val (.ref a3), .val (.long (3000 : Int64)), .second, .val (.long (200000 : Int64)), .second, .val (.int (0 : Int32))]) rfl ?_
            refine own_aload K own_d8_209 rfl rfl ?_
            refine own_lloadN K own_d8_211 rfl ?_
            refine own_lloadN K own_d8_212 rfl ?_
            have H214 := H210.frontO 1 rfl
            replace H214 : own_H Z h207 (own_SP b7 (.int (1 : Int32)) (.long ((0 : Int64) + s1)) :: own_BU a3 (.ref b7) (.int (3000 : Int32)) (.long (200000 : Int64)) :: []) ([]) := H214
            have H215 := H214.frontO 1 rfl
            replace H215 : own_H Z h207 (own_BU a3 (.ref b7) (.int (3000 : Int32)) (.long (200000 : Int64)) :: own_SP b7 (.int (1 : Int32)) (.long ((0 : Int64) + s1)) :: []) ([]) := H215
            refine own_virtual K own_d8_213 (own_w47 hw) (own_w48 hw) (own_w50 hw) (own_w49 hw) (own_w3 hw) (own_w51 hw) (H215.atO (i := 0) rfl) (a := a3) (argsL := [(.long x), (.long y)]) (rest := []) (own_aff hw H215 ((own_small.sub (show own_small 200000 (200000 : Int64) by unfold own_small; decide) (own_small.add (show own_small 0 (0 : Int64) by unfold own_small; decide) hs1 (by decide) (by decide)) (by decide) (by decide)).mono (by decide))) own_pd3 rfl rfl rfl (by decide) (W := 0) (Nat.le_of_eq rfl) (by decide) (by decide) (by decide) (by decide) ?_
            intro v218 h216 q217
            obtain ⟨rfl, rfl⟩ := q217
            have lim : (((3000 : Int32) : Int32) - (1 : Int32)).toInt = 2999 := by decide
            have lim2 : (2999 : Int64).toInt = 2999 := by decide
            rw [own_cl_gt, lim2] at gP
            have fin : (if x.toInt ≤ ((3000 : Int32) - (1 : Int32)).toInt ∧ x.toInt * y.toInt ≤ ((200000 : Int64) - ((0 : Int64) + s1)).toInt then (1 : Int32) else 0) = 0 := if_neg fun z => by rw [lim] at z; omega
            refine own_topI (x' := (0 : Int32)) (fin) ?_
            refine own_iload K own_d8_216 rfl ?_
            refine own_icmpne K own_d8_218 (fun q => absurd q (by decide)) (fun _ => ?_)
            refine own_iconst K own_d8_221 (v := (1 : Int32)) rfl ?_
            refine own_goto K own_d8_222 ?_
            exact own_retZ K (by first | exact Or.inl rfl | exact Or.inr rfl | decide) own_d8_226 (by decide) (by decide) (rfl)
          · refine own_lloadN K own_d8_189 rfl ?_
            refine own_lloadN K own_d8_190 rfl ?_
            refine own_lload K own_d8_191 rfl ?_
            refine own_lload K own_d8_193 rfl ?_
            refine own_lsub K own_d8_195 ?_
            refine own_static K own_d8_196 (own_w38 hw) (own_w39 hw) (own_w40 hw) (own_w41 hw) (argsL := [(.long x), (.long y), (.long ((200000 : Int64) - ((0 : Int64) + s1)))]) (rest := []) (own_pm hw ((own_small.sub (show own_small 200000 (200000 : Int64) by unfold own_small; decide) (own_small.add (show own_small 0 (0 : Int64) by unfold own_small; decide) hs1 (by decide) (by decide)) (by decide) (by decide)).mono (by decide))) own_pd4 rfl rfl rfl (by decide) (W := 0) (Nat.le_of_eq rfl) (by decide) (by decide) (by decide) (by decide) ?_
            intro v221 h219 q220
            obtain ⟨rfl, rfl⟩ := q220
            refine own_ifeq K own_d8_199 (fun gW => ?_) (fun gW => ?_)
            · refine own_iconst K own_d8_206 (v := (0 : Int32)) rfl ?_
              refine own_istore K own_d8_207 (Ls' := #[.val (.long x), .second, .val (.long y), .second, .val (.int ia), .val (.int ib), .val (.int ic), .val (.int fl), .val (.long s1), .second, .val (.long s2), .second, .val (.long s3), .second, .val (.long (1 : Int64)), .second, .val (.long ((0 : Int64) + s1)), .second, .val (.ref a3), .val (.ref a3), .val (.long (3000 : Int64)), .second, .val (.long (200000 : Int64)), .second, .val (.int (0 : Int32))]) rfl ?_
              refine own_aload K own_d8_209 rfl rfl ?_
              refine own_lloadN K own_d8_211 rfl ?_
              refine own_lloadN K own_d8_212 rfl ?_
              have H222 := H210.frontO 1 rfl
              replace H222 : own_H Z h207 (own_SP b7 (.int (1 : Int32)) (.long ((0 : Int64) + s1)) :: own_BU a3 (.ref b7) (.int (3000 : Int32)) (.long (200000 : Int64)) :: []) ([]) := H222
              have H223 := H222.frontO 1 rfl
              replace H223 : own_H Z h207 (own_BU a3 (.ref b7) (.int (3000 : Int32)) (.long (200000 : Int64)) :: own_SP b7 (.int (1 : Int32)) (.long ((0 : Int64) + s1)) :: []) ([]) := H223
              refine own_virtual K own_d8_213 (own_w47 hw) (own_w48 hw) (own_w50 hw) (own_w49 hw) (own_w3 hw) (own_w51 hw) (H223.atO (i := 0) rfl) (a := a3) (argsL := [(.long x), (.long y)]) (rest := []) (own_aff hw H223 ((own_small.sub (show own_small 200000 (200000 : Int64) by unfold own_small; decide) (own_small.add (show own_small 0 (0 : Int64) by unfold own_small; decide) hs1 (by decide) (by decide)) (by decide) (by decide)).mono (by decide))) own_pd3 rfl rfl rfl (by decide) (W := 0) (Nat.le_of_eq rfl) (by decide) (by decide) (by decide) (by decide) ?_
              intro v226 h224 q225
              obtain ⟨rfl, rfl⟩ := q225
              have lim : (((3000 : Int32) : Int32) - (1 : Int32)).toInt = 2999 := by decide
              have lim2 : (2999 : Int64).toInt = 2999 := by decide
              rw [own_cl_gt, lim2] at gP
              have fin : (if x.toInt ≤ ((3000 : Int32) - (1 : Int32)).toInt ∧ x.toInt * y.toInt ≤ ((200000 : Int64) - ((0 : Int64) + s1)).toInt then (1 : Int32) else 0) = 0 := if_neg fun z => absurd (show (if x.toInt * y.toInt ≤ ((200000 : Int64) - ((0 : Int64) + s1)).toInt then (1 : Int32) else 0) = 0 from gW) (by rw [if_pos z.2]; decide)
              refine own_topI (x' := (0 : Int32)) (fin) ?_
              refine own_iload K own_d8_216 rfl ?_
              refine own_icmpne K own_d8_218 (fun q => absurd q (by decide)) (fun _ => ?_)
              refine own_iconst K own_d8_221 (v := (1 : Int32)) rfl ?_
              refine own_goto K own_d8_222 ?_
              exact own_retZ K (by first | exact Or.inl rfl | exact Or.inr rfl | decide) own_d8_226 (by decide) (by decide) (rfl)
            · refine own_iconst K own_d8_202 (v := (1 : Int32)) rfl ?_
              refine own_goto K own_d8_203 ?_
              refine own_istore K own_d8_207 (Ls' := #[.val (.long x), .second, .val (.long y), .second, .val (.int ia), .val (.int ib), .val (.int ic), .val (.int fl), .val (.long s1), .second, .val (.long s2), .second, .val (.long s3), .second, .val (.long (1 : Int64)), .second, .val (.long ((0 : Int64) + s1)), .second, .val (.ref a3), .val (.ref a3), .val (.long (3000 : Int64)), .second, .val (.long (200000 : Int64)), .second, .val (.int (1 : Int32))]) rfl ?_
              refine own_aload K own_d8_209 rfl rfl ?_
              refine own_lloadN K own_d8_211 rfl ?_
              refine own_lloadN K own_d8_212 rfl ?_
              have H227 := H210.frontO 1 rfl
              replace H227 : own_H Z h207 (own_SP b7 (.int (1 : Int32)) (.long ((0 : Int64) + s1)) :: own_BU a3 (.ref b7) (.int (3000 : Int32)) (.long (200000 : Int64)) :: []) ([]) := H227
              have H228 := H227.frontO 1 rfl
              replace H228 : own_H Z h207 (own_BU a3 (.ref b7) (.int (3000 : Int32)) (.long (200000 : Int64)) :: own_SP b7 (.int (1 : Int32)) (.long ((0 : Int64) + s1)) :: []) ([]) := H228
              refine own_virtual K own_d8_213 (own_w47 hw) (own_w48 hw) (own_w50 hw) (own_w49 hw) (own_w3 hw) (own_w51 hw) (H228.atO (i := 0) rfl) (a := a3) (argsL := [(.long x), (.long y)]) (rest := []) (own_aff hw H228 ((own_small.sub (show own_small 200000 (200000 : Int64) by unfold own_small; decide) (own_small.add (show own_small 0 (0 : Int64) by unfold own_small; decide) hs1 (by decide) (by decide)) (by decide) (by decide)).mono (by decide))) own_pd3 rfl rfl rfl (by decide) (W := 0) (Nat.le_of_eq rfl) (by decide) (by decide) (by decide) (by decide) ?_
              intro v231 h229 q230
              obtain ⟨rfl, rfl⟩ := q230
              have lim : (((3000 : Int32) : Int32) - (1 : Int32)).toInt = 2999 := by decide
              have lim2 : (2999 : Int64).toInt = 2999 := by decide
              rw [own_cl_gt, lim2] at gP
              have fin : (if x.toInt ≤ ((3000 : Int32) - (1 : Int32)).toInt ∧ x.toInt * y.toInt ≤ ((200000 : Int64) - ((0 : Int64) + s1)).toInt then (1 : Int32) else 0) = 1 := if_pos ⟨by rw [lim]; omega, Decidable.byContradiction fun z => gW (if_neg z)⟩
              refine own_topI (x' := (1 : Int32)) (fin) ?_
              refine own_iload K own_d8_216 rfl ?_
              refine own_icmpne K own_d8_218 (fun q => absurd q (by decide)) (fun _ => ?_)
              refine own_iconst K own_d8_221 (v := (1 : Int32)) rfl ?_
              refine own_goto K own_d8_222 ?_
              exact own_retZ K (by first | exact Or.inl rfl | exact Or.inr rfl | decide) own_d8_226 (by decide) (by decide) (rfl)
        · refine own_aload K own_d8_159 rfl rfl ?_
          refine own_lload K own_d8_161 rfl ?_
          have H232 := H210.frontO 1 rfl
          replace H232 : own_H Z h207 (own_SP b7 (.int (1 : Int32)) (.long ((0 : Int64) + s1)) :: own_BU a3 (.ref b7) (.int (3000 : Int32)) (.long (200000 : Int64)) :: []) ([]) := H232
          have H233 := H232.frontO 1 rfl
          replace H233 : own_H Z h207 (own_BU a3 (.ref b7) (.int (3000 : Int32)) (.long (200000 : Int64)) :: own_SP b7 (.int (1 : Int32)) (.long ((0 : Int64) + s1)) :: []) ([]) := H233
          refine own_virtual K own_d8_163 (own_w27 hw) (own_w28 hw) (own_w30 hw) (own_w29 hw) (own_w3 hw) (own_w31 hw) (H233.atO (i := 0) rfl) (a := a3) (argsL := [(.long s3)]) (rest := []) (own_spend hw H233 (sp' := (2 : Int32)) (by decide)) own_pd5 rfl rfl rfl (by decide) (W := 0) (Nat.le_of_eq rfl) (by decide) (by decide) (by decide) (by decide) ?_
          intro v236 h234 q235
          obtain ⟨rfl, H237⟩ := q235
          replace H237 : own_H Z h234 (own_BU a3 (.ref b7) (.int (3000 : Int32)) (.long (200000 : Int64)) :: own_SP b7 (.int (2 : Int32)) (.long (((0 : Int64) + s1) + s3)) :: []) ([]) := H237
          refine own_lload K own_d8_166 rfl ?_
          refine own_lconst K own_d8_168 (v := (1 : Int64)) rfl ?_
          refine own_ladd K own_d8_169 ?_
          refine own_topL (x' := (2 : Int64)) (by decide) ?_
          refine own_lstore K own_d8_170 (Ls' := #[.val (.long x), .second, .val (.long y), .second, .val (.int ia), .val (.int ib), .val (.int ic), .val (.int fl), .val (.long s1), .second, .val (.long s2), .second, .val (.long s3), .second, .val (.long (2 : Int64)), .second, .val (.long ((0 : Int64) + s1)), .second, .val (.ref a3), .val (.ref a3), .val (.long (3000 : Int64)), .second, .val (.long (200000 : Int64)), .second, .unset]) rfl ?_
          refine own_lload K own_d8_172 rfl ?_
          refine own_lload K own_d8_174 rfl ?_
          refine own_ladd K own_d8_176 ?_
          refine own_lstore K own_d8_177 (Ls' := #[.val (.long x), .second, .val (.long y), .second, .val (.int ia), .val (.int ib), .val (.int ic), .val (.int fl), .val (.long s1), .second, .val (.long s2), .second, .val (.long s3), .second, .val (.long (2 : Int64)), .second, .val (.long (((0 : Int64) + s1) + s3)), .second, .val (.ref a3), .val (.ref a3), .val (.long (3000 : Int64)), .second, .val (.long (200000 : Int64)), .second, .unset]) rfl ?_
          refine own_lloadN K own_d8_179 rfl ?_
          refine own_lload K own_d8_180 rfl ?_
          refine own_lload K own_d8_182 rfl ?_
          refine own_lsub K own_d8_184 ?_
          refine own_topL (x' := (2998 : Int64)) (by decide) ?_
          refine own_lcmp K own_d8_185 ?_
          refine own_ifgt K own_d8_186 (fun gP => ?_) (fun gP => ?_)
          · refine own_iconst K own_d8_206 (v := (0 : Int32)) rfl ?_
            refine own_istore K own_d8_207 (Ls' := #[.val (.long x), .second, .val (.long y), .second, .val (.int ia), .val (.int ib), .val (.int ic), .val (.int fl), .val (.long s1), .second, .val (.long s2), .second, .val (.long s3), .second, .val (.long (2 : Int64)), .second, .val (.long (((0 : Int64) + s1) + s3)), .second, .val (.ref a3), .val (.ref a3), .val (.long (3000 : Int64)), .second, .val (.long (200000 : Int64)), .second, .val (.int (0 : Int32))]) rfl ?_
            refine own_aload K own_d8_209 rfl rfl ?_
            refine own_lloadN K own_d8_211 rfl ?_
            refine own_lloadN K own_d8_212 rfl ?_
            have H238 := H237.frontO 1 rfl
            replace H238 : own_H Z h234 (own_SP b7 (.int (2 : Int32)) (.long (((0 : Int64) + s1) + s3)) :: own_BU a3 (.ref b7) (.int (3000 : Int32)) (.long (200000 : Int64)) :: []) ([]) := H238
            have H239 := H238.frontO 1 rfl
            replace H239 : own_H Z h234 (own_BU a3 (.ref b7) (.int (3000 : Int32)) (.long (200000 : Int64)) :: own_SP b7 (.int (2 : Int32)) (.long (((0 : Int64) + s1) + s3)) :: []) ([]) := H239
            refine own_virtual K own_d8_213 (own_w47 hw) (own_w48 hw) (own_w50 hw) (own_w49 hw) (own_w3 hw) (own_w51 hw) (H239.atO (i := 0) rfl) (a := a3) (argsL := [(.long x), (.long y)]) (rest := []) (own_aff hw H239 ((own_small.sub (show own_small 200000 (200000 : Int64) by unfold own_small; decide) (own_small.add (own_small.add (show own_small 0 (0 : Int64) by unfold own_small; decide) hs1 (by decide) (by decide)) hs3 (by decide) (by decide)) (by decide) (by decide)).mono (by decide))) own_pd3 rfl rfl rfl (by decide) (W := 0) (Nat.le_of_eq rfl) (by decide) (by decide) (by decide) (by decide) ?_
            intro v242 h240 q241
            obtain ⟨rfl, rfl⟩ := q241
            have lim : (((3000 : Int32) : Int32) - (2 : Int32)).toInt = 2998 := by decide
            have lim2 : (2998 : Int64).toInt = 2998 := by decide
            rw [own_cl_gt, lim2] at gP
            have fin : (if x.toInt ≤ ((3000 : Int32) - (2 : Int32)).toInt ∧ x.toInt * y.toInt ≤ ((200000 : Int64) - (((0 : Int64) + s1) + s3)).toInt then (1 : Int32) else 0) = 0 := if_neg fun z => by rw [lim] at z; omega
            refine own_topI (x' := (0 : Int32)) (fin) ?_
            refine own_iload K own_d8_216 rfl ?_
            refine own_icmpne K own_d8_218 (fun q => absurd q (by decide)) (fun _ => ?_)
            refine own_iconst K own_d8_221 (v := (1 : Int32)) rfl ?_
            refine own_goto K own_d8_222 ?_
            exact own_retZ K (by first | exact Or.inl rfl | exact Or.inr rfl | decide) own_d8_226 (by decide) (by decide) (rfl)
          · refine own_lloadN K own_d8_189 rfl ?_
            refine own_lloadN K own_d8_190 rfl ?_
            refine own_lload K own_d8_191 rfl ?_
            refine own_lload K own_d8_193 rfl ?_
            refine own_lsub K own_d8_195 ?_
            refine own_static K own_d8_196 (own_w38 hw) (own_w39 hw) (own_w40 hw) (own_w41 hw) (argsL := [(.long x), (.long y), (.long ((200000 : Int64) - (((0 : Int64) + s1) + s3)))]) (rest := []) (own_pm hw ((own_small.sub (show own_small 200000 (200000 : Int64) by unfold own_small; decide) (own_small.add (own_small.add (show own_small 0 (0 : Int64) by unfold own_small; decide) hs1 (by decide) (by decide)) hs3 (by decide) (by decide)) (by decide) (by decide)).mono (by decide))) own_pd4 rfl rfl rfl (by decide) (W := 0) (Nat.le_of_eq rfl) (by decide) (by decide) (by decide) (by decide) ?_
            intro v245 h243 q244
            obtain ⟨rfl, rfl⟩ := q244
            refine own_ifeq K own_d8_199 (fun gW => ?_) (fun gW => ?_)
            · refine own_iconst K own_d8_206 (v := (0 : Int32)) rfl ?_
              refine own_istore K own_d8_207 (Ls' := #[.val (.long x), .second, .val (.long y), .second, .val (.int ia), .val (.int ib), .val (.int ic), .val (.int fl), .val (.long s1), .second, .val (.long s2), .second, .val (.long s3), .second, .val (.long (2 : Int64)), .second, .val (.long (((0 : Int64) + s1) + s3)), .second, .val (.ref a3), .val (.ref a3), .val (.long (3000 : Int64)), .second, .val (.long (200000 : Int64)), .second, .val (.int (0 : Int32))]) rfl ?_
              refine own_aload K own_d8_209 rfl rfl ?_
              refine own_lloadN K own_d8_211 rfl ?_
              refine own_lloadN K own_d8_212 rfl ?_
              have H246 := H237.frontO 1 rfl
              replace H246 : own_H Z h234 (own_SP b7 (.int (2 : Int32)) (.long (((0 : Int64) + s1) + s3)) :: own_BU a3 (.ref b7) (.int (3000 : Int32)) (.long (200000 : Int64)) :: []) ([]) := H246
              have H247 := H246.frontO 1 rfl
              replace H247 : own_H Z h234 (own_BU a3 (.ref b7) (.int (3000 : Int32)) (.long (200000 : Int64)) :: own_SP b7 (.int (2 : Int32)) (.long (((0 : Int64) + s1) + s3)) :: []) ([]) := H247
              refine own_virtual K own_d8_213 (own_w47 hw) (own_w48 hw) (own_w50 hw) (own_w49 hw) (own_w3 hw) (own_w51 hw) (H247.atO (i := 0) rfl) (a := a3) (argsL := [(.long x), (.long y)]) (rest := []) (own_aff hw H247 ((own_small.sub (show own_small 200000 (200000 : Int64) by unfold own_small; decide) (own_small.add (own_small.add (show own_small 0 (0 : Int64) by unfold own_small; decide) hs1 (by decide) (by decide)) hs3 (by decide) (by decide)) (by decide) (by decide)).mono (by decide))) own_pd3 rfl rfl rfl (by decide) (W := 0) (Nat.le_of_eq rfl) (by decide) (by decide) (by decide) (by decide) ?_
              intro v250 h248 q249
              obtain ⟨rfl, rfl⟩ := q249
              have lim : (((3000 : Int32) : Int32) - (2 : Int32)).toInt = 2998 := by decide
              have lim2 : (2998 : Int64).toInt = 2998 := by decide
              rw [own_cl_gt, lim2] at gP
              have fin : (if x.toInt ≤ ((3000 : Int32) - (2 : Int32)).toInt ∧ x.toInt * y.toInt ≤ ((200000 : Int64) - (((0 : Int64) + s1) + s3)).toInt then (1 : Int32) else 0) = 0 := if_neg fun z => absurd (show (if x.toInt * y.toInt ≤ ((200000 : Int64) - (((0 : Int64) + s1) + s3)).toInt then (1 : Int32) else 0) = 0 from gW) (by rw [if_pos z.2]; decide)
              refine own_topI (x' := (0 : Int32)) (fin) ?_
              refine own_iload K own_d8_216 rfl ?_
              refine own_icmpne K own_d8_218 (fun q => absurd q (by decide)) (fun _ => ?_)
              refine own_iconst K own_d8_221 (v := (1 : Int32)) rfl ?_
              refine own_goto K own_d8_222 ?_
              exact own_retZ K (by first | exact Or.inl rfl | exact Or.inr rfl | decide) own_d8_226 (by decide) (by decide) (rfl)
            · refine own_iconst K own_d8_202 (v := (1 : Int32)) rfl ?_
              refine own_goto K own_d8_203 ?_
              refine own_istore K own_d8_207 (Ls' := #[.val (.long x), .second, .val (.long y), .second, .val (.int ia), .val (.int ib), .val (.int ic), .val (.int fl), .val (.long s1), .second, .val (.long s2), .second, .val (.long s3), .second, .val (.long (2 : Int64)), .second, .val (.long (((0 : Int64) + s1) + s3)), .second, .val (.ref a3), .val (.ref a3), .val (.long (3000 : Int64)), .second, .val (.long (200000 : Int64)), .second, .val (.int (1 : Int32))]) rfl ?_
              refine own_aload K own_d8_209 rfl rfl ?_
              refine own_lloadN K own_d8_211 rfl ?_
              refine own_lloadN K own_d8_212 rfl ?_
              have H251 := H237.frontO 1 rfl
              replace H251 : own_H Z h234 (own_SP b7 (.int (2 : Int32)) (.long (((0 : Int64) + s1) + s3)) :: own_BU a3 (.ref b7) (.int (3000 : Int32)) (.long (200000 : Int64)) :: []) ([]) := H251
              have H252 := H251.frontO 1 rfl
              replace H252 : own_H Z h234 (own_BU a3 (.ref b7) (.int (3000 : Int32)) (.long (200000 : Int64)) :: own_SP b7 (.int (2 : Int32)) (.long (((0 : Int64) + s1) + s3)) :: []) ([]) := H252
              refine own_virtual K own_d8_213 (own_w47 hw) (own_w48 hw) (own_w50 hw) (own_w49 hw) (own_w3 hw) (own_w51 hw) (H252.atO (i := 0) rfl) (a := a3) (argsL := [(.long x), (.long y)]) (rest := []) (own_aff hw H252 ((own_small.sub (show own_small 200000 (200000 : Int64) by unfold own_small; decide) (own_small.add (own_small.add (show own_small 0 (0 : Int64) by unfold own_small; decide) hs1 (by decide) (by decide)) hs3 (by decide) (by decide)) (by decide) (by decide)).mono (by decide))) own_pd3 rfl rfl rfl (by decide) (W := 0) (Nat.le_of_eq rfl) (by decide) (by decide) (by decide) (by decide) ?_
              intro v255 h253 q254
              obtain ⟨rfl, rfl⟩ := q254
              have lim : (((3000 : Int32) : Int32) - (2 : Int32)).toInt = 2998 := by decide
              have lim2 : (2998 : Int64).toInt = 2998 := by decide
              rw [own_cl_gt, lim2] at gP
              have fin : (if x.toInt ≤ ((3000 : Int32) - (2 : Int32)).toInt ∧ x.toInt * y.toInt ≤ ((200000 : Int64) - (((0 : Int64) + s1) + s3)).toInt then (1 : Int32) else 0) = 1 := if_pos ⟨by rw [lim]; omega, Decidable.byContradiction fun z => gW (if_neg z)⟩
              refine own_topI (x' := (1 : Int32)) (fin) ?_
              refine own_iload K own_d8_216 rfl ?_
              refine own_icmpne K own_d8_218 (fun q => absurd q (by decide)) (fun _ => ?_)
              refine own_iconst K own_d8_221 (v := (1 : Int32)) rfl ?_
              refine own_goto K own_d8_222 ?_
              exact own_retZ K (by first | exact Or.inl rfl | exact Or.inr rfl | decide) own_d8_226 (by decide) (by decide) (rfl)
      · refine own_aload K own_d8_114 rfl rfl ?_
        have H256 := H210.frontO 1 rfl
        replace H256 : own_H Z h207 (own_SP b7 (.int (1 : Int32)) (.long ((0 : Int64) + s1)) :: own_BU a3 (.ref b7) (.int (3000 : Int32)) (.long (200000 : Int64)) :: []) ([]) := H256
        have H257 := H256.frontO 1 rfl
        replace H257 : own_H Z h207 (own_BU a3 (.ref b7) (.int (3000 : Int32)) (.long (200000 : Int64)) :: own_SP b7 (.int (1 : Int32)) (.long ((0 : Int64) + s1)) :: []) ([]) := H257
        refine own_virtual K own_d8_116 (own_w52 hw) (own_w53 hw) (own_w55 hw) (own_w54 hw) (own_w3 hw) (own_w56 hw) (H257.atO (i := 0) rfl) (a := a3) (argsL := []) (rest := []) (own_half hw H257 (pl' := (1500 : Int32)) (by decide)) own_pd6 rfl rfl rfl (by decide) (W := 0) (Nat.le_of_eq rfl) (by decide) (by decide) (by decide) (by decide) ?_
        intro v260 h258 q259
        obtain ⟨c261, rfl, H262⟩ := q259
        replace H262 : own_H Z h258 (own_BU c261 (.ref b7) (.int (1500 : Int32)) (.long (((0 : Int64) + s1) + (((200000 : Int64) - ((0 : Int64) + s1)) / (2 : Int64)))) :: own_BU a3 (.ref b7) (.int (3000 : Int32)) (.long (200000 : Int64)) :: own_SP b7 (.int (1 : Int32)) (.long ((0 : Int64) + s1)) :: []) ([]) := H262
        refine own_astore K own_d8_119 rfl (Ls' := #[.val (.long x), .second, .val (.long y), .second, .val (.int ia), .val (.int ib), .val (.int ic), .val (.int fl), .val (.long s1), .second, .val (.long s2), .second, .val (.long s3), .second, .val (.long (1 : Int64)), .second, .val (.long ((0 : Int64) + s1)), .second, .val (.ref a3), .val (.ref c261), .val (.long (3000 : Int64)), .second, .val (.long (200000 : Int64)), .second, .unset]) rfl ?_
        refine own_lload K own_d8_121 rfl ?_
        refine own_ldc2J K own_d8_123 (v := (3000 : Int64)) (own_w36 hw) ?_
        refine own_lload K own_d8_126 rfl ?_
        refine own_lsub K own_d8_128 ?_
        refine own_topL (x' := (2999 : Int64)) (by decide) ?_
        refine own_ldc2J K own_d8_129 (v := (2 : Int64)) (own_w59 hw) ?_
        refine own_ldiv K own_d8_132 (by decide) ?_
        refine own_topL (x' := (1499 : Int64)) (by decide) ?_
        refine own_ladd K own_d8_133 ?_
        refine own_topL (x' := (1500 : Int64)) (by decide) ?_
        refine own_lstore K own_d8_134 (Ls' := #[.val (.long x), .second, .val (.long y), .second, .val (.int ia), .val (.int ib), .val (.int ic), .val (.int fl), .val (.long s1), .second, .val (.long s2), .second, .val (.long s3), .second, .val (.long (1 : Int64)), .second, .val (.long ((0 : Int64) + s1)), .second, .val (.ref a3), .val (.ref c261), .val (.long (1500 : Int64)), .second, .val (.long (200000 : Int64)), .second, .unset]) rfl ?_
        refine own_lload K own_d8_136 rfl ?_
        refine own_ldc2J K own_d8_138 (v := (200000 : Int64)) (own_w37 hw) ?_
        refine own_lload K own_d8_141 rfl ?_
        refine own_lsub K own_d8_143 ?_
        refine own_ldc2J K own_d8_144 (v := (2 : Int64)) (own_w59 hw) ?_
        refine own_ldiv K own_d8_147 (by decide) ?_
        refine own_ladd K own_d8_148 ?_
        refine own_lstore K own_d8_149 (Ls' := #[.val (.long x), .second, .val (.long y), .second, .val (.int ia), .val (.int ib), .val (.int ic), .val (.int fl), .val (.long s1), .second, .val (.long s2), .second, .val (.long s3), .second, .val (.long (1 : Int64)), .second, .val (.long ((0 : Int64) + s1)), .second, .val (.ref a3), .val (.ref c261), .val (.long (1500 : Int64)), .second, .val (.long (((0 : Int64) + s1) + (((200000 : Int64) - ((0 : Int64) + s1)) / (2 : Int64)))), .second, .unset]) rfl ?_
        refine own_iload K own_d8_151 rfl ?_
        refine own_bipush K own_d8_153 (v := (8 : Int32)) rfl ?_
        refine own_iand K own_d8_155 ?_
        refine own_ifeq K own_d8_156 (fun f263 => ?_) (fun f263 => ?_)
        · refine own_lloadN K own_d8_179 rfl ?_
          refine own_lload K own_d8_180 rfl ?_
          refine own_lload K own_d8_182 rfl ?_
          refine own_lsub K own_d8_184 ?_
          refine own_topL (x' := (1499 : Int64)) (by decide) ?_
          refine own_lcmp K own_d8_185 ?_
          refine own_ifgt K own_d8_186 (fun gP => ?_) (fun gP => ?_)
          · refine own_iconst K own_d8_206 (v := (0 : Int32)) rfl ?_
            refine own_istore K own_d8_207 (Ls' := #[.val (.long x), .second, .val (.long y), .second, .val (.int ia), .val (.int ib), .val (.int ic), .val (.int fl), .val (.long s1), .second, .val (.long s2), .second, .val (.long s3), .second, .val (.long (1 : Int64)), .second, .val (.long ((0 : Int64) + s1)), .second, .val (.ref a3), .val (.ref c261), .val (.long (1500 : Int64)), .second, .val (.long (((0 : Int64) + s1) + (((200000 : Int64) - ((0 : Int64) + s1)) / (2 : Int64)))), .second, .val (.int (0 : Int32))]) rfl ?_
            refine own_aload K own_d8_209 rfl rfl ?_
            refine own_lloadN K own_d8_211 rfl ?_
            refine own_lloadN K own_d8_212 rfl ?_
            have H264 := H262.frontO 2 rfl
            replace H264 : own_H Z h258 (own_SP b7 (.int (1 : Int32)) (.long ((0 : Int64) + s1)) :: own_BU c261 (.ref b7) (.int (1500 : Int32)) (.long (((0 : Int64) + s1) + (((200000 : Int64) - ((0 : Int64) + s1)) / (2 : Int64)))) :: own_BU a3 (.ref b7) (.int (3000 : Int32)) (.long (200000 : Int64)) :: []) ([]) := H264
            have H265 := H264.frontO 1 rfl
            replace H265 : own_H Z h258 (own_BU c261 (.ref b7) (.int (1500 : Int32)) (.long (((0 : Int64) + s1) + (((200000 : Int64) - ((0 : Int64) + s1)) / (2 : Int64)))) :: own_SP b7 (.int (1 : Int32)) (.long ((0 : Int64) + s1)) :: own_BU a3 (.ref b7) (.int (3000 : Int32)) (.long (200000 : Int64)) :: []) ([]) := H265
            refine own_virtual K own_d8_213 (own_w47 hw) (own_w48 hw) (own_w50 hw) (own_w49 hw) (own_w3 hw) (own_w51 hw) (H265.atO (i := 0) rfl) (a := c261) (argsL := [(.long x), (.long y)]) (rest := []) (own_aff hw H265 ((own_small.sub (own_small.add (own_small.add (show own_small 0 (0 : Int64) by unfold own_small; decide) hs1 (by decide) (by decide)) (own_small.div2 (own_small.sub (show own_small 200000 (200000 : Int64) by unfold own_small; decide) (own_small.add (show own_small 0 (0 : Int64) by unfold own_small; decide) hs1 (by decide) (by decide)) (by decide) (by decide)) (by decide)) (by decide) (by decide)) (own_small.add (show own_small 0 (0 : Int64) by unfold own_small; decide) hs1 (by decide) (by decide)) (by decide) (by decide)).mono (by decide))) own_pd3 rfl rfl rfl (by decide) (W := 0) (Nat.le_of_eq rfl) (by decide) (by decide) (by decide) (by decide) ?_
            intro v268 h266 q267
            obtain ⟨rfl, rfl⟩ := q267
            have lim : (((1500 : Int32) : Int32) - (1 : Int32)).toInt = 1499 := by decide
            have lim2 : (1499 : Int64).toInt = 1499 := by decide
            rw [own_cl_gt, lim2] at gP
            have fin : (if x.toInt ≤ ((1500 : Int32) - (1 : Int32)).toInt ∧ x.toInt * y.toInt ≤ ((((0 : Int64) + s1) + (((200000 : Int64) - ((0 : Int64) + s1)) / (2 : Int64))) - ((0 : Int64) + s1)).toInt then (1 : Int32) else 0) = 0 := if_neg fun z => by rw [lim] at z; omega
            refine own_topI (x' := (0 : Int32)) (fin) ?_
            refine own_iload K own_d8_216 rfl ?_
            refine own_icmpne K own_d8_218 (fun q => absurd q (by decide)) (fun _ => ?_)
            refine own_iconst K own_d8_221 (v := (1 : Int32)) rfl ?_
            refine own_goto K own_d8_222 ?_
            exact own_retZ K (by first | exact Or.inl rfl | exact Or.inr rfl | decide) own_d8_226 (by decide) (by decide) (rfl)
          · refine own_lloadN K own_d8_189 rfl ?_
            refine own_lloadN K own_d8_190 rfl ?_
            refine own_lload K own_d8_191 rfl ?_
            refine own_lload K own_d8_193 rfl ?_
            refine own_lsub K own_d8_195 ?_
            refine own_static K own_d8_196 (own_w38 hw) (own_w39 hw) (own_w40 hw) (own_w41 hw) (argsL := [(.long x), (.long y), (.long ((((0 : Int64) + s1) + (((200000 : Int64) - ((0 : Int64) + s1)) / (2 : Int64))) - ((0 : Int64) + s1)))]) (rest := []) (own_pm hw ((own_small.sub (own_small.add (own_small.add (show own_small 0 (0 : Int64) by unfold own_small; decide) hs1 (by decide) (by decide)) (own_small.div2 (own_small.sub (show own_small 200000 (200000 : Int64) by unfold own_small; decide) (own_small.add (show own_small 0 (0 : Int64) by unfold own_small; decide) hs1 (by decide) (by decide)) (by decide) (by decide)) (by decide)) (by decide) (by decide)) (own_small.add (show own_small 0 (0 : Int64) by unfold own_small; decide) hs1 (by decide) (by decide)) (by decide) (by decide)).mono (by decide))) own_pd4 rfl rfl rfl (by decide) (W := 0) (Nat.le_of_eq rfl) (by decide) (by decide) (by decide) (by decide) ?_
            intro v271 h269 q270
            obtain ⟨rfl, rfl⟩ := q270
            refine own_ifeq K own_d8_199 (fun gW => ?_) (fun gW => ?_)
            · refine own_iconst K own_d8_206 (v := (0 : Int32)) rfl ?_
              refine own_istore K own_d8_207 (Ls' := #[.val (.long x), .second, .val (.long y), .second, .val (.int ia), .val (.int ib), .val (.int ic), .val (.int fl), .val (.long s1), .second, .val (.long s2), .second, .val (.long s3), .second, .val (.long (1 : Int64)), .second, .val (.long ((0 : Int64) + s1)), .second, .val (.ref a3), .val (.ref c261), .val (.long (1500 : Int64)), .second, .val (.long (((0 : Int64) + s1) + (((200000 : Int64) - ((0 : Int64) + s1)) / (2 : Int64)))), .second, .val (.int (0 : Int32))]) rfl ?_
              refine own_aload K own_d8_209 rfl rfl ?_
              refine own_lloadN K own_d8_211 rfl ?_
              refine own_lloadN K own_d8_212 rfl ?_
              have H272 := H262.frontO 2 rfl
              replace H272 : own_H Z h258 (own_SP b7 (.int (1 : Int32)) (.long ((0 : Int64) + s1)) :: own_BU c261 (.ref b7) (.int (1500 : Int32)) (.long (((0 : Int64) + s1) + (((200000 : Int64) - ((0 : Int64) + s1)) / (2 : Int64)))) :: own_BU a3 (.ref b7) (.int (3000 : Int32)) (.long (200000 : Int64)) :: []) ([]) := H272
              have H273 := H272.frontO 1 rfl
              replace H273 : own_H Z h258 (own_BU c261 (.ref b7) (.int (1500 : Int32)) (.long (((0 : Int64) + s1) + (((200000 : Int64) - ((0 : Int64) + s1)) / (2 : Int64)))) :: own_SP b7 (.int (1 : Int32)) (.long ((0 : Int64) + s1)) :: own_BU a3 (.ref b7) (.int (3000 : Int32)) (.long (200000 : Int64)) :: []) ([]) := H273
              refine own_virtual K own_d8_213 (own_w47 hw) (own_w48 hw) (own_w50 hw) (own_w49 hw) (own_w3 hw) (own_w51 hw) (H273.atO (i := 0) rfl) (a := c261) (argsL := [(.long x), (.long y)]) (rest := []) (own_aff hw H273 ((own_small.sub (own_small.add (own_small.add (show own_small 0 (0 : Int64) by unfold own_small; decide) hs1 (by decide) (by decide)) (own_small.div2 (own_small.sub (show own_small 200000 (200000 : Int64) by unfold own_small; decide) (own_small.add (show own_small 0 (0 : Int64) by unfold own_small; decide) hs1 (by decide) (by decide)) (by decide) (by decide)) (by decide)) (by decide) (by decide)) (own_small.add (show own_small 0 (0 : Int64) by unfold own_small; decide) hs1 (by decide) (by decide)) (by decide) (by decide)).mono (by decide))) own_pd3 rfl rfl rfl (by decide) (W := 0) (Nat.le_of_eq rfl) (by decide) (by decide) (by decide) (by decide) ?_
              intro v276 h274 q275
              obtain ⟨rfl, rfl⟩ := q275
              have lim : (((1500 : Int32) : Int32) - (1 : Int32)).toInt = 1499 := by decide
              have lim2 : (1499 : Int64).toInt = 1499 := by decide
              rw [own_cl_gt, lim2] at gP
              have fin : (if x.toInt ≤ ((1500 : Int32) - (1 : Int32)).toInt ∧ x.toInt * y.toInt ≤ ((((0 : Int64) + s1) + (((200000 : Int64) - ((0 : Int64) + s1)) / (2 : Int64))) - ((0 : Int64) + s1)).toInt then (1 : Int32) else 0) = 0 := if_neg fun z => absurd (show (if x.toInt * y.toInt ≤ ((((0 : Int64) + s1) + (((200000 : Int64) - ((0 : Int64) + s1)) / (2 : Int64))) - ((0 : Int64) + s1)).toInt then (1 : Int32) else 0) = 0 from gW) (by rw [if_pos z.2]; decide)
              refine own_topI (x' := (0 : Int32)) (fin) ?_
              refine own_iload K own_d8_216 rfl ?_
              refine own_icmpne K own_d8_218 (fun q => absurd q (by decide)) (fun _ => ?_)
              refine own_iconst K own_d8_221 (v := (1 : Int32)) rfl ?_
              refine own_goto K own_d8_222 ?_
              exact own_retZ K (by first | exact Or.inl rfl | exact Or.inr rfl | decide) own_d8_226 (by decide) (by decide) (rfl)
            · refine own_iconst K own_d8_202 (v := (1 : Int32)) rfl ?_
              refine own_goto K own_d8_203 ?_
              refine own_istore K own_d8_207 (Ls' := #[.val (.long x), .second, .val (.long y), .second, .val (.int ia), .val (.int ib), .val (.int ic), .val (.int fl), .val (.long s1), .second, .val (.long s2), .second, .val (.long s3), .second, .val (.long (1 : Int64)), .second, .val (.long ((0 : Int64) + s1)), .second, .val (.ref a3), .val (.ref c261), .val (.long (1500 : Int64)), .second, .val (.long (((0 : Int64) + s1) + (((200000 : Int64) - ((0 : Int64) + s1)) / (2 : Int64)))), .second, .val (.int (1 : Int32))]) rfl ?_
              refine own_aload K own_d8_209 rfl rfl ?_
              refine own_lloadN K own_d8_211 rfl ?_
              refine own_lloadN K own_d8_212 rfl ?_
              have H277 := H262.frontO 2 rfl
              replace H277 : own_H Z h258 (own_SP b7 (.int (1 : Int32)) (.long ((0 : Int64) + s1)) :: own_BU c261 (.ref b7) (.int (1500 : Int32)) (.long (((0 : Int64) + s1) + (((200000 : Int64) - ((0 : Int64) + s1)) / (2 : Int64)))) :: own_BU a3 (.ref b7) (.int (3000 : Int32)) (.long (200000 : Int64)) :: []) ([]) := H277
              have H278 := H277.frontO 1 rfl
              replace H278 : own_H Z h258 (own_BU c261 (.ref b7) (.int (1500 : Int32)) (.long (((0 : Int64) + s1) + (((200000 : Int64) - ((0 : Int64) + s1)) / (2 : Int64)))) :: own_SP b7 (.int (1 : Int32)) (.long ((0 : Int64) + s1)) :: own_BU a3 (.ref b7) (.int (3000 : Int32)) (.long (200000 : Int64)) :: []) ([]) := H278
              refine own_virtual K own_d8_213 (own_w47 hw) (own_w48 hw) (own_w50 hw) (own_w49 hw) (own_w3 hw) (own_w51 hw) (H278.atO (i := 0) rfl) (a := c261) (argsL := [(.long x), (.long y)]) (rest := []) (own_aff hw H278 ((own_small.sub (own_small.add (own_small.add (show own_small 0 (0 : Int64) by unfold own_small; decide) hs1 (by decide) (by decide)) (own_small.div2 (own_small.sub (show own_small 200000 (200000 : Int64) by unfold own_small; decide) (own_small.add (show own_small 0 (0 : Int64) by unfold own_small; decide) hs1 (by decide) (by decide)) (by decide) (by decide)) (by decide)) (by decide) (by decide)) (own_small.add (show own_small 0 (0 : Int64) by unfold own_small; decide) hs1 (by decide) (by decide)) (by decide) (by decide)).mono (by decide))) own_pd3 rfl rfl rfl (by decide) (W := 0) (Nat.le_of_eq rfl) (by decide) (by decide) (by decide) (by decide) ?_
              intro v281 h279 q280
              obtain ⟨rfl, rfl⟩ := q280
              have lim : (((1500 : Int32) : Int32) - (1 : Int32)).toInt = 1499 := by decide
              have lim2 : (1499 : Int64).toInt = 1499 := by decide
              rw [own_cl_gt, lim2] at gP
              have fin : (if x.toInt ≤ ((1500 : Int32) - (1 : Int32)).toInt ∧ x.toInt * y.toInt ≤ ((((0 : Int64) + s1) + (((200000 : Int64) - ((0 : Int64) + s1)) / (2 : Int64))) - ((0 : Int64) + s1)).toInt then (1 : Int32) else 0) = 1 := if_pos ⟨by rw [lim]; omega, Decidable.byContradiction fun z => gW (if_neg z)⟩
              refine own_topI (x' := (1 : Int32)) (fin) ?_
              refine own_iload K own_d8_216 rfl ?_
              refine own_icmpne K own_d8_218 (fun q => absurd q (by decide)) (fun _ => ?_)
              refine own_iconst K own_d8_221 (v := (1 : Int32)) rfl ?_
              refine own_goto K own_d8_222 ?_
              exact own_retZ K (by first | exact Or.inl rfl | exact Or.inr rfl | decide) own_d8_226 (by decide) (by decide) (rfl)
        · refine own_aload K own_d8_159 rfl rfl ?_
          refine own_lload K own_d8_161 rfl ?_
          have H282 := H262.frontO 2 rfl
          replace H282 : own_H Z h258 (own_SP b7 (.int (1 : Int32)) (.long ((0 : Int64) + s1)) :: own_BU c261 (.ref b7) (.int (1500 : Int32)) (.long (((0 : Int64) + s1) + (((200000 : Int64) - ((0 : Int64) + s1)) / (2 : Int64)))) :: own_BU a3 (.ref b7) (.int (3000 : Int32)) (.long (200000 : Int64)) :: []) ([]) := H282
          have H283 := H282.frontO 2 rfl
          replace H283 : own_H Z h258 (own_BU a3 (.ref b7) (.int (3000 : Int32)) (.long (200000 : Int64)) :: own_SP b7 (.int (1 : Int32)) (.long ((0 : Int64) + s1)) :: own_BU c261 (.ref b7) (.int (1500 : Int32)) (.long (((0 : Int64) + s1) + (((200000 : Int64) - ((0 : Int64) + s1)) / (2 : Int64)))) :: []) ([]) := H283
          refine own_virtual K own_d8_163 (own_w27 hw) (own_w28 hw) (own_w30 hw) (own_w29 hw) (own_w3 hw) (own_w31 hw) (H283.atO (i := 0) rfl) (a := a3) (argsL := [(.long s3)]) (rest := []) (own_spend hw H283 (sp' := (2 : Int32)) (by decide)) own_pd5 rfl rfl rfl (by decide) (W := 0) (Nat.le_of_eq rfl) (by decide) (by decide) (by decide) (by decide) ?_
          intro v286 h284 q285
          obtain ⟨rfl, H287⟩ := q285
          replace H287 : own_H Z h284 (own_BU a3 (.ref b7) (.int (3000 : Int32)) (.long (200000 : Int64)) :: own_SP b7 (.int (2 : Int32)) (.long (((0 : Int64) + s1) + s3)) :: own_BU c261 (.ref b7) (.int (1500 : Int32)) (.long (((0 : Int64) + s1) + (((200000 : Int64) - ((0 : Int64) + s1)) / (2 : Int64)))) :: []) ([]) := H287
          refine own_lload K own_d8_166 rfl ?_
          refine own_lconst K own_d8_168 (v := (1 : Int64)) rfl ?_
          refine own_ladd K own_d8_169 ?_
          refine own_topL (x' := (2 : Int64)) (by decide) ?_
          refine own_lstore K own_d8_170 (Ls' := #[.val (.long x), .second, .val (.long y), .second, .val (.int ia), .val (.int ib), .val (.int ic), .val (.int fl), .val (.long s1), .second, .val (.long s2), .second, .val (.long s3), .second, .val (.long (2 : Int64)), .second, .val (.long ((0 : Int64) + s1)), .second, .val (.ref a3), .val (.ref c261), .val (.long (1500 : Int64)), .second, .val (.long (((0 : Int64) + s1) + (((200000 : Int64) - ((0 : Int64) + s1)) / (2 : Int64)))), .second, .unset]) rfl ?_
          refine own_lload K own_d8_172 rfl ?_
          refine own_lload K own_d8_174 rfl ?_
          refine own_ladd K own_d8_176 ?_
          refine own_lstore K own_d8_177 (Ls' := #[.val (.long x), .second, .val (.long y), .second, .val (.int ia), .val (.int ib), .val (.int ic), .val (.int fl), .val (.long s1), .second, .val (.long s2), .second, .val (.long s3), .second, .val (.long (2 : Int64)), .second, .val (.long (((0 : Int64) + s1) + s3)), .second, .val (.ref a3), .val (.ref c261), .val (.long (1500 : Int64)), .second, .val (.long (((0 : Int64) + s1) + (((200000 : Int64) - ((0 : Int64) + s1)) / (2 : Int64)))), .second, .unset]) rfl ?_
          refine own_lloadN K own_d8_179 rfl ?_
          refine own_lload K own_d8_180 rfl ?_
          refine own_lload K own_d8_182 rfl ?_
          refine own_lsub K own_d8_184 ?_
          refine own_topL (x' := (1498 : Int64)) (by decide) ?_
          refine own_lcmp K own_d8_185 ?_
          refine own_ifgt K own_d8_186 (fun gP => ?_) (fun gP => ?_)
          · refine own_iconst K own_d8_206 (v := (0 : Int32)) rfl ?_
            refine own_istore K own_d8_207 (Ls' := #[.val (.long x), .second, .val (.long y), .second, .val (.int ia), .val (.int ib), .val (.int ic), .val (.int fl), .val (.long s1), .second, .val (.long s2), .second, .val (.long s3), .second, .val (.long (2 : Int64)), .second, .val (.long (((0 : Int64) + s1) + s3)), .second, .val (.ref a3), .val (.ref c261), .val (.long (1500 : Int64)), .second, .val (.long (((0 : Int64) + s1) + (((200000 : Int64) - ((0 : Int64) + s1)) / (2 : Int64)))), .second, .val (.int (0 : Int32))]) rfl ?_
            refine own_aload K own_d8_209 rfl rfl ?_
            refine own_lloadN K own_d8_211 rfl ?_
            refine own_lloadN K own_d8_212 rfl ?_
            have H288 := H287.frontO 1 rfl
            replace H288 : own_H Z h284 (own_SP b7 (.int (2 : Int32)) (.long (((0 : Int64) + s1) + s3)) :: own_BU a3 (.ref b7) (.int (3000 : Int32)) (.long (200000 : Int64)) :: own_BU c261 (.ref b7) (.int (1500 : Int32)) (.long (((0 : Int64) + s1) + (((200000 : Int64) - ((0 : Int64) + s1)) / (2 : Int64)))) :: []) ([]) := H288
            have H289 := H288.frontO 2 rfl
            replace H289 : own_H Z h284 (own_BU c261 (.ref b7) (.int (1500 : Int32)) (.long (((0 : Int64) + s1) + (((200000 : Int64) - ((0 : Int64) + s1)) / (2 : Int64)))) :: own_SP b7 (.int (2 : Int32)) (.long (((0 : Int64) + s1) + s3)) :: own_BU a3 (.ref b7) (.int (3000 : Int32)) (.long (200000 : Int64)) :: []) ([]) := H289
            refine own_virtual K own_d8_213 (own_w47 hw) (own_w48 hw) (own_w50 hw) (own_w49 hw) (own_w3 hw) (own_w51 hw) (H289.atO (i := 0) rfl) (a := c261) (argsL := [(.long x), (.long y)]) (rest := []) (own_aff hw H289 ((own_small.sub (own_small.add (own_small.add (show own_small 0 (0 : Int64) by unfold own_small; decide) hs1 (by decide) (by decide)) (own_small.div2 (own_small.sub (show own_small 200000 (200000 : Int64) by unfold own_small; decide) (own_small.add (show own_small 0 (0 : Int64) by unfold own_small; decide) hs1 (by decide) (by decide)) (by decide) (by decide)) (by decide)) (by decide) (by decide)) (own_small.add (own_small.add (show own_small 0 (0 : Int64) by unfold own_small; decide) hs1 (by decide) (by decide)) hs3 (by decide) (by decide)) (by decide) (by decide)).mono (by decide))) own_pd3 rfl rfl rfl (by decide) (W := 0) (Nat.le_of_eq rfl) (by decide) (by decide) (by decide) (by decide) ?_
            intro v292 h290 q291
            obtain ⟨rfl, rfl⟩ := q291
            have lim : (((1500 : Int32) : Int32) - (2 : Int32)).toInt = 1498 := by decide
            have lim2 : (1498 : Int64).toInt = 1498 := by decide
            rw [own_cl_gt, lim2] at gP
            have fin : (if x.toInt ≤ ((1500 : Int32) - (2 : Int32)).toInt ∧ x.toInt * y.toInt ≤ ((((0 : Int64) + s1) + (((200000 : Int64) - ((0 : Int64) + s1)) / (2 : Int64))) - (((0 : Int64) + s1) + s3)).toInt then (1 : Int32) else 0) = 0 := if_neg fun z => by rw [lim] at z; omega
            refine own_topI (x' := (0 : Int32)) (fin) ?_
            refine own_iload K own_d8_216 rfl ?_
            refine own_icmpne K own_d8_218 (fun q => absurd q (by decide)) (fun _ => ?_)
            refine own_iconst K own_d8_221 (v := (1 : Int32)) rfl ?_
            refine own_goto K own_d8_222 ?_
            exact own_retZ K (by first | exact Or.inl rfl | exact Or.inr rfl | decide) own_d8_226 (by decide) (by decide) (rfl)
          · refine own_lloadN K own_d8_189 rfl ?_
            refine own_lloadN K own_d8_190 rfl ?_
            refine own_lload K own_d8_191 rfl ?_
            refine own_lload K own_d8_193 rfl ?_
            refine own_lsub K own_d8_195 ?_
            refine own_static K own_d8_196 (own_w38 hw) (own_w39 hw) (own_w40 hw) (own_w41 hw) (argsL := [(.long x), (.long y), (.long ((((0 : Int64) + s1) + (((200000 : Int64) - ((0 : Int64) + s1)) / (2 : Int64))) - (((0 : Int64) + s1) + s3)))]) (rest := []) (own_pm hw ((own_small.sub (own_small.add (own_small.add (show own_small 0 (0 : Int64) by unfold own_small; decide) hs1 (by decide) (by decide)) (own_small.div2 (own_small.sub (show own_small 200000 (200000 : Int64) by unfold own_small; decide) (own_small.add (show own_small 0 (0 : Int64) by unfold own_small; decide) hs1 (by decide) (by decide)) (by decide) (by decide)) (by decide)) (by decide) (by decide)) (own_small.add (own_small.add (show own_small 0 (0 : Int64) by unfold own_small; decide) hs1 (by decide) (by decide)) hs3 (by decide) (by decide)) (by decide) (by decide)).mono (by decide))) own_pd4 rfl rfl rfl (by decide) (W := 0) (Nat.le_of_eq rfl) (by decide) (by decide) (by decide) (by decide) ?_
            intro v295 h293 q294
            obtain ⟨rfl, rfl⟩ := q294
            refine own_ifeq K own_d8_199 (fun gW => ?_) (fun gW => ?_)
            · refine own_iconst K own_d8_206 (v := (0 : Int32)) rfl ?_
              refine own_istore K own_d8_207 (Ls' := #[.val (.long x), .second, .val (.long y), .second, .val (.int ia), .val (.int ib), .val (.int ic), .val (.int fl), .val (.long s1), .second, .val (.long s2), .second, .val (.long s3), .second, .val (.long (2 : Int64)), .second, .val (.long (((0 : Int64) + s1) + s3)), .second, .val (.ref a3), .val (.ref c261), .val (.long (1500 : Int64)), .second, .val (.long (((0 : Int64) + s1) + (((200000 : Int64) - ((0 : Int64) + s1)) / (2 : Int64)))), .second, .val (.int (0 : Int32))]) rfl ?_
              refine own_aload K own_d8_209 rfl rfl ?_
              refine own_lloadN K own_d8_211 rfl ?_
              refine own_lloadN K own_d8_212 rfl ?_
              have H296 := H287.frontO 1 rfl
              replace H296 : own_H Z h284 (own_SP b7 (.int (2 : Int32)) (.long (((0 : Int64) + s1) + s3)) :: own_BU a3 (.ref b7) (.int (3000 : Int32)) (.long (200000 : Int64)) :: own_BU c261 (.ref b7) (.int (1500 : Int32)) (.long (((0 : Int64) + s1) + (((200000 : Int64) - ((0 : Int64) + s1)) / (2 : Int64)))) :: []) ([]) := H296
              have H297 := H296.frontO 2 rfl
              replace H297 : own_H Z h284 (own_BU c261 (.ref b7) (.int (1500 : Int32)) (.long (((0 : Int64) + s1) + (((200000 : Int64) - ((0 : Int64) + s1)) / (2 : Int64)))) :: own_SP b7 (.int (2 : Int32)) (.long (((0 : Int64) + s1) + s3)) :: own_BU a3 (.ref b7) (.int (3000 : Int32)) (.long (200000 : Int64)) :: []) ([]) := H297
              refine own_virtual K own_d8_213 (own_w47 hw) (own_w48 hw) (own_w50 hw) (own_w49 hw) (own_w3 hw) (own_w51 hw) (H297.atO (i := 0) rfl) (a := c261) (argsL := [(.long x), (.long y)]) (rest := []) (own_aff hw H297 ((own_small.sub (own_small.add (own_small.add (show own_small 0 (0 : Int64) by unfold own_small; decide) hs1 (by decide) (by decide)) (own_small.div2 (own_small.sub (show own_small 200000 (200000 : Int64) by unfold own_small; decide) (own_small.add (show own_small 0 (0 : Int64) by unfold own_small; decide) hs1 (by decide) (by decide)) (by decide) (by decide)) (by decide)) (by decide) (by decide)) (own_small.add (own_small.add (show own_small 0 (0 : Int64) by unfold own_small; decide) hs1 (by decide) (by decide)) hs3 (by decide) (by decide)) (by decide) (by decide)).mono (by decide))) own_pd3 rfl rfl rfl (by decide) (W := 0) (Nat.le_of_eq rfl) (by decide) (by decide) (by decide) (by decide) ?_
              intro v300 h298 q299
              obtain ⟨rfl, rfl⟩ := q299
              have lim : (((1500 : Int32) : Int32) - (2 : Int32)).toInt = 1498 := by decide
              have lim2 : (1498 : Int64).toInt = 1498 := by decide
              rw [own_cl_gt, lim2] at gP
              have fin : (if x.toInt ≤ ((1500 : Int32) - (2 : Int32)).toInt ∧ x.toInt * y.toInt ≤ ((((0 : Int64) + s1) + (((200000 : Int64) - ((0 : Int64) + s1)) / (2 : Int64))) - (((0 : Int64) + s1) + s3)).toInt then (1 : Int32) else 0) = 0 := if_neg fun z => absurd (show (if x.toInt * y.toInt ≤ ((((0 : Int64) + s1) + (((200000 : Int64) - ((0 : Int64) + s1)) / (2 : Int64))) - (((0 : Int64) + s1) + s3)).toInt then (1 : Int32) else 0) = 0 from gW) (by rw [if_pos z.2]; decide)
              refine own_topI (x' := (0 : Int32)) (fin) ?_
              refine own_iload K own_d8_216 rfl ?_
              refine own_icmpne K own_d8_218 (fun q => absurd q (by decide)) (fun _ => ?_)
              refine own_iconst K own_d8_221 (v := (1 : Int32)) rfl ?_
              refine own_goto K own_d8_222 ?_
              exact own_retZ K (by first | exact Or.inl rfl | exact Or.inr rfl | decide) own_d8_226 (by decide) (by decide) (rfl)
            · refine own_iconst K own_d8_202 (v := (1 : Int32)) rfl ?_
              refine own_goto K own_d8_203 ?_
              refine own_istore K own_d8_207 (Ls' := #[.val (.long x), .second, .val (.long y), .second, .val (.int ia), .val (.int ib), .val (.int ic), .val (.int fl), .val (.long s1), .second, .val (.long s2), .second, .val (.long s3), .second, .val (.long (2 : Int64)), .second, .val (.long (((0 : Int64) + s1) + s3)), .second, .val (.ref a3), .val (.ref c261), .val (.long (1500 : Int64)), .second, .val (.long (((0 : Int64) + s1) + (((200000 : Int64) - ((0 : Int64) + s1)) / (2 : Int64)))), .second, .val (.int (1 : Int32))]) rfl ?_
              refine own_aload K own_d8_209 rfl rfl ?_
              refine own_lloadN K own_d8_211 rfl ?_
              refine own_lloadN K own_d8_212 rfl ?_
              have H301 := H287.frontO 1 rfl
              replace H301 : own_H Z h284 (own_SP b7 (.int (2 : Int32)) (.long (((0 : Int64) + s1) + s3)) :: own_BU a3 (.ref b7) (.int (3000 : Int32)) (.long (200000 : Int64)) :: own_BU c261 (.ref b7) (.int (1500 : Int32)) (.long (((0 : Int64) + s1) + (((200000 : Int64) - ((0 : Int64) + s1)) / (2 : Int64)))) :: []) ([]) := H301
              have H302 := H301.frontO 2 rfl
              replace H302 : own_H Z h284 (own_BU c261 (.ref b7) (.int (1500 : Int32)) (.long (((0 : Int64) + s1) + (((200000 : Int64) - ((0 : Int64) + s1)) / (2 : Int64)))) :: own_SP b7 (.int (2 : Int32)) (.long (((0 : Int64) + s1) + s3)) :: own_BU a3 (.ref b7) (.int (3000 : Int32)) (.long (200000 : Int64)) :: []) ([]) := H302
              refine own_virtual K own_d8_213 (own_w47 hw) (own_w48 hw) (own_w50 hw) (own_w49 hw) (own_w3 hw) (own_w51 hw) (H302.atO (i := 0) rfl) (a := c261) (argsL := [(.long x), (.long y)]) (rest := []) (own_aff hw H302 ((own_small.sub (own_small.add (own_small.add (show own_small 0 (0 : Int64) by unfold own_small; decide) hs1 (by decide) (by decide)) (own_small.div2 (own_small.sub (show own_small 200000 (200000 : Int64) by unfold own_small; decide) (own_small.add (show own_small 0 (0 : Int64) by unfold own_small; decide) hs1 (by decide) (by decide)) (by decide) (by decide)) (by decide)) (by decide) (by decide)) (own_small.add (own_small.add (show own_small 0 (0 : Int64) by unfold own_small; decide) hs1 (by decide) (by decide)) hs3 (by decide) (by decide)) (by decide) (by decide)).mono (by decide))) own_pd3 rfl rfl rfl (by decide) (W := 0) (Nat.le_of_eq rfl) (by decide) (by decide) (by decide) (by decide) ?_
              intro v305 h303 q304
              obtain ⟨rfl, rfl⟩ := q304
              have lim : (((1500 : Int32) : Int32) - (2 : Int32)).toInt = 1498 := by decide
              have lim2 : (1498 : Int64).toInt = 1498 := by decide
              rw [own_cl_gt, lim2] at gP
              have fin : (if x.toInt ≤ ((1500 : Int32) - (2 : Int32)).toInt ∧ x.toInt * y.toInt ≤ ((((0 : Int64) + s1) + (((200000 : Int64) - ((0 : Int64) + s1)) / (2 : Int64))) - (((0 : Int64) + s1) + s3)).toInt then (1 : Int32) else 0) = 1 := if_pos ⟨by rw [lim]; omega, Decidable.byContradiction fun z => gW (if_neg z)⟩
              refine own_topI (x' := (1 : Int32)) (fin) ?_
              refine own_iload K own_d8_216 rfl ?_
              refine own_icmpne K own_d8_218 (fun q => absurd q (by decide)) (fun _ => ?_)
              refine own_iconst K own_d8_221 (v := (1 : Int32)) rfl ?_
              refine own_goto K own_d8_222 ?_
              exact own_retZ K (by first | exact Or.inl rfl | exact Or.inr rfl | decide) own_d8_226 (by decide) (by decide) (rfl)
    · refine own_aload K own_d8_73 rfl rfl ?_
      refine own_lload K own_d8_75 rfl ?_
      have H306 := H210.frontO 1 rfl
      replace H306 : own_H Z h207 (own_SP b7 (.int (1 : Int32)) (.long ((0 : Int64) + s1)) :: own_BU a3 (.ref b7) (.int (3000 : Int32)) (.long (200000 : Int64)) :: []) ([]) := H306
      have H307 := H306.frontO 1 rfl
      replace H307 : own_H Z h207 (own_BU a3 (.ref b7) (.int (3000 : Int32)) (.long (200000 : Int64)) :: own_SP b7 (.int (1 : Int32)) (.long ((0 : Int64) + s1)) :: []) ([]) := H307
      refine own_virtual K own_d8_77 (own_w27 hw) (own_w28 hw) (own_w30 hw) (own_w29 hw) (own_w3 hw) (own_w31 hw) (H307.atO (i := 0) rfl) (a := a3) (argsL := [(.long s2)]) (rest := []) (own_spend hw H307 (sp' := (2 : Int32)) (by decide)) own_pd5 rfl rfl rfl (by decide) (W := 0) (Nat.le_of_eq rfl) (by decide) (by decide) (by decide) (by decide) ?_
      intro v310 h308 q309
      obtain ⟨rfl, H311⟩ := q309
      replace H311 : own_H Z h308 (own_BU a3 (.ref b7) (.int (3000 : Int32)) (.long (200000 : Int64)) :: own_SP b7 (.int (2 : Int32)) (.long (((0 : Int64) + s1) + s2)) :: []) ([]) := H311
      refine own_lload K own_d8_80 rfl ?_
      refine own_lconst K own_d8_82 (v := (1 : Int64)) rfl ?_
      refine own_ladd K own_d8_83 ?_
      refine own_topL (x' := (2 : Int64)) (by decide) ?_
      refine own_lstore K own_d8_84 (Ls' := #[.val (.long x), .second, .val (.long y), .second, .val (.int ia), .val (.int ib), .val (.int ic), .val (.int fl), .val (.long s1), .second, .val (.long s2), .second, .val (.long s3), .second, .val (.long (2 : Int64)), .second, .val (.long ((0 : Int64) + s1)), .second, .val (.ref a3), .unset, .unset, .unset, .unset, .unset, .unset]) rfl ?_
      refine own_lload K own_d8_86 rfl ?_
      refine own_lload K own_d8_88 rfl ?_
      refine own_ladd K own_d8_90 ?_
      refine own_lstore K own_d8_91 (Ls' := #[.val (.long x), .second, .val (.long y), .second, .val (.int ia), .val (.int ib), .val (.int ic), .val (.int fl), .val (.long s1), .second, .val (.long s2), .second, .val (.long s3), .second, .val (.long (2 : Int64)), .second, .val (.long (((0 : Int64) + s1) + s2)), .second, .val (.ref a3), .unset, .unset, .unset, .unset, .unset, .unset]) rfl ?_
      refine own_aload K own_d8_93 rfl rfl ?_
      refine own_astore K own_d8_95 rfl (Ls' := #[.val (.long x), .second, .val (.long y), .second, .val (.int ia), .val (.int ib), .val (.int ic), .val (.int fl), .val (.long s1), .second, .val (.long s2), .second, .val (.long s3), .second, .val (.long (2 : Int64)), .second, .val (.long (((0 : Int64) + s1) + s2)), .second, .val (.ref a3), .val (.ref a3), .unset, .unset, .unset, .unset, .unset]) rfl ?_
      refine own_ldc2J K own_d8_97 (v := (3000 : Int64)) (own_w36 hw) ?_
      refine own_lstore K own_d8_100 (Ls' := #[.val (.long x), .second, .val (.long y), .second, .val (.int ia), .val (.int ib), .val (.int ic), .val (.int fl), .val (.long s1), .second, .val (.long s2), .second, .val (.long s3), .second, .val (.long (2 : Int64)), .second, .val (.long (((0 : Int64) + s1) + s2)), .second, .val (.ref a3), .val (.ref a3), .val (.long (3000 : Int64)), .second, .unset, .unset, .unset]) rfl ?_
      refine own_ldc2J K own_d8_102 (v := (200000 : Int64)) (own_w37 hw) ?_
      refine own_lstore K own_d8_105 (Ls' := #[.val (.long x), .second, .val (.long y), .second, .val (.int ia), .val (.int ib), .val (.int ic), .val (.int fl), .val (.long s1), .second, .val (.long s2), .second, .val (.long s3), .second, .val (.long (2 : Int64)), .second, .val (.long (((0 : Int64) + s1) + s2)), .second, .val (.ref a3), .val (.ref a3), .val (.long (3000 : Int64)), .second, .val (.long (200000 : Int64)), .second, .unset]) rfl ?_
      refine own_iload K own_d8_107 rfl ?_
      refine own_iconst K own_d8_109 (v := (4 : Int32)) rfl ?_
      refine own_iand K own_d8_110 ?_
      refine own_ifeq K own_d8_111 (fun f312 => ?_) (fun f312 => ?_)
      · refine own_iload K own_d8_151 rfl ?_
        refine own_bipush K own_d8_153 (v := (8 : Int32)) rfl ?_
        refine own_iand K own_d8_155 ?_
        refine own_ifeq K own_d8_156 (fun f313 => ?_) (fun f313 => ?_)
        · refine own_lloadN K own_d8_179 rfl ?_
          refine own_lload K own_d8_180 rfl ?_
          refine own_lload K own_d8_182 rfl ?_
          refine own_lsub K own_d8_184 ?_
          refine own_topL (x' := (2998 : Int64)) (by decide) ?_
          refine own_lcmp K own_d8_185 ?_
          refine own_ifgt K own_d8_186 (fun gP => ?_) (fun gP => ?_)
          · refine own_iconst K own_d8_206 (v := (0 : Int32)) rfl ?_
            refine own_istore K own_d8_207 (Ls' := #[.val (.long x), .second, .val (.long y), .second, .val (.int ia), .val (.int ib), .val (.int ic), .val (.int fl), .val (.long s1), .second, .val (.long s2), .second, .val (.long s3), .second, .val (.long (2 : Int64)), .second, .val (.long (((0 : Int64) + s1) + s2)), .second, .val (.ref a3), .val (.ref a3), .val (.long (3000 : Int64)), .second, .val (.long (200000 : Int64)), .second, .val (.int (0 : Int32))]) rfl ?_
            refine own_aload K own_d8_209 rfl rfl ?_
            refine own_lloadN K own_d8_211 rfl ?_
            refine own_lloadN K own_d8_212 rfl ?_
            have H314 := H311.frontO 1 rfl
            replace H314 : own_H Z h308 (own_SP b7 (.int (2 : Int32)) (.long (((0 : Int64) + s1) + s2)) :: own_BU a3 (.ref b7) (.int (3000 : Int32)) (.long (200000 : Int64)) :: []) ([]) := H314
            have H315 := H314.frontO 1 rfl
            replace H315 : own_H Z h308 (own_BU a3 (.ref b7) (.int (3000 : Int32)) (.long (200000 : Int64)) :: own_SP b7 (.int (2 : Int32)) (.long (((0 : Int64) + s1) + s2)) :: []) ([]) := H315
            refine own_virtual K own_d8_213 (own_w47 hw) (own_w48 hw) (own_w50 hw) (own_w49 hw) (own_w3 hw) (own_w51 hw) (H315.atO (i := 0) rfl) (a := a3) (argsL := [(.long x), (.long y)]) (rest := []) (own_aff hw H315 ((own_small.sub (show own_small 200000 (200000 : Int64) by unfold own_small; decide) (own_small.add (own_small.add (show own_small 0 (0 : Int64) by unfold own_small; decide) hs1 (by decide) (by decide)) hs2 (by decide) (by decide)) (by decide) (by decide)).mono (by decide))) own_pd3 rfl rfl rfl (by decide) (W := 0) (Nat.le_of_eq rfl) (by decide) (by decide) (by decide) (by decide) ?_
            intro v318 h316 q317
            obtain ⟨rfl, rfl⟩ := q317
            have lim : (((3000 : Int32) : Int32) - (2 : Int32)).toInt = 2998 := by decide
            have lim2 : (2998 : Int64).toInt = 2998 := by decide
            rw [own_cl_gt, lim2] at gP
            have fin : (if x.toInt ≤ ((3000 : Int32) - (2 : Int32)).toInt ∧ x.toInt * y.toInt ≤ ((200000 : Int64) - (((0 : Int64) + s1) + s2)).toInt then (1 : Int32) else 0) = 0 := if_neg fun z => by rw [lim] at z; omega
            refine own_topI (x' := (0 : Int32)) (fin) ?_
            refine own_iload K own_d8_216 rfl ?_
            refine own_icmpne K own_d8_218 (fun q => absurd q (by decide)) (fun _ => ?_)
            refine own_iconst K own_d8_221 (v := (1 : Int32)) rfl ?_
            refine own_goto K own_d8_222 ?_
            exact own_retZ K (by first | exact Or.inl rfl | exact Or.inr rfl | decide) own_d8_226 (by decide) (by decide) (rfl)
          · refine own_lloadN K own_d8_189 rfl ?_
            refine own_lloadN K own_d8_190 rfl ?_
            refine own_lload K own_d8_191 rfl ?_
            refine own_lload K own_d8_193 rfl ?_
            refine own_lsub K own_d8_195 ?_
            refine own_static K own_d8_196 (own_w38 hw) (own_w39 hw) (own_w40 hw) (own_w41 hw) (argsL := [(.long x), (.long y), (.long ((200000 : Int64) - (((0 : Int64) + s1) + s2)))]) (rest := []) (own_pm hw ((own_small.sub (show own_small 200000 (200000 : Int64) by unfold own_small; decide) (own_small.add (own_small.add (show own_small 0 (0 : Int64) by unfold own_small; decide) hs1 (by decide) (by decide)) hs2 (by decide) (by decide)) (by decide) (by decide)).mono (by decide))) own_pd4 rfl rfl rfl (by decide) (W := 0) (Nat.le_of_eq rfl) (by decide) (by decide) (by decide) (by decide) ?_
            intro v321 h319 q320
            obtain ⟨rfl, rfl⟩ := q320
            refine own_ifeq K own_d8_199 (fun gW => ?_) (fun gW => ?_)
            · refine own_iconst K own_d8_206 (v := (0 : Int32)) rfl ?_
              refine own_istore K own_d8_207 (Ls' := #[.val (.long x), .second, .val (.long y), .second, .val (.int ia), .val (.int ib), .val (.int ic), .val (.int fl), .val (.long s1), .second, .val (.long s2), .second, .val (.long s3), .second, .val (.long (2 : Int64)), .second, .val (.long (((0 : Int64) + s1) + s2)), .second, .val (.ref a3), .val (.ref a3), .val (.long (3000 : Int64)), .second, .val (.long (200000 : Int64)), .second, .val (.int (0 : Int32))]) rfl ?_
              refine own_aload K own_d8_209 rfl rfl ?_
              refine own_lloadN K own_d8_211 rfl ?_
              refine own_lloadN K own_d8_212 rfl ?_
              have H322 := H311.frontO 1 rfl
              replace H322 : own_H Z h308 (own_SP b7 (.int (2 : Int32)) (.long (((0 : Int64) + s1) + s2)) :: own_BU a3 (.ref b7) (.int (3000 : Int32)) (.long (200000 : Int64)) :: []) ([]) := H322
              have H323 := H322.frontO 1 rfl
              replace H323 : own_H Z h308 (own_BU a3 (.ref b7) (.int (3000 : Int32)) (.long (200000 : Int64)) :: own_SP b7 (.int (2 : Int32)) (.long (((0 : Int64) + s1) + s2)) :: []) ([]) := H323
              refine own_virtual K own_d8_213 (own_w47 hw) (own_w48 hw) (own_w50 hw) (own_w49 hw) (own_w3 hw) (own_w51 hw) (H323.atO (i := 0) rfl) (a := a3) (argsL := [(.long x), (.long y)]) (rest := []) (own_aff hw H323 ((own_small.sub (show own_small 200000 (200000 : Int64) by unfold own_small; decide) (own_small.add (own_small.add (show own_small 0 (0 : Int64) by unfold own_small; decide) hs1 (by decide) (by decide)) hs2 (by decide) (by decide)) (by decide) (by decide)).mono (by decide))) own_pd3 rfl rfl rfl (by decide) (W := 0) (Nat.le_of_eq rfl) (by decide) (by decide) (by decide) (by decide) ?_
              intro v326 h324 q325
              obtain ⟨rfl, rfl⟩ := q325
              have lim : (((3000 : Int32) : Int32) - (2 : Int32)).toInt = 2998 := by decide
              have lim2 : (2998 : Int64).toInt = 2998 := by decide
              rw [own_cl_gt, lim2] at gP
              have fin : (if x.toInt ≤ ((3000 : Int32) - (2 : Int32)).toInt ∧ x.toInt * y.toInt ≤ ((200000 : Int64) - (((0 : Int64) + s1) + s2)).toInt then (1 : Int32) else 0) = 0 := if_neg fun z => absurd (show (if x.toInt * y.toInt ≤ ((200000 : Int64) - (((0 : Int64) + s1) + s2)).toInt then (1 : Int32) else 0) = 0 from gW) (by rw [if_pos z.2]; decide)
              refine own_topI (x' := (0 : Int32)) (fin) ?_
              refine own_iload K own_d8_216 rfl ?_
              refine own_icmpne K own_d8_218 (fun q => absurd q (by decide)) (fun _ => ?_)
              refine own_iconst K own_d8_221 (v := (1 : Int32)) rfl ?_
              refine own_goto K own_d8_222 ?_
              exact own_retZ K (by first | exact Or.inl rfl | exact Or.inr rfl | decide) own_d8_226 (by decide) (by decide) (rfl)
            · refine own_iconst K own_d8_202 (v := (1 : Int32)) rfl ?_
              refine own_goto K own_d8_203 ?_
              refine own_istore K own_d8_207 (Ls' := #[.val (.long x), .second, .val (.long y), .second, .val (.int ia), .val (.int ib), .val (.int ic), .val (.int fl), .val (.long s1), .second, .val (.long s2), .second, .val (.long s3), .second, .val (.long (2 : Int64)), .second, .val (.long (((0 : Int64) + s1) + s2)), .second, .val (.ref a3), .val (.ref a3), .val (.long (3000 : Int64)), .second, .val (.long (200000 : Int64)), .second, .val (.int (1 : Int32))]) rfl ?_
              refine own_aload K own_d8_209 rfl rfl ?_
              refine own_lloadN K own_d8_211 rfl ?_
              refine own_lloadN K own_d8_212 rfl ?_
              have H327 := H311.frontO 1 rfl
              replace H327 : own_H Z h308 (own_SP b7 (.int (2 : Int32)) (.long (((0 : Int64) + s1) + s2)) :: own_BU a3 (.ref b7) (.int (3000 : Int32)) (.long (200000 : Int64)) :: []) ([]) := H327
              have H328 := H327.frontO 1 rfl
              replace H328 : own_H Z h308 (own_BU a3 (.ref b7) (.int (3000 : Int32)) (.long (200000 : Int64)) :: own_SP b7 (.int (2 : Int32)) (.long (((0 : Int64) + s1) + s2)) :: []) ([]) := H328
              refine own_virtual K own_d8_213 (own_w47 hw) (own_w48 hw) (own_w50 hw) (own_w49 hw) (own_w3 hw) (own_w51 hw) (H328.atO (i := 0) rfl) (a := a3) (argsL := [(.long x), (.long y)]) (rest := []) (own_aff hw H328 ((own_small.sub (show own_small 200000 (200000 : Int64) by unfold own_small; decide) (own_small.add (own_small.add (show own_small 0 (0 : Int64) by unfold own_small; decide) hs1 (by decide) (by decide)) hs2 (by decide) (by decide)) (by decide) (by decide)).mono (by decide))) own_pd3 rfl rfl rfl (by decide) (W := 0) (Nat.le_of_eq rfl) (by decide) (by decide) (by decide) (by decide) ?_
              intro v331 h329 q330
              obtain ⟨rfl, rfl⟩ := q330
              have lim : (((3000 : Int32) : Int32) - (2 : Int32)).toInt = 2998 := by decide
              have lim2 : (2998 : Int64).toInt = 2998 := by decide
              rw [own_cl_gt, lim2] at gP
              have fin : (if x.toInt ≤ ((3000 : Int32) - (2 : Int32)).toInt ∧ x.toInt * y.toInt ≤ ((200000 : Int64) - (((0 : Int64) + s1) + s2)).toInt then (1 : Int32) else 0) = 1 := if_pos ⟨by rw [lim]; omega, Decidable.byContradiction fun z => gW (if_neg z)⟩
              refine own_topI (x' := (1 : Int32)) (fin) ?_
              refine own_iload K own_d8_216 rfl ?_
              refine own_icmpne K own_d8_218 (fun q => absurd q (by decide)) (fun _ => ?_)
              refine own_iconst K own_d8_221 (v := (1 : Int32)) rfl ?_
              refine own_goto K own_d8_222 ?_
              exact own_retZ K (by first | exact Or.inl rfl | exact Or.inr rfl | decide) own_d8_226 (by decide) (by decide) (rfl)
        · refine own_aload K own_d8_159 rfl rfl ?_
          refine own_lload K own_d8_161 rfl ?_
          have H332 := H311.frontO 1 rfl
          replace H332 : own_H Z h308 (own_SP b7 (.int (2 : Int32)) (.long (((0 : Int64) + s1) + s2)) :: own_BU a3 (.ref b7) (.int (3000 : Int32)) (.long (200000 : Int64)) :: []) ([]) := H332
          have H333 := H332.frontO 1 rfl
          replace H333 : own_H Z h308 (own_BU a3 (.ref b7) (.int (3000 : Int32)) (.long (200000 : Int64)) :: own_SP b7 (.int (2 : Int32)) (.long (((0 : Int64) + s1) + s2)) :: []) ([]) := H333
          refine own_virtual K own_d8_163 (own_w27 hw) (own_w28 hw) (own_w30 hw) (own_w29 hw) (own_w3 hw) (own_w31 hw) (H333.atO (i := 0) rfl) (a := a3) (argsL := [(.long s3)]) (rest := []) (own_spend hw H333 (sp' := (3 : Int32)) (by decide)) own_pd5 rfl rfl rfl (by decide) (W := 0) (Nat.le_of_eq rfl) (by decide) (by decide) (by decide) (by decide) ?_
          intro v336 h334 q335
          obtain ⟨rfl, H337⟩ := q335
          replace H337 : own_H Z h334 (own_BU a3 (.ref b7) (.int (3000 : Int32)) (.long (200000 : Int64)) :: own_SP b7 (.int (3 : Int32)) (.long ((((0 : Int64) + s1) + s2) + s3)) :: []) ([]) := H337
          refine own_lload K own_d8_166 rfl ?_
          refine own_lconst K own_d8_168 (v := (1 : Int64)) rfl ?_
          refine own_ladd K own_d8_169 ?_
          refine own_topL (x' := (3 : Int64)) (by decide) ?_
          refine own_lstore K own_d8_170 (Ls' := #[.val (.long x), .second, .val (.long y), .second, .val (.int ia), .val (.int ib), .val (.int ic), .val (.int fl), .val (.long s1), .second, .val (.long s2), .second, .val (.long s3), .second, .val (.long (3 : Int64)), .second, .val (.long (((0 : Int64) + s1) + s2)), .second, .val (.ref a3), .val (.ref a3), .val (.long (3000 : Int64)), .second, .val (.long (200000 : Int64)), .second, .unset]) rfl ?_
          refine own_lload K own_d8_172 rfl ?_
          refine own_lload K own_d8_174 rfl ?_
          refine own_ladd K own_d8_176 ?_
          refine own_lstore K own_d8_177 (Ls' := #[.val (.long x), .second, .val (.long y), .second, .val (.int ia), .val (.int ib), .val (.int ic), .val (.int fl), .val (.long s1), .second, .val (.long s2), .second, .val (.long s3), .second, .val (.long (3 : Int64)), .second, .val (.long ((((0 : Int64) + s1) + s2) + s3)), .second, .val (.ref a3), .val (.ref a3), .val (.long (3000 : Int64)), .second, .val (.long (200000 : Int64)), .second, .unset]) rfl ?_
          refine own_lloadN K own_d8_179 rfl ?_
          refine own_lload K own_d8_180 rfl ?_
          refine own_lload K own_d8_182 rfl ?_
          refine own_lsub K own_d8_184 ?_
          refine own_topL (x' := (2997 : Int64)) (by decide) ?_
          refine own_lcmp K own_d8_185 ?_
          refine own_ifgt K own_d8_186 (fun gP => ?_) (fun gP => ?_)
          · refine own_iconst K own_d8_206 (v := (0 : Int32)) rfl ?_
            refine own_istore K own_d8_207 (Ls' := #[.val (.long x), .second, .val (.long y), .second, .val (.int ia), .val (.int ib), .val (.int ic), .val (.int fl), .val (.long s1), .second, .val (.long s2), .second, .val (.long s3), .second, .val (.long (3 : Int64)), .second, .val (.long ((((0 : Int64) + s1) + s2) + s3)), .second, .val (.ref a3), .val (.ref a3), .val (.long (3000 : Int64)), .second, .val (.long (200000 : Int64)), .second, .val (.int (0 : Int32))]) rfl ?_
            refine own_aload K own_d8_209 rfl rfl ?_
            refine own_lloadN K own_d8_211 rfl ?_
            refine own_lloadN K own_d8_212 rfl ?_
            have H338 := H337.frontO 1 rfl
            replace H338 : own_H Z h334 (own_SP b7 (.int (3 : Int32)) (.long ((((0 : Int64) + s1) + s2) + s3)) :: own_BU a3 (.ref b7) (.int (3000 : Int32)) (.long (200000 : Int64)) :: []) ([]) := H338
            have H339 := H338.frontO 1 rfl
            replace H339 : own_H Z h334 (own_BU a3 (.ref b7) (.int (3000 : Int32)) (.long (200000 : Int64)) :: own_SP b7 (.int (3 : Int32)) (.long ((((0 : Int64) + s1) + s2) + s3)) :: []) ([]) := H339
            refine own_virtual K own_d8_213 (own_w47 hw) (own_w48 hw) (own_w50 hw) (own_w49 hw) (own_w3 hw) (own_w51 hw) (H339.atO (i := 0) rfl) (a := a3) (argsL := [(.long x), (.long y)]) (rest := []) (own_aff hw H339 ((own_small.sub (show own_small 200000 (200000 : Int64) by unfold own_small; decide) (own_small.add (own_small.add (own_small.add (show own_small 0 (0 : Int64) by unfold own_small; decide) hs1 (by decide) (by decide)) hs2 (by decide) (by decide)) hs3 (by decide) (by decide)) (by decide) (by decide)).mono (by decide))) own_pd3 rfl rfl rfl (by decide) (W := 0) (Nat.le_of_eq rfl) (by decide) (by decide) (by decide) (by decide) ?_
            intro v342 h340 q341
            obtain ⟨rfl, rfl⟩ := q341
            have lim : (((3000 : Int32) : Int32) - (3 : Int32)).toInt = 2997 := by decide
            have lim2 : (2997 : Int64).toInt = 2997 := by decide
            rw [own_cl_gt, lim2] at gP
            have fin : (if x.toInt ≤ ((3000 : Int32) - (3 : Int32)).toInt ∧ x.toInt * y.toInt ≤ ((200000 : Int64) - ((((0 : Int64) + s1) + s2) + s3)).toInt then (1 : Int32) else 0) = 0 := if_neg fun z => by rw [lim] at z; omega
            refine own_topI (x' := (0 : Int32)) (fin) ?_
            refine own_iload K own_d8_216 rfl ?_
            refine own_icmpne K own_d8_218 (fun q => absurd q (by decide)) (fun _ => ?_)
            refine own_iconst K own_d8_221 (v := (1 : Int32)) rfl ?_
            refine own_goto K own_d8_222 ?_
            exact own_retZ K (by first | exact Or.inl rfl | exact Or.inr rfl | decide) own_d8_226 (by decide) (by decide) (rfl)
          · refine own_lloadN K own_d8_189 rfl ?_
            refine own_lloadN K own_d8_190 rfl ?_
            refine own_lload K own_d8_191 rfl ?_
            refine own_lload K own_d8_193 rfl ?_
            refine own_lsub K own_d8_195 ?_
            refine own_static K own_d8_196 (own_w38 hw) (own_w39 hw) (own_w40 hw) (own_w41 hw) (argsL := [(.long x), (.long y), (.long ((200000 : Int64) - ((((0 : Int64) + s1) + s2) + s3)))]) (rest := []) (own_pm hw ((own_small.sub (show own_small 200000 (200000 : Int64) by unfold own_small; decide) (own_small.add (own_small.add (own_small.add (show own_small 0 (0 : Int64) by unfold own_small; decide) hs1 (by decide) (by decide)) hs2 (by decide) (by decide)) hs3 (by decide) (by decide)) (by decide) (by decide)).mono (by decide))) own_pd4 rfl rfl rfl (by decide) (W := 0) (Nat.le_of_eq rfl) (by decide) (by decide) (by decide) (by decide) ?_
            intro v345 h343 q344
            obtain ⟨rfl, rfl⟩ := q344
            refine own_ifeq K own_d8_199 (fun gW => ?_) (fun gW => ?_)
            · refine own_iconst K own_d8_206 (v := (0 : Int32)) rfl ?_
              refine own_istore K own_d8_207 (Ls' := #[.val (.long x), .second, .val (.long y), .second, .val (.int ia), .val (.int ib), .val (.int ic), .val (.int fl), .val (.long s1), .second, .val (.long s2), .second, .val (.long s3), .second, .val (.long (3 : Int64)), .second, .val (.long ((((0 : Int64) + s1) + s2) + s3)), .second, .val (.ref a3), .val (.ref a3), .val (.long (3000 : Int64)), .second, .val (.long (200000 : Int64)), .second, .val (.int (0 : Int32))]) rfl ?_
              refine own_aload K own_d8_209 rfl rfl ?_
              refine own_lloadN K own_d8_211 rfl ?_
              refine own_lloadN K own_d8_212 rfl ?_
              have H346 := H337.frontO 1 rfl
              replace H346 : own_H Z h334 (own_SP b7 (.int (3 : Int32)) (.long ((((0 : Int64) + s1) + s2) + s3)) :: own_BU a3 (.ref b7) (.int (3000 : Int32)) (.long (200000 : Int64)) :: []) ([]) := H346
              have H347 := H346.frontO 1 rfl
              replace H347 : own_H Z h334 (own_BU a3 (.ref b7) (.int (3000 : Int32)) (.long (200000 : Int64)) :: own_SP b7 (.int (3 : Int32)) (.long ((((0 : Int64) + s1) + s2) + s3)) :: []) ([]) := H347
              refine own_virtual K own_d8_213 (own_w47 hw) (own_w48 hw) (own_w50 hw) (own_w49 hw) (own_w3 hw) (own_w51 hw) (H347.atO (i := 0) rfl) (a := a3) (argsL := [(.long x), (.long y)]) (rest := []) (own_aff hw H347 ((own_small.sub (show own_small 200000 (200000 : Int64) by unfold own_small; decide) (own_small.add (own_small.add (own_small.add (show own_small 0 (0 : Int64) by unfold own_small; decide) hs1 (by decide) (by decide)) hs2 (by decide) (by decide)) hs3 (by decide) (by decide)) (by decide) (by decide)).mono (by decide))) own_pd3 rfl rfl rfl (by decide) (W := 0) (Nat.le_of_eq rfl) (by decide) (by decide) (by decide) (by decide) ?_
              intro v350 h348 q349
              obtain ⟨rfl, rfl⟩ := q349
              have lim : (((3000 : Int32) : Int32) - (3 : Int32)).toInt = 2997 := by decide
              have lim2 : (2997 : Int64).toInt = 2997 := by decide
              rw [own_cl_gt, lim2] at gP
              have fin : (if x.toInt ≤ ((3000 : Int32) - (3 : Int32)).toInt ∧ x.toInt * y.toInt ≤ ((200000 : Int64) - ((((0 : Int64) + s1) + s2) + s3)).toInt then (1 : Int32) else 0) = 0 := if_neg fun z => absurd (show (if x.toInt * y.toInt ≤ ((200000 : Int64) - ((((0 : Int64) + s1) + s2) + s3)).toInt then (1 : Int32) else 0) = 0 from gW) (by rw [if_pos z.2]; decide)
              refine own_topI (x' := (0 : Int32)) (fin) ?_
              refine own_iload K own_d8_216 rfl ?_
              refine own_icmpne K own_d8_218 (fun q => absurd q (by decide)) (fun _ => ?_)
              refine own_iconst K own_d8_221 (v := (1 : Int32)) rfl ?_
              refine own_goto K own_d8_222 ?_
              exact own_retZ K (by first | exact Or.inl rfl | exact Or.inr rfl | decide) own_d8_226 (by decide) (by decide) (rfl)
            · refine own_iconst K own_d8_202 (v := (1 : Int32)) rfl ?_
              refine own_goto K own_d8_203 ?_
              refine own_istore K own_d8_207 (Ls' := #[.val (.long x), .second, .val (.long y), .second, .val (.int ia), .val (.int ib), .val (.int ic), .val (.int fl), .val (.long s1), .second, .val (.long s2), .second, .val (.long s3), .second, .val (.long (3 : Int64)), .second, .val (.long ((((0 : Int64) + s1) + s2) + s3)), .second, .val (.ref a3), .val (.ref a3), .val (.long (3000 : Int64)), .second, .val (.long (200000 : Int64)), .second, .val (.int (1 : Int32))]) rfl ?_
              refine own_aload K own_d8_209 rfl rfl ?_
              refine own_lloadN K own_d8_211 rfl ?_
              refine own_lloadN K own_d8_212 rfl ?_
              have H351 := H337.frontO 1 rfl
              replace H351 : own_H Z h334 (own_SP b7 (.int (3 : Int32)) (.long ((((0 : Int64) + s1) + s2) + s3)) :: own_BU a3 (.ref b7) (.int (3000 : Int32)) (.long (200000 : Int64)) :: []) ([]) := H351
              have H352 := H351.frontO 1 rfl
              replace H352 : own_H Z h334 (own_BU a3 (.ref b7) (.int (3000 : Int32)) (.long (200000 : Int64)) :: own_SP b7 (.int (3 : Int32)) (.long ((((0 : Int64) + s1) + s2) + s3)) :: []) ([]) := H352
              refine own_virtual K own_d8_213 (own_w47 hw) (own_w48 hw) (own_w50 hw) (own_w49 hw) (own_w3 hw) (own_w51 hw) (H352.atO (i := 0) rfl) (a := a3) (argsL := [(.long x), (.long y)]) (rest := []) (own_aff hw H352 ((own_small.sub (show own_small 200000 (200000 : Int64) by unfold own_small; decide) (own_small.add (own_small.add (own_small.add (show own_small 0 (0 : Int64) by unfold own_small; decide) hs1 (by decide) (by decide)) hs2 (by decide) (by decide)) hs3 (by decide) (by decide)) (by decide) (by decide)).mono (by decide))) own_pd3 rfl rfl rfl (by decide) (W := 0) (Nat.le_of_eq rfl) (by decide) (by decide) (by decide) (by decide) ?_
              intro v355 h353 q354
              obtain ⟨rfl, rfl⟩ := q354
              have lim : (((3000 : Int32) : Int32) - (3 : Int32)).toInt = 2997 := by decide
              have lim2 : (2997 : Int64).toInt = 2997 := by decide
              rw [own_cl_gt, lim2] at gP
              have fin : (if x.toInt ≤ ((3000 : Int32) - (3 : Int32)).toInt ∧ x.toInt * y.toInt ≤ ((200000 : Int64) - ((((0 : Int64) + s1) + s2) + s3)).toInt then (1 : Int32) else 0) = 1 := if_pos ⟨by rw [lim]; omega, Decidable.byContradiction fun z => gW (if_neg z)⟩
              refine own_topI (x' := (1 : Int32)) (fin) ?_
              refine own_iload K own_d8_216 rfl ?_
              refine own_icmpne K own_d8_218 (fun q => absurd q (by decide)) (fun _ => ?_)
              refine own_iconst K own_d8_221 (v := (1 : Int32)) rfl ?_
              refine own_goto K own_d8_222 ?_
              exact own_retZ K (by first | exact Or.inl rfl | exact Or.inr rfl | decide) own_d8_226 (by decide) (by decide) (rfl)
      · refine own_aload K own_d8_114 rfl rfl ?_
        have H356 := H311.frontO 1 rfl
        replace H356 : own_H Z h308 (own_SP b7 (.int (2 : Int32)) (.long (((0 : Int64) + s1) + s2)) :: own_BU a3 (.ref b7) (.int (3000 : Int32)) (.long (200000 : Int64)) :: []) ([]) := H356
        have H357 := H356.frontO 1 rfl
        replace H357 : own_H Z h308 (own_BU a3 (.ref b7) (.int (3000 : Int32)) (.long (200000 : Int64)) :: own_SP b7 (.int (2 : Int32)) (.long (((0 : Int64) + s1) + s2)) :: []) ([]) := H357
        refine own_virtual K own_d8_116 (own_w52 hw) (own_w53 hw) (own_w55 hw) (own_w54 hw) (own_w3 hw) (own_w56 hw) (H357.atO (i := 0) rfl) (a := a3) (argsL := []) (rest := []) (own_half hw H357 (pl' := (1501 : Int32)) (by decide)) own_pd6 rfl rfl rfl (by decide) (W := 0) (Nat.le_of_eq rfl) (by decide) (by decide) (by decide) (by decide) ?_
        intro v360 h358 q359
        obtain ⟨c361, rfl, H362⟩ := q359
        replace H362 : own_H Z h358 (own_BU c361 (.ref b7) (.int (1501 : Int32)) (.long ((((0 : Int64) + s1) + s2) + (((200000 : Int64) - (((0 : Int64) + s1) + s2)) / (2 : Int64)))) :: own_BU a3 (.ref b7) (.int (3000 : Int32)) (.long (200000 : Int64)) :: own_SP b7 (.int (2 : Int32)) (.long (((0 : Int64) + s1) + s2)) :: []) ([]) := H362
        refine own_astore K own_d8_119 rfl (Ls' := #[.val (.long x), .second, .val (.long y), .second, .val (.int ia), .val (.int ib), .val (.int ic), .val (.int fl), .val (.long s1), .second, .val (.long s2), .second, .val (.long s3), .second, .val (.long (2 : Int64)), .second, .val (.long (((0 : Int64) + s1) + s2)), .second, .val (.ref a3), .val (.ref c361), .val (.long (3000 : Int64)), .second, .val (.long (200000 : Int64)), .second, .unset]) rfl ?_
        refine own_lload K own_d8_121 rfl ?_
        refine own_ldc2J K own_d8_123 (v := (3000 : Int64)) (own_w36 hw) ?_
        refine own_lload K own_d8_126 rfl ?_
        refine own_lsub K own_d8_128 ?_
        refine own_topL (x' := (2998 : Int64)) (by decide) ?_
        refine own_ldc2J K own_d8_129 (v := (2 : Int64)) (own_w59 hw) ?_
        refine own_ldiv K own_d8_132 (by decide) ?_
        refine own_topL (x' := (1499 : Int64)) (by decide) ?_
        refine own_ladd K own_d8_133 ?_
        refine own_topL (x' := (1501 : Int64)) (by decide) ?_
        refine own_lstore K own_d8_134 (Ls' := #[.val (.long x), .second, .val (.long y), .second, .val (.int ia), .val (.int ib), .val (.int ic), .val (.int fl), .val (.long s1), .second, .val (.long s2), .second, .val (.long s3), .second, .val (.long (2 : Int64)), .second, .val (.long (((0 : Int64) + s1) + s2)), .second, .val (.ref a3), .val (.ref c361), .val (.long (1501 : Int64)), .second, .val (.long (200000 : Int64)), .second, .unset]) rfl ?_
        refine own_lload K own_d8_136 rfl ?_
        refine own_ldc2J K own_d8_138 (v := (200000 : Int64)) (own_w37 hw) ?_
        refine own_lload K own_d8_141 rfl ?_
        refine own_lsub K own_d8_143 ?_
        refine own_ldc2J K own_d8_144 (v := (2 : Int64)) (own_w59 hw) ?_
        refine own_ldiv K own_d8_147 (by decide) ?_
        refine own_ladd K own_d8_148 ?_
        refine own_lstore K own_d8_149 (Ls' := #[.val (.long x), .second, .val (.long y), .second, .val (.int ia), .val (.int ib), .val (.int ic), .val (.int fl), .val (.long s1), .second, .val (.long s2), .second, .val (.long s3), .second, .val (.long (2 : Int64)), .second, .val (.long (((0 : Int64) + s1) + s2)), .second, .val (.ref a3), .val (.ref c361), .val (.long (1501 : Int64)), .second, .val (.long ((((0 : Int64) + s1) + s2) + (((200000 : Int64) - (((0 : Int64) + s1) + s2)) / (2 : Int64)))), .second, .unset]) rfl ?_
        refine own_iload K own_d8_151 rfl ?_
        refine own_bipush K own_d8_153 (v := (8 : Int32)) rfl ?_
        refine own_iand K own_d8_155 ?_
        refine own_ifeq K own_d8_156 (fun f363 => ?_) (fun f363 => ?_)
        · refine own_lloadN K own_d8_179 rfl ?_
          refine own_lload K own_d8_180 rfl ?_
          refine own_lload K own_d8_182 rfl ?_
          refine own_lsub K own_d8_184 ?_
          refine own_topL (x' := (1499 : Int64)) (by decide) ?_
          refine own_lcmp K own_d8_185 ?_
          refine own_ifgt K own_d8_186 (fun gP => ?_) (fun gP => ?_)
          · refine own_iconst K own_d8_206 (v := (0 : Int32)) rfl ?_
            refine own_istore K own_d8_207 (Ls' := #[.val (.long x), .second, .val (.long y), .second, .val (.int ia), .val (.int ib), .val (.int ic), .val (.int fl), .val (.long s1), .second, .val (.long s2), .second, .val (.long s3), .second, .val (.long (2 : Int64)), .second, .val (.long (((0 : Int64) + s1) + s2)), .second, .val (.ref a3), .val (.ref c361), .val (.long (1501 : Int64)), .second, .val (.long ((((0 : Int64) + s1) + s2) + (((200000 : Int64) - (((0 : Int64) + s1) + s2)) / (2 : Int64)))), .second, .val (.int (0 : Int32))]) rfl ?_
            refine own_aload K own_d8_209 rfl rfl ?_
            refine own_lloadN K own_d8_211 rfl ?_
            refine own_lloadN K own_d8_212 rfl ?_
            have H364 := H362.frontO 2 rfl
            replace H364 : own_H Z h358 (own_SP b7 (.int (2 : Int32)) (.long (((0 : Int64) + s1) + s2)) :: own_BU c361 (.ref b7) (.int (1501 : Int32)) (.long ((((0 : Int64) + s1) + s2) + (((200000 : Int64) - (((0 : Int64) + s1) + s2)) / (2 : Int64)))) :: own_BU a3 (.ref b7) (.int (3000 : Int32)) (.long (200000 : Int64)) :: []) ([]) := H364
            have H365 := H364.frontO 1 rfl
            replace H365 : own_H Z h358 (own_BU c361 (.ref b7) (.int (1501 : Int32)) (.long ((((0 : Int64) + s1) + s2) + (((200000 : Int64) - (((0 : Int64) + s1) + s2)) / (2 : Int64)))) :: own_SP b7 (.int (2 : Int32)) (.long (((0 : Int64) + s1) + s2)) :: own_BU a3 (.ref b7) (.int (3000 : Int32)) (.long (200000 : Int64)) :: []) ([]) := H365
            refine own_virtual K own_d8_213 (own_w47 hw) (own_w48 hw) (own_w50 hw) (own_w49 hw) (own_w3 hw) (own_w51 hw) (H365.atO (i := 0) rfl) (a := c361) (argsL := [(.long x), (.long y)]) (rest := []) (own_aff hw H365 ((own_small.sub (own_small.add (own_small.add (own_small.add (show own_small 0 (0 : Int64) by unfold own_small; decide) hs1 (by decide) (by decide)) hs2 (by decide) (by decide)) (own_small.div2 (own_small.sub (show own_small 200000 (200000 : Int64) by unfold own_small; decide) (own_small.add (own_small.add (show own_small 0 (0 : Int64) by unfold own_small; decide) hs1 (by decide) (by decide)) hs2 (by decide) (by decide)) (by decide) (by decide)) (by decide)) (by decide) (by decide)) (own_small.add (own_small.add (show own_small 0 (0 : Int64) by unfold own_small; decide) hs1 (by decide) (by decide)) hs2 (by decide) (by decide)) (by decide) (by decide)).mono (by decide))) own_pd3 rfl rfl rfl (by decide) (W := 0) (Nat.le_of_eq rfl) (by decide) (by decide) (by decide) (by decide) ?_
            intro v368 h366 q367
            obtain ⟨rfl, rfl⟩ := q367
            have lim : (((1501 : Int32) : Int32) - (2 : Int32)).toInt = 1499 := by decide
            have lim2 : (1499 : Int64).toInt = 1499 := by decide
            rw [own_cl_gt, lim2] at gP
            have fin : (if x.toInt ≤ ((1501 : Int32) - (2 : Int32)).toInt ∧ x.toInt * y.toInt ≤ (((((0 : Int64) + s1) + s2) + (((200000 : Int64) - (((0 : Int64) + s1) + s2)) / (2 : Int64))) - (((0 : Int64) + s1) + s2)).toInt then (1 : Int32) else 0) = 0 := if_neg fun z => by rw [lim] at z; omega
            refine own_topI (x' := (0 : Int32)) (fin) ?_
            refine own_iload K own_d8_216 rfl ?_
            refine own_icmpne K own_d8_218 (fun q => absurd q (by decide)) (fun _ => ?_)
            refine own_iconst K own_d8_221 (v := (1 : Int32)) rfl ?_
            refine own_goto K own_d8_222 ?_
            exact own_retZ K (by first | exact Or.inl rfl | exact Or.inr rfl | decide) own_d8_226 (by decide) (by decide) (rfl)
          · refine own_lloadN K own_d8_189 rfl ?_
            refine own_lloadN K own_d8_190 rfl ?_
            refine own_lload K own_d8_191 rfl ?_
            refine own_lload K own_d8_193 rfl ?_
            refine own_lsub K own_d8_195 ?_
            refine own_static K own_d8_196 (own_w38 hw) (own_w39 hw) (own_w40 hw) (own_w41 hw) (argsL := [(.long x), (.long y), (.long (((((0 : Int64) + s1) + s2) + (((200000 : Int64) - (((0 : Int64) + s1) + s2)) / (2 : Int64))) - (((0 : Int64) + s1) + s2)))]) (rest := []) (own_pm hw ((own_small.sub (own_small.add (own_small.add (own_small.add (show own_small 0 (0 : Int64) by unfold own_small; decide) hs1 (by decide) (by decide)) hs2 (by decide) (by decide)) (own_small.div2 (own_small.sub (show own_small 200000 (200000 : Int64) by unfold own_small; decide) (own_small.add (own_small.add (show own_small 0 (0 : Int64) by unfold own_small; decide) hs1 (by decide) (by decide)) hs2 (by decide) (by decide)) (by decide) (by decide)) (by decide)) (by decide) (by decide)) (own_small.add (own_small.add (show own_small 0 (0 : Int64) by unfold own_small; decide) hs1 (by decide) (by decide)) hs2 (by decide) (by decide)) (by decide) (by decide)).mono (by decide))) own_pd4 rfl rfl rfl (by decide) (W := 0) (Nat.le_of_eq rfl) (by decide) (by decide) (by decide) (by decide) ?_
            intro v371 h369 q370
            obtain ⟨rfl, rfl⟩ := q370
            refine own_ifeq K own_d8_199 (fun gW => ?_) (fun gW => ?_)
            · refine own_iconst K own_d8_206 (v := (0 : Int32)) rfl ?_
              refine own_istore K own_d8_207 (Ls' := #[.val (.long x), .second, .val (.long y), .second, .val (.int ia), .val (.int ib), .val (.int ic), .val (.int fl), .val (.long s1), .second, .val (.long s2), .second, .val (.long s3), .second, .val (.long (2 : Int64)), .second, .val (.long (((0 : Int64) + s1) + s2)), .second, .val (.ref a3), .val (.ref c361), .val (.long (1501 : Int64)), .second, .val (.long ((((0 : Int64) + s1) + s2) + (((200000 : Int64) - (((0 : Int64) + s1) + s2)) / (2 : Int64)))), .second, .val (.int (0 : Int32))]) rfl ?_
              refine own_aload K own_d8_209 rfl rfl ?_
              refine own_lloadN K own_d8_211 rfl ?_
              refine own_lloadN K own_d8_212 rfl ?_
              have H372 := H362.frontO 2 rfl
              replace H372 : own_H Z h358 (own_SP b7 (.int (2 : Int32)) (.long (((0 : Int64) + s1) + s2)) :: own_BU c361 (.ref b7) (.int (1501 : Int32)) (.long ((((0 : Int64) + s1) + s2) + (((200000 : Int64) - (((0 : Int64) + s1) + s2)) / (2 : Int64)))) :: own_BU a3 (.ref b7) (.int (3000 : Int32)) (.long (200000 : Int64)) :: []) ([]) := H372
              have H373 := H372.frontO 1 rfl
              replace H373 : own_H Z h358 (own_BU c361 (.ref b7) (.int (1501 : Int32)) (.long ((((0 : Int64) + s1) + s2) + (((200000 : Int64) - (((0 : Int64) + s1) + s2)) / (2 : Int64)))) :: own_SP b7 (.int (2 : Int32)) (.long (((0 : Int64) + s1) + s2)) :: own_BU a3 (.ref b7) (.int (3000 : Int32)) (.long (200000 : Int64)) :: []) ([]) := H373
              refine own_virtual K own_d8_213 (own_w47 hw) (own_w48 hw) (own_w50 hw) (own_w49 hw) (own_w3 hw) (own_w51 hw) (H373.atO (i := 0) rfl) (a := c361) (argsL := [(.long x), (.long y)]) (rest := []) (own_aff hw H373 ((own_small.sub (own_small.add (own_small.add (own_small.add (show own_small 0 (0 : Int64) by unfold own_small; decide) hs1 (by decide) (by decide)) hs2 (by decide) (by decide)) (own_small.div2 (own_small.sub (show own_small 200000 (200000 : Int64) by unfold own_small; decide) (own_small.add (own_small.add (show own_small 0 (0 : Int64) by unfold own_small; decide) hs1 (by decide) (by decide)) hs2 (by decide) (by decide)) (by decide) (by decide)) (by decide)) (by decide) (by decide)) (own_small.add (own_small.add (show own_small 0 (0 : Int64) by unfold own_small; decide) hs1 (by decide) (by decide)) hs2 (by decide) (by decide)) (by decide) (by decide)).mono (by decide))) own_pd3 rfl rfl rfl (by decide) (W := 0) (Nat.le_of_eq rfl) (by decide) (by decide) (by decide) (by decide) ?_
              intro v376 h374 q375
              obtain ⟨rfl, rfl⟩ := q375
              have lim : (((1501 : Int32) : Int32) - (2 : Int32)).toInt = 1499 := by decide
              have lim2 : (1499 : Int64).toInt = 1499 := by decide
              rw [own_cl_gt, lim2] at gP
              have fin : (if x.toInt ≤ ((1501 : Int32) - (2 : Int32)).toInt ∧ x.toInt * y.toInt ≤ (((((0 : Int64) + s1) + s2) + (((200000 : Int64) - (((0 : Int64) + s1) + s2)) / (2 : Int64))) - (((0 : Int64) + s1) + s2)).toInt then (1 : Int32) else 0) = 0 := if_neg fun z => absurd (show (if x.toInt * y.toInt ≤ (((((0 : Int64) + s1) + s2) + (((200000 : Int64) - (((0 : Int64) + s1) + s2)) / (2 : Int64))) - (((0 : Int64) + s1) + s2)).toInt then (1 : Int32) else 0) = 0 from gW) (by rw [if_pos z.2]; decide)
              refine own_topI (x' := (0 : Int32)) (fin) ?_
              refine own_iload K own_d8_216 rfl ?_
              refine own_icmpne K own_d8_218 (fun q => absurd q (by decide)) (fun _ => ?_)
              refine own_iconst K own_d8_221 (v := (1 : Int32)) rfl ?_
              refine own_goto K own_d8_222 ?_
              exact own_retZ K (by first | exact Or.inl rfl | exact Or.inr rfl | decide) own_d8_226 (by decide) (by decide) (rfl)
            · refine own_iconst K own_d8_202 (v := (1 : Int32)) rfl ?_
              refine own_goto K own_d8_203 ?_
              refine own_istore K own_d8_207 (Ls' := #[.val (.long x), .second, .val (.long y), .second, .val (.int ia), .val (.int ib), .val (.int ic), .val (.int fl), .val (.long s1), .second, .val (.long s2), .second, .val (.long s3), .second, .val (.long (2 : Int64)), .second, .val (.long (((0 : Int64) + s1) + s2)), .second, .val (.ref a3), .val (.ref c361), .val (.long (1501 : Int64)), .second, .val (.long ((((0 : Int64) + s1) + s2) + (((200000 : Int64) - (((0 : Int64) + s1) + s2)) / (2 : Int64)))), .second, .val (.int (1 : Int32))]) rfl ?_
              refine own_aload K own_d8_209 rfl rfl ?_
              refine own_lloadN K own_d8_211 rfl ?_
              refine own_lloadN K own_d8_212 rfl ?_
              have H377 := H362.frontO 2 rfl
              replace H377 : own_H Z h358 (own_SP b7 (.int (2 : Int32)) (.long (((0 : Int64) + s1) + s2)) :: own_BU c361 (.ref b7) (.int (1501 : Int32)) (.long ((((0 : Int64) + s1) + s2) + (((200000 : Int64) - (((0 : Int64) + s1) + s2)) / (2 : Int64)))) :: own_BU a3 (.ref b7) (.int (3000 : Int32)) (.long (200000 : Int64)) :: []) ([]) := H377
              have H378 := H377.frontO 1 rfl
              replace H378 : own_H Z h358 (own_BU c361 (.ref b7) (.int (1501 : Int32)) (.long ((((0 : Int64) + s1) + s2) + (((200000 : Int64) - (((0 : Int64) + s1) + s2)) / (2 : Int64)))) :: own_SP b7 (.int (2 : Int32)) (.long (((0 : Int64) + s1) + s2)) :: own_BU a3 (.ref b7) (.int (3000 : Int32)) (.long (200000 : Int64)) :: []) ([]) := H378
              refine own_virtual K own_d8_213 (own_w47 hw) (own_w48 hw) (own_w50 hw) (own_w49 hw) (own_w3 hw) (own_w51 hw) (H378.atO (i := 0) rfl) (a := c361) (argsL := [(.long x), (.long y)]) (rest := []) (own_aff hw H378 ((own_small.sub (own_small.add (own_small.add (own_small.add (show own_small 0 (0 : Int64) by unfold own_small; decide) hs1 (by decide) (by decide)) hs2 (by decide) (by decide)) (own_small.div2 (own_small.sub (show own_small 200000 (200000 : Int64) by unfold own_small; decide) (own_small.add (own_small.add (show own_small 0 (0 : Int64) by unfold own_small; decide) hs1 (by decide) (by decide)) hs2 (by decide) (by decide)) (by decide) (by decide)) (by decide)) (by decide) (by decide)) (own_small.add (own_small.add (show own_small 0 (0 : Int64) by unfold own_small; decide) hs1 (by decide) (by decide)) hs2 (by decide) (by decide)) (by decide) (by decide)).mono (by decide))) own_pd3 rfl rfl rfl (by decide) (W := 0) (Nat.le_of_eq rfl) (by decide) (by decide) (by decide) (by decide) ?_
              intro v381 h379 q380
              obtain ⟨rfl, rfl⟩ := q380
              have lim : (((1501 : Int32) : Int32) - (2 : Int32)).toInt = 1499 := by decide
              have lim2 : (1499 : Int64).toInt = 1499 := by decide
              rw [own_cl_gt, lim2] at gP
              have fin : (if x.toInt ≤ ((1501 : Int32) - (2 : Int32)).toInt ∧ x.toInt * y.toInt ≤ (((((0 : Int64) + s1) + s2) + (((200000 : Int64) - (((0 : Int64) + s1) + s2)) / (2 : Int64))) - (((0 : Int64) + s1) + s2)).toInt then (1 : Int32) else 0) = 1 := if_pos ⟨by rw [lim]; omega, Decidable.byContradiction fun z => gW (if_neg z)⟩
              refine own_topI (x' := (1 : Int32)) (fin) ?_
              refine own_iload K own_d8_216 rfl ?_
              refine own_icmpne K own_d8_218 (fun q => absurd q (by decide)) (fun _ => ?_)
              refine own_iconst K own_d8_221 (v := (1 : Int32)) rfl ?_
              refine own_goto K own_d8_222 ?_
              exact own_retZ K (by first | exact Or.inl rfl | exact Or.inr rfl | decide) own_d8_226 (by decide) (by decide) (rfl)
        · refine own_aload K own_d8_159 rfl rfl ?_
          refine own_lload K own_d8_161 rfl ?_
          have H382 := H362.frontO 2 rfl
          replace H382 : own_H Z h358 (own_SP b7 (.int (2 : Int32)) (.long (((0 : Int64) + s1) + s2)) :: own_BU c361 (.ref b7) (.int (1501 : Int32)) (.long ((((0 : Int64) + s1) + s2) + (((200000 : Int64) - (((0 : Int64) + s1) + s2)) / (2 : Int64)))) :: own_BU a3 (.ref b7) (.int (3000 : Int32)) (.long (200000 : Int64)) :: []) ([]) := H382
          have H383 := H382.frontO 2 rfl
          replace H383 : own_H Z h358 (own_BU a3 (.ref b7) (.int (3000 : Int32)) (.long (200000 : Int64)) :: own_SP b7 (.int (2 : Int32)) (.long (((0 : Int64) + s1) + s2)) :: own_BU c361 (.ref b7) (.int (1501 : Int32)) (.long ((((0 : Int64) + s1) + s2) + (((200000 : Int64) - (((0 : Int64) + s1) + s2)) / (2 : Int64)))) :: []) ([]) := H383
          refine own_virtual K own_d8_163 (own_w27 hw) (own_w28 hw) (own_w30 hw) (own_w29 hw) (own_w3 hw) (own_w31 hw) (H383.atO (i := 0) rfl) (a := a3) (argsL := [(.long s3)]) (rest := []) (own_spend hw H383 (sp' := (3 : Int32)) (by decide)) own_pd5 rfl rfl rfl (by decide) (W := 0) (Nat.le_of_eq rfl) (by decide) (by decide) (by decide) (by decide) ?_
          intro v386 h384 q385
          obtain ⟨rfl, H387⟩ := q385
          replace H387 : own_H Z h384 (own_BU a3 (.ref b7) (.int (3000 : Int32)) (.long (200000 : Int64)) :: own_SP b7 (.int (3 : Int32)) (.long ((((0 : Int64) + s1) + s2) + s3)) :: own_BU c361 (.ref b7) (.int (1501 : Int32)) (.long ((((0 : Int64) + s1) + s2) + (((200000 : Int64) - (((0 : Int64) + s1) + s2)) / (2 : Int64)))) :: []) ([]) := H387
          refine own_lload K own_d8_166 rfl ?_
          refine own_lconst K own_d8_168 (v := (1 : Int64)) rfl ?_
          refine own_ladd K own_d8_169 ?_
          refine own_topL (x' := (3 : Int64)) (by decide) ?_
          refine own_lstore K own_d8_170 (Ls' := #[.val (.long x), .second, .val (.long y), .second, .val (.int ia), .val (.int ib), .val (.int ic), .val (.int fl), .val (.long s1), .second, .val (.long s2), .second, .val (.long s3), .second, .val (.long (3 : Int64)), .second, .val (.long (((0 : Int64) + s1) + s2)), .second, .val (.ref a3), .val (.ref c361), .val (.long (1501 : Int64)), .second, .val (.long ((((0 : Int64) + s1) + s2) + (((200000 : Int64) - (((0 : Int64) + s1) + s2)) / (2 : Int64)))), .second, .unset]) rfl ?_
          refine own_lload K own_d8_172 rfl ?_
          refine own_lload K own_d8_174 rfl ?_
          refine own_ladd K own_d8_176 ?_
          refine own_lstore K own_d8_177 (Ls' := #[.val (.long x), .second, .val (.long y), .second, .val (.int ia), .val (.int ib), .val (.int ic), .val (.int fl), .val (.long s1), .second, .val (.long s2), .second, .val (.long s3), .second, .val (.long (3 : Int64)), .second, .val (.long ((((0 : Int64) + s1) + s2) + s3)), .second, .val (.ref a3), .val (.ref c361), .val (.long (1501 : Int64)), .second, .val (.long ((((0 : Int64) + s1) + s2) + (((200000 : Int64) - (((0 : Int64) + s1) + s2)) / (2 : Int64)))), .second, .unset]) rfl ?_
          refine own_lloadN K own_d8_179 rfl ?_
          refine own_lload K own_d8_180 rfl ?_
          refine own_lload K own_d8_182 rfl ?_
          refine own_lsub K own_d8_184 ?_
          refine own_topL (x' := (1498 : Int64)) (by decide) ?_
          refine own_lcmp K own_d8_185 ?_
          refine own_ifgt K own_d8_186 (fun gP => ?_) (fun gP => ?_)
          · refine own_iconst K own_d8_206 (v := (0 : Int32)) rfl ?_
            refine own_istore K own_d8_207 (Ls' := #[.val (.long x), .second, .val (.long y), .second, .val (.int ia), .val (.int ib), .val (.int ic), .val (.int fl), .val (.long s1), .second, .val (.long s2), .second, .val (.long s3), .second, .val (.long (3 : Int64)), .second, .val (.long ((((0 : Int64) + s1) + s2) + s3)), .second, .val (.ref a3), .val (.ref c361), .val (.long (1501 : Int64)), .second, .val (.long ((((0 : Int64) + s1) + s2) + (((200000 : Int64) - (((0 : Int64) + s1) + s2)) / (2 : Int64)))), .second, .val (.int (0 : Int32))]) rfl ?_
            refine own_aload K own_d8_209 rfl rfl ?_
            refine own_lloadN K own_d8_211 rfl ?_
            refine own_lloadN K own_d8_212 rfl ?_
            have H388 := H387.frontO 1 rfl
            replace H388 : own_H Z h384 (own_SP b7 (.int (3 : Int32)) (.long ((((0 : Int64) + s1) + s2) + s3)) :: own_BU a3 (.ref b7) (.int (3000 : Int32)) (.long (200000 : Int64)) :: own_BU c361 (.ref b7) (.int (1501 : Int32)) (.long ((((0 : Int64) + s1) + s2) + (((200000 : Int64) - (((0 : Int64) + s1) + s2)) / (2 : Int64)))) :: []) ([]) := H388
            have H389 := H388.frontO 2 rfl
            replace H389 : own_H Z h384 (own_BU c361 (.ref b7) (.int (1501 : Int32)) (.long ((((0 : Int64) + s1) + s2) + (((200000 : Int64) - (((0 : Int64) + s1) + s2)) / (2 : Int64)))) :: own_SP b7 (.int (3 : Int32)) (.long ((((0 : Int64) + s1) + s2) + s3)) :: own_BU a3 (.ref b7) (.int (3000 : Int32)) (.long (200000 : Int64)) :: []) ([]) := H389
            refine own_virtual K own_d8_213 (own_w47 hw) (own_w48 hw) (own_w50 hw) (own_w49 hw) (own_w3 hw) (own_w51 hw) (H389.atO (i := 0) rfl) (a := c361) (argsL := [(.long x), (.long y)]) (rest := []) (own_aff hw H389 ((own_small.sub (own_small.add (own_small.add (own_small.add (show own_small 0 (0 : Int64) by unfold own_small; decide) hs1 (by decide) (by decide)) hs2 (by decide) (by decide)) (own_small.div2 (own_small.sub (show own_small 200000 (200000 : Int64) by unfold own_small; decide) (own_small.add (own_small.add (show own_small 0 (0 : Int64) by unfold own_small; decide) hs1 (by decide) (by decide)) hs2 (by decide) (by decide)) (by decide) (by decide)) (by decide)) (by decide) (by decide)) (own_small.add (own_small.add (own_small.add (show own_small 0 (0 : Int64) by unfold own_small; decide) hs1 (by decide) (by decide)) hs2 (by decide) (by decide)) hs3 (by decide) (by decide)) (by decide) (by decide)).mono (by decide))) own_pd3 rfl rfl rfl (by decide) (W := 0) (Nat.le_of_eq rfl) (by decide) (by decide) (by decide) (by decide) ?_
            intro v392 h390 q391
            obtain ⟨rfl, rfl⟩ := q391
            have lim : (((1501 : Int32) : Int32) - (3 : Int32)).toInt = 1498 := by decide
            have lim2 : (1498 : Int64).toInt = 1498 := by decide
            rw [own_cl_gt, lim2] at gP
            have fin : (if x.toInt ≤ ((1501 : Int32) - (3 : Int32)).toInt ∧ x.toInt * y.toInt ≤ (((((0 : Int64) + s1) + s2) + (((200000 : Int64) - (((0 : Int64) + s1) + s2)) / (2 : Int64))) - ((((0 : Int64) + s1) + s2) + s3)).toInt then (1 : Int32) else 0) = 0 := if_neg fun z => by rw [lim] at z; omega
            refine own_topI (x' := (0 : Int32)) (fin) ?_
            refine own_iload K own_d8_216 rfl ?_
            refine own_icmpne K own_d8_218 (fun q => absurd q (by decide)) (fun _ => ?_)
            refine own_iconst K own_d8_221 (v := (1 : Int32)) rfl ?_
            refine own_goto K own_d8_222 ?_
            exact own_retZ K (by first | exact Or.inl rfl | exact Or.inr rfl | decide) own_d8_226 (by decide) (by decide) (rfl)
          · refine own_lloadN K own_d8_189 rfl ?_
            refine own_lloadN K own_d8_190 rfl ?_
            refine own_lload K own_d8_191 rfl ?_
            refine own_lload K own_d8_193 rfl ?_
            refine own_lsub K own_d8_195 ?_
            refine own_static K own_d8_196 (own_w38 hw) (own_w39 hw) (own_w40 hw) (own_w41 hw) (argsL := [(.long x), (.long y), (.long (((((0 : Int64) + s1) + s2) + (((200000 : Int64) - (((0 : Int64) + s1) + s2)) / (2 : Int64))) - ((((0 : Int64) + s1) + s2) + s3)))]) (rest := []) (own_pm hw ((own_small.sub (own_small.add (own_small.add (own_small.add (show own_small 0 (0 : Int64) by unfold own_small; decide) hs1 (by decide) (by decide)) hs2 (by decide) (by decide)) (own_small.div2 (own_small.sub (show own_small 200000 (200000 : Int64) by unfold own_small; decide) (own_small.add (own_small.add (show own_small 0 (0 : Int64) by unfold own_small; decide) hs1 (by decide) (by decide)) hs2 (by decide) (by decide)) (by decide) (by decide)) (by decide)) (by decide) (by decide)) (own_small.add (own_small.add (own_small.add (show own_small 0 (0 : Int64) by unfold own_small; decide) hs1 (by decide) (by decide)) hs2 (by decide) (by decide)) hs3 (by decide) (by decide)) (by decide) (by decide)).mono (by decide))) own_pd4 rfl rfl rfl (by decide) (W := 0) (Nat.le_of_eq rfl) (by decide) (by decide) (by decide) (by decide) ?_
            intro v395 h393 q394
            obtain ⟨rfl, rfl⟩ := q394
            refine own_ifeq K own_d8_199 (fun gW => ?_) (fun gW => ?_)
            · refine own_iconst K own_d8_206 (v := (0 : Int32)) rfl ?_
              refine own_istore K own_d8_207 (Ls' := #[.val (.long x), .second, .val (.long y), .second, .val (.int ia), .val (.int ib), .val (.int ic), .val (.int fl), .val (.long s1), .second, .val (.long s2), .second, .val (.long s3), .second, .val (.long (3 : Int64)), .second, .val (.long ((((0 : Int64) + s1) + s2) + s3)), .second, .val (.ref a3), .val (.ref c361), .val (.long (1501 : Int64)), .second, .val (.long ((((0 : Int64) + s1) + s2) + (((200000 : Int64) - (((0 : Int64) + s1) + s2)) / (2 : Int64)))), .second, .val (.int (0 : Int32))]) rfl ?_
              refine own_aload K own_d8_209 rfl rfl ?_
              refine own_lloadN K own_d8_211 rfl ?_
              refine own_lloadN K own_d8_212 rfl ?_
              have H396 := H387.frontO 1 rfl
              replace H396 : own_H Z h384 (own_SP b7 (.int (3 : Int32)) (.long ((((0 : Int64) + s1) + s2) + s3)) :: own_BU a3 (.ref b7) (.int (3000 : Int32)) (.long (200000 : Int64)) :: own_BU c361 (.ref b7) (.int (1501 : Int32)) (.long ((((0 : Int64) + s1) + s2) + (((200000 : Int64) - (((0 : Int64) + s1) + s2)) / (2 : Int64)))) :: []) ([]) := H396
              have H397 := H396.frontO 2 rfl
              replace H397 : own_H Z h384 (own_BU c361 (.ref b7) (.int (1501 : Int32)) (.long ((((0 : Int64) + s1) + s2) + (((200000 : Int64) - (((0 : Int64) + s1) + s2)) / (2 : Int64)))) :: own_SP b7 (.int (3 : Int32)) (.long ((((0 : Int64) + s1) + s2) + s3)) :: own_BU a3 (.ref b7) (.int (3000 : Int32)) (.long (200000 : Int64)) :: []) ([]) := H397
              refine own_virtual K own_d8_213 (own_w47 hw) (own_w48 hw) (own_w50 hw) (own_w49 hw) (own_w3 hw) (own_w51 hw) (H397.atO (i := 0) rfl) (a := c361) (argsL := [(.long x), (.long y)]) (rest := []) (own_aff hw H397 ((own_small.sub (own_small.add (own_small.add (own_small.add (show own_small 0 (0 : Int64) by unfold own_small; decide) hs1 (by decide) (by decide)) hs2 (by decide) (by decide)) (own_small.div2 (own_small.sub (show own_small 200000 (200000 : Int64) by unfold own_small; decide) (own_small.add (own_small.add (show own_small 0 (0 : Int64) by unfold own_small; decide) hs1 (by decide) (by decide)) hs2 (by decide) (by decide)) (by decide) (by decide)) (by decide)) (by decide) (by decide)) (own_small.add (own_small.add (own_small.add (show own_small 0 (0 : Int64) by unfold own_small; decide) hs1 (by decide) (by decide)) hs2 (by decide) (by decide)) hs3 (by decide) (by decide)) (by decide) (by decide)).mono (by decide))) own_pd3 rfl rfl rfl (by decide) (W := 0) (Nat.le_of_eq rfl) (by decide) (by decide) (by decide) (by decide) ?_
              intro v400 h398 q399
              obtain ⟨rfl, rfl⟩ := q399
              have lim : (((1501 : Int32) : Int32) - (3 : Int32)).toInt = 1498 := by decide
              have lim2 : (1498 : Int64).toInt = 1498 := by decide
              rw [own_cl_gt, lim2] at gP
              have fin : (if x.toInt ≤ ((1501 : Int32) - (3 : Int32)).toInt ∧ x.toInt * y.toInt ≤ (((((0 : Int64) + s1) + s2) + (((200000 : Int64) - (((0 : Int64) + s1) + s2)) / (2 : Int64))) - ((((0 : Int64) + s1) + s2) + s3)).toInt then (1 : Int32) else 0) = 0 := if_neg fun z => absurd (show (if x.toInt * y.toInt ≤ (((((0 : Int64) + s1) + s2) + (((200000 : Int64) - (((0 : Int64) + s1) + s2)) / (2 : Int64))) - ((((0 : Int64) + s1) + s2) + s3)).toInt then (1 : Int32) else 0) = 0 from gW) (by rw [if_pos z.2]; decide)
              refine own_topI (x' := (0 : Int32)) (fin) ?_
              refine own_iload K own_d8_216 rfl ?_
              refine own_icmpne K own_d8_218 (fun q => absurd q (by decide)) (fun _ => ?_)
              refine own_iconst K own_d8_221 (v := (1 : Int32)) rfl ?_
              refine own_goto K own_d8_222 ?_
              exact own_retZ K (by first | exact Or.inl rfl | exact Or.inr rfl | decide) own_d8_226 (by decide) (by decide) (rfl)
            · refine own_iconst K own_d8_202 (v := (1 : Int32)) rfl ?_
              refine own_goto K own_d8_203 ?_
              refine own_istore K own_d8_207 (Ls' := #[.val (.long x), .second, .val (.long y), .second, .val (.int ia), .val (.int ib), .val (.int ic), .val (.int fl), .val (.long s1), .second, .val (.long s2), .second, .val (.long s3), .second, .val (.long (3 : Int64)), .second, .val (.long ((((0 : Int64) + s1) + s2) + s3)), .second, .val (.ref a3), .val (.ref c361), .val (.long (1501 : Int64)), .second, .val (.long ((((0 : Int64) + s1) + s2) + (((200000 : Int64) - (((0 : Int64) + s1) + s2)) / (2 : Int64)))), .second, .val (.int (1 : Int32))]) rfl ?_
              refine own_aload K own_d8_209 rfl rfl ?_
              refine own_lloadN K own_d8_211 rfl ?_
              refine own_lloadN K own_d8_212 rfl ?_
              have H401 := H387.frontO 1 rfl
              replace H401 : own_H Z h384 (own_SP b7 (.int (3 : Int32)) (.long ((((0 : Int64) + s1) + s2) + s3)) :: own_BU a3 (.ref b7) (.int (3000 : Int32)) (.long (200000 : Int64)) :: own_BU c361 (.ref b7) (.int (1501 : Int32)) (.long ((((0 : Int64) + s1) + s2) + (((200000 : Int64) - (((0 : Int64) + s1) + s2)) / (2 : Int64)))) :: []) ([]) := H401
              have H402 := H401.frontO 2 rfl
              replace H402 : own_H Z h384 (own_BU c361 (.ref b7) (.int (1501 : Int32)) (.long ((((0 : Int64) + s1) + s2) + (((200000 : Int64) - (((0 : Int64) + s1) + s2)) / (2 : Int64)))) :: own_SP b7 (.int (3 : Int32)) (.long ((((0 : Int64) + s1) + s2) + s3)) :: own_BU a3 (.ref b7) (.int (3000 : Int32)) (.long (200000 : Int64)) :: []) ([]) := H402
              refine own_virtual K own_d8_213 (own_w47 hw) (own_w48 hw) (own_w50 hw) (own_w49 hw) (own_w3 hw) (own_w51 hw) (H402.atO (i := 0) rfl) (a := c361) (argsL := [(.long x), (.long y)]) (rest := []) (own_aff hw H402 ((own_small.sub (own_small.add (own_small.add (own_small.add (show own_small 0 (0 : Int64) by unfold own_small; decide) hs1 (by decide) (by decide)) hs2 (by decide) (by decide)) (own_small.div2 (own_small.sub (show own_small 200000 (200000 : Int64) by unfold own_small; decide) (own_small.add (own_small.add (show own_small 0 (0 : Int64) by unfold own_small; decide) hs1 (by decide) (by decide)) hs2 (by decide) (by decide)) (by decide) (by decide)) (by decide)) (by decide) (by decide)) (own_small.add (own_small.add (own_small.add (show own_small 0 (0 : Int64) by unfold own_small; decide) hs1 (by decide) (by decide)) hs2 (by decide) (by decide)) hs3 (by decide) (by decide)) (by decide) (by decide)).mono (by decide))) own_pd3 rfl rfl rfl (by decide) (W := 0) (Nat.le_of_eq rfl) (by decide) (by decide) (by decide) (by decide) ?_
              intro v405 h403 q404
              obtain ⟨rfl, rfl⟩ := q404
              have lim : (((1501 : Int32) : Int32) - (3 : Int32)).toInt = 1498 := by decide
              have lim2 : (1498 : Int64).toInt = 1498 := by decide
              rw [own_cl_gt, lim2] at gP
              have fin : (if x.toInt ≤ ((1501 : Int32) - (3 : Int32)).toInt ∧ x.toInt * y.toInt ≤ (((((0 : Int64) + s1) + s2) + (((200000 : Int64) - (((0 : Int64) + s1) + s2)) / (2 : Int64))) - ((((0 : Int64) + s1) + s2) + s3)).toInt then (1 : Int32) else 0) = 1 := if_pos ⟨by rw [lim]; omega, Decidable.byContradiction fun z => gW (if_neg z)⟩
              refine own_topI (x' := (1 : Int32)) (fin) ?_
              refine own_iload K own_d8_216 rfl ?_
              refine own_icmpne K own_d8_218 (fun q => absurd q (by decide)) (fun _ => ?_)
              refine own_iconst K own_d8_221 (v := (1 : Int32)) rfl ?_
              refine own_goto K own_d8_222 ?_
              exact own_retZ K (by first | exact Or.inl rfl | exact Or.inr rfl | decide) own_d8_226 (by decide) (by decide) (rfl)
set_option maxRecDepth 65536 in
set_option maxHeartbeats 40000000 in
theorem comes_1 {Post : Tables → Env → Array Value → State → Outcome → State → Prop} (hpost : ∀ tb e args s v u, (limb_1_1.after args s (.returned v) u = true ∧ limb_1_2.after args s (.returned v) u = true ∧ True) → FrameEnd s (.returned v) u (Jvm.fieldLocs frame_1_writes args s ++ Jvm.arrayLocs frame_1_arrays args s ++ Jvm.staticLocs frame_1_statics s) 16 128 → Post tb e args s (.returned v) u) :
    ArmFor flags0 classFile x code maxLocals ret World_1 tables_1 room_1 Calls_1 rest_1 Pre_1 Post := by
  intro l hfl _ _ p e ha hc hk s m args below hf hA hF happ hP
  obtain ⟨hcalls, hrest, hpre⟩ := hP
  obtain ⟨-, -, -, hnamed, -, -, -, hat⟩ := (Spec.applies_iff hf).mp happ
  obtain ⟨hg, hn⟩ := and_e (Cond.before_iff.mp (show (Jvm.Cond.and given_1 narrow_1).before args s = true from hpre))
  obtain ⟨h1, hq0⟩ := and_e hg
  obtain ⟨hi0, hq1⟩ := and_e hq0
  obtain ⟨hi1, hq2⟩ := and_e hq1
  obtain ⟨hi2, hq3⟩ := and_e hq2
  obtain ⟨hi3, hq4⟩ := and_e hq3
  obtain ⟨hi4, hq5⟩ := and_e hq4
  have hi5 := hq5
  obtain ⟨w0, w1, w2, w3, w4, w5, rfl⟩ : ∃ w0 w1 w2 w3 w4 w5 : Value, args = #[w0, w1, w2, w3, w4, w5] := by
    have hs : args.size = 6 := by simpa [Cond.value, given_1] using h1
    obtain ⟨L⟩ := args
    match L, hs with
    | [w0, w1, w2, w3, w4, w5], _ => exact ⟨w0, w1, w2, w3, w4, w5, rfl⟩
  have hw : own_Z s #[w0, w1, w2, w3, w4, w5] := fun d (hd : d ∈ tables_1) => atoms_spec (ws := Jvm.Cond.code x code maxLocals ret :: tables_1) hat d (List.mem_cons_of_mem _ hd)
  obtain ⟨i0, e0⟩ := isL_v hi0
  obtain rfl : w0 = (.long i0) := Option.some.inj e0
  obtain ⟨i1, e1⟩ := isL_v hi1
  obtain rfl : w1 = (.long i1) := Option.some.inj e1
  obtain ⟨i2, e2⟩ := is_v hi2
  obtain rfl : w2 = (.int i2) := Option.some.inj e2
  obtain ⟨i3, e3⟩ := is_v hi3
  obtain rfl : w3 = (.int i3) := Option.some.inj e3
  obtain ⟨i4, e4⟩ := is_v hi4
  obtain rfl : w4 = (.int i4) := Option.some.inj e4
  obtain ⟨i5, e5⟩ := is_v hi5
  obtain rfl : w5 = (.int i5) := Option.some.inj e5
  obtain ⟨n, o, h1, h2, h3, v, L, rfl, ⟨rfl, N, -⟩, hq⟩ := own_law hw p e ha hc hk s m _ below hf ((Spec.applies_iff_loose hf).mp happ).1 ⟨rfl, State.Warmed39.refl s, rfl⟩ trivial
  refine ⟨n, _, h1, h2, h3, hpost _ _ _ _ _ _ ⟨Cond.after_iff.mpr rfl, Cond.after_iff.mpr (eq_i res_at (Term.int_eval (1)) rfl), trivial⟩ ⟨hq.1, hq.2.1, (hq.2.2.sift fun y hy => Or.inr (N y hy)).mono (by decide) (by decide)⟩⟩
theorem main_1_1 : Claimed_1_1 := comes_1 fun _ _ _ _ _ _ h hF => ⟨h.1, hF⟩
theorem main_1_2 : Claimed_1_2 := comes_1 fun _ _ _ _ _ _ h hF => ⟨h.2.1, hF⟩
end Jvm.Pilot.@@N@@
namespace Jvm.Pilot.@@N@@
open Jvm Jvm.ClassFile Sem Op Lib Jvm.Free Jvm.Stand Jvm.Pilot.@@N@@.Jvm.D
/-! MADE BY PROGRAM (witnessworld.py) out of the Statement's table words and the real class files: 11 classes; the members and pool entries that the words name. The judged class is class 1, her method 2. -/
namespace start1
open Jvm.ClassFile
def u (s : String) : CpInfo := .utf8 (stringToUtf16 s)
/-- a pool by its gaps: so many unusable entries, then the entry; so many at the end -/
def gap : Nat → List CpInfo → List CpInfo
  | 0, r => r
  | n + 1, r => .unusable :: gap n r
def poolList (es : List (Nat × CpInfo)) (last : Nat) : List CpInfo := es.foldr (fun e r => gap e.1 (e.2 :: r)) (gap last [])
def pool (es : List (Nat × CpInfo)) (last : Nat) : Array CpInfo := ⟨poolList es last⟩
def fileOf (pool : Array CpInfo) (this : Nat) (attrs : Array Attribute := #[]) (ms : Array MethodInfo := #[]) (fl : Nat := 33) (sup : Nat := 0) (ifs : Array Nat := #[]) (fds : Array FieldInfo := #[]) : ClassFile where
  minorVersion := 0
  majorVersion := 65
  constantPool := pool
  accessFlags := fl
  thisClass := this
  superClass := sup
  interfaces := ifs
  fields := fds
  methods := ms
  attributes := attrs
def plain (name : String) (sup : Option ClassId) : Class where
  name := name
  kind := .ordinary
  loader := none
  accessFlags := 33
  super := sup
  interfaces := #[]
  cf := none
  fields := #[]
  methods := #[]
  instanceTypes := #[]
  staticTypes := #[]
  resolved := #[]
  callSites := []
  init := .initialized
  statics := none
  mirror := none

def pool0 : Array CpInfo := pool [(5, u "<init>"), (0, u "()V"), (1, .class_ 10), (1, u "java/lang/Object")] 113

def k0c0 : Code := { maxStack := 0, maxLocals := 1, code := object_method_1_code, exceptionTable := #[], attributes := #[] }
def k0m0 : Method := { name := "<init>", desc := "()V", sig := { parameters := [], returnType := none }, accessFlags := 1, code := some k0c0 }
/-- java/lang/Object -/
def k0 : Class := { plain "java/lang/Object" none with
  accessFlags := 33
  interfaces := #[]
  cf := some (fileOf pool0 8 #[] #[{ accessFlags := 1, nameIndex := 5, descriptorIndex := 6, attributes := #[] }] 33 0 #[] #[])
  fields := #[]
  methods := #[k0m0]
  instanceTypes := #[]
  staticTypes := #[]
  resolved := Array.replicate 124 none
  statics := none }

def pool1 : Array CpInfo := pool [(2, .class_ 4), (0, .nameAndType 5 6), (0, u "java/lang/Object"), (0, u "<init>"), (0, u "()V"), (2, .long 9223372036854775808), (1, .methodref 12 13), (0, .class_ 14), (0, .nameAndType 15 16), (0, u "java/lang/Math"), (0, u "abs"), (0, u "(J)J"), (0, .integer 131071), (0, .class_ 19), (0, u "com/example/fuseplan/fuseplan/plan/Budget"), (0, .methodref 18 3), (0, .methodref 18 22), (0, .nameAndType 23 24), (0, u "spend"), (0, u "(J)V"), (0, .long 3000), (1, .long 200000), (1, .methodref 18 30), (0, .nameAndType 31 32), (0, u "halfOfRest"), (0, u "()Lcom/example/fuseplan/fuseplan/plan/Budget;"), (0, .long 2), (1, .methodref 36 37), (0, .class_ 38), (0, .nameAndType 39 40), (0, u "com/example/fuseplan/fuseplan/plan/BudgetAffordsPinLaw"), (0, u "productAtMost"), (0, u "(JJJ)Z"), (0, .methodref 18 42), (0, .nameAndType 43 44), (0, u "affords"), (0, u "(JJ)Z"), (3, u "law"), (0, u "(JJIIII)Z")] 2

def k1m0 : Method := { name := "<init>", desc := "()V", sig := { parameters := [], returnType := none }, accessFlags := 2, code := none }
def k1c1 : Code := { maxStack := 6, maxLocals := 11, code := method_2_code, exceptionTable := #[], attributes := #[] }
def k1m1 : Method := { name := "productAtMost", desc := "(JJJ)Z", sig := { parameters := [.long, .long, .long], returnType := some .boolean }, accessFlags := 10, code := some k1c1 }
def k1c2 : Code := { maxStack := 8, maxLocals := 25, code := code, exceptionTable := #[], attributes := #[] }
def k1m2 : Method := { name := "law", desc := "(JJIIII)Z", sig := { parameters := [.long, .long, .int, .int, .int, .int], returnType := some .boolean }, accessFlags := 9, code := some k1c2 }
/-- com/example/fuseplan/fuseplan/plan/BudgetAffordsPinLaw -/
def k1 : Class := { plain "com/example/fuseplan/fuseplan/plan/BudgetAffordsPinLaw" (some 0) with
  accessFlags := 49
  interfaces := #[]
  cf := some (fileOf pool1 36 #[] #[{ accessFlags := 2, nameIndex := 5, descriptorIndex := 6, attributes := #[] }, { accessFlags := 10, nameIndex := 39, descriptorIndex := 40, attributes := #[] }, { accessFlags := 9, nameIndex := 48, descriptorIndex := 49, attributes := #[] }] 49 2 #[] #[])
  fields := #[]
  methods := #[k1m0, k1m1, k1m2]
  instanceTypes := #[]
  staticTypes := #[]
  resolved := Array.replicate 52 none
  statics := none }

def pool2 : Array CpInfo := pool [(1, .class_ 2), (0, u "com/example/fuseplan/fuseplan/plan/Budget$Spent"), (0, .methodref 1 4), (0, .nameAndType 5 6), (0, u "<init>"), (0, u "()V"), (0, .class_ 8), (0, u "com/example/fuseplan/fuseplan/plan/Budget"), (0, .long 200000), (1, .methodref 7 12), (0, .nameAndType 5 13), (0, u "(Lcom/example/fuseplan/fuseplan/plan/Budget$Spent;IJ)V"), (0, .methodref 15 4), (0, .class_ 16), (0, u "java/lang/Object"), (0, .fieldref 7 18), (0, .nameAndType 19 20), (0, u "spent"), (0, u "Lcom/example/fuseplan/fuseplan/plan/Budget$Spent;"), (0, .fieldref 7 22), (0, .nameAndType 23 24), (0, u "plans"), (0, u "I"), (0, .fieldref 7 26), (0, .nameAndType 27 28), (0, u "work"), (0, u "J"), (0, .fieldref 1 22), (0, .fieldref 1 26), (0, .long 2), (1, u "MAX_PLANS"), (2, u "MAX_WORK"), (2, u "halfOfRest"), (0, u "()Lcom/example/fuseplan/fuseplan/plan/Budget;"), (2, u "affords"), (0, u "(JJ)Z"), (0, u "spend"), (0, u "(J)V")] 5

def k2c0 : Code := { maxStack := 5, maxLocals := 1, code := prog_83_method_1_code, exceptionTable := #[], attributes := #[] }
def k2m0 : Method := { name := "<init>", desc := "()V", sig := { parameters := [], returnType := none }, accessFlags := 1, code := some k2c0 }
def k2c1 : Code := { maxStack := 3, maxLocals := 5, code := prog_83_method_2_code, exceptionTable := #[], attributes := #[] }
def k2m1 : Method := { name := "<init>", desc := "(Lcom/example/fuseplan/fuseplan/plan/Budget$Spent;IJ)V", sig := { parameters := [(.object "com/example/fuseplan/fuseplan/plan/Budget$Spent"), .int, .long], returnType := none }, accessFlags := 2, code := some k2c1 }
def k2c2 : Code := { maxStack := 10, maxLocals := 1, code := prog_83_method_3_code, exceptionTable := #[], attributes := #[] }
def k2m2 : Method := { name := "halfOfRest", desc := "()Lcom/example/fuseplan/fuseplan/plan/Budget;", sig := { parameters := [], returnType := some (.object "com/example/fuseplan/fuseplan/plan/Budget") }, accessFlags := 1, code := some k2c2 }
def k2c3 : Code := { maxStack := 6, maxLocals := 5, code := prog_83_method_5_code, exceptionTable := #[], attributes := #[] }
def k2m3 : Method := { name := "affords", desc := "(JJ)Z", sig := { parameters := [.long, .long], returnType := some .boolean }, accessFlags := 0, code := some k2c3 }
def k2c4 : Code := { maxStack := 5, maxLocals := 3, code := prog_83_method_6_code, exceptionTable := #[], attributes := #[] }
def k2m4 : Method := { name := "spend", desc := "(J)V", sig := { parameters := [.long], returnType := none }, accessFlags := 0, code := some k2c4 }
/-- com/example/fuseplan/fuseplan/plan/Budget -/
def k2 : Class := { plain "com/example/fuseplan/fuseplan/plan/Budget" (some 0) with
  accessFlags := 49
  interfaces := #[]
  cf := some (fileOf pool2 7 #[.nestMembers #[1]] #[{ accessFlags := 1, nameIndex := 5, descriptorIndex := 6, attributes := #[] }, { accessFlags := 2, nameIndex := 5, descriptorIndex := 13, attributes := #[] }, { accessFlags := 1, nameIndex := 39, descriptorIndex := 40, attributes := #[] }, { accessFlags := 0, nameIndex := 43, descriptorIndex := 44, attributes := #[] }, { accessFlags := 0, nameIndex := 45, descriptorIndex := 46, attributes := #[] }] 49 15 #[] #[{ accessFlags := 24, nameIndex := 33, descriptorIndex := 24, attributes := #[] }, { accessFlags := 24, nameIndex := 36, descriptorIndex := 28, attributes := #[] }, { accessFlags := 18, nameIndex := 19, descriptorIndex := 20, attributes := #[] }, { accessFlags := 18, nameIndex := 23, descriptorIndex := 24, attributes := #[] }, { accessFlags := 18, nameIndex := 27, descriptorIndex := 28, attributes := #[] }])
  fields := #[{ name := "MAX_PLANS", type := .int, accessFlags := 24, slot := 0, constantValue := 0 }, { name := "MAX_WORK", type := .long, accessFlags := 24, slot := 1, constantValue := 0 }, { name := "spent", type := (.object "com/example/fuseplan/fuseplan/plan/Budget$Spent"), accessFlags := 18, slot := 0, constantValue := 0 }, { name := "plans", type := .int, accessFlags := 18, slot := 1, constantValue := 0 }, { name := "work", type := .long, accessFlags := 18, slot := 2, constantValue := 0 }]
  methods := #[k2m0, k2m1, k2m2, k2m3, k2m4]
  instanceTypes := #[(.object "com/example/fuseplan/fuseplan/plan/Budget$Spent"), .int, .long]
  staticTypes := #[.int, .long]
  resolved := #[none, some (.cls 3), none, some (.method ⟨3, 0⟩), none, none, none, none, none, none, none, none, none, none, none, none, none, none, none, none, none, none, none, none, none, none, none, none, none, some (.field 3 0), some (.field 3 1), none, none, none, none, none, none, none, none, none, none, none, none, none, none, none, none, none, none, none, none, none]
  statics := none }

def pool3 : Array CpInfo := pool [(1, .methodref 2 3), (0, .class_ 4), (0, .nameAndType 5 6), (0, u "java/lang/Object"), (0, u "<init>"), (0, u "()V"), (0, .class_ 8), (0, u "com/example/fuseplan/fuseplan/plan/Budget$Spent"), (0, u "plans"), (0, u "I"), (0, u "work"), (0, u "J"), (5, .class_ 19), (0, u "com/example/fuseplan/fuseplan/plan/Budget")] 2

def k3c0 : Code := { maxStack := 1, maxLocals := 1, code := prog_84_method_1_code, exceptionTable := #[], attributes := #[] }
def k3m0 : Method := { name := "<init>", desc := "()V", sig := { parameters := [], returnType := none }, accessFlags := 2, code := some k3c0 }
/-- com/example/fuseplan/fuseplan/plan/Budget$Spent -/
def k3 : Class := { plain "com/example/fuseplan/fuseplan/plan/Budget$Spent" (some 0) with
  accessFlags := 48
  interfaces := #[]
  cf := some (fileOf pool3 7 #[.nestHost 18] #[{ accessFlags := 2, nameIndex := 5, descriptorIndex := 6, attributes := #[] }] 48 2 #[] #[{ accessFlags := 2, nameIndex := 9, descriptorIndex := 10, attributes := #[] }, { accessFlags := 2, nameIndex := 11, descriptorIndex := 12, attributes := #[] }])
  fields := #[{ name := "plans", type := .int, accessFlags := 2, slot := 0, constantValue := 0 }, { name := "work", type := .long, accessFlags := 2, slot := 1, constantValue := 0 }]
  methods := #[k3m0]
  instanceTypes := #[.int, .long]
  staticTypes := #[]
  resolved := Array.replicate 22 none
  statics := none }

def pool4 : Array CpInfo := pool [(1, .class_ 2), (0, u "java/lang/Math"), (1, .class_ 6), (1, u "java/lang/Object"), (0, u "<init>"), (0, u "()V"), (89, .class_ 100), (1, u "java/lang/Math$RandomNumberGeneratorHolder"), (23, u "abs"), (0, u "(J)J"), (46, u "negativeZeroFloatBits"), (0, u "J"), (2, u "negativeZeroDoubleBits"), (68, u "$assertionsDisabled"), (0, u "Z"), (91, u "twoToTheDoubleScaleDown"), (0, u "D"), (4, u "twoToTheDoubleScaleUp"), (9, u "E"), (3, u "PI"), (2, u "TAU"), (2, u "DEGREES_TO_RADIANS"), (0, u "RADIANS_TO_DEGREES")] 94

def k4m0 : Method := { name := "<init>", desc := "()V", sig := { parameters := [], returnType := none }, accessFlags := 2, code := none }
def k4c1 : Code := { maxStack := 4, maxLocals := 2, code := jdk_29_method_61_code, exceptionTable := #[], attributes := #[] }
def k4m1 : Method := { name := "abs", desc := "(J)J", sig := { parameters := [.long], returnType := some .long }, accessFlags := 9, code := some k4c1 }
/-- java/lang/Math -/
def k4 : Class := { plain "java/lang/Math" (some 0) with
  accessFlags := 49
  interfaces := #[]
  cf := some (fileOf pool4 1 #[.nestMembers #[98]] #[{ accessFlags := 2, nameIndex := 7, descriptorIndex := 8, attributes := #[] }, { accessFlags := 9, nameIndex := 124, descriptorIndex := 125, attributes := #[] }] 49 4 #[] #[{ accessFlags := 25, nameIndex := 354, descriptorIndex := 339, attributes := #[] }, { accessFlags := 25, nameIndex := 358, descriptorIndex := 339, attributes := #[] }, { accessFlags := 25, nameIndex := 361, descriptorIndex := 339, attributes := #[] }, { accessFlags := 26, nameIndex := 364, descriptorIndex := 339, attributes := #[] }, { accessFlags := 26, nameIndex := 365, descriptorIndex := 339, attributes := #[] }, { accessFlags := 26, nameIndex := 172, descriptorIndex := 173, attributes := #[] }, { accessFlags := 26, nameIndex := 176, descriptorIndex := 173, attributes := #[] }, { accessFlags := 8, nameIndex := 344, descriptorIndex := 339, attributes := #[] }, { accessFlags := 8, nameIndex := 338, descriptorIndex := 339, attributes := #[] }, { accessFlags := 4120, nameIndex := 245, descriptorIndex := 246, attributes := #[] }])
  fields := #[{ name := "E", type := .double, accessFlags := 25, slot := 0, constantValue := 0 }, { name := "PI", type := .double, accessFlags := 25, slot := 1, constantValue := 0 }, { name := "TAU", type := .double, accessFlags := 25, slot := 2, constantValue := 0 }, { name := "DEGREES_TO_RADIANS", type := .double, accessFlags := 26, slot := 3, constantValue := 0 }, { name := "RADIANS_TO_DEGREES", type := .double, accessFlags := 26, slot := 4, constantValue := 0 }, { name := "negativeZeroFloatBits", type := .long, accessFlags := 26, slot := 5, constantValue := 0 }, { name := "negativeZeroDoubleBits", type := .long, accessFlags := 26, slot := 6, constantValue := 0 }, { name := "twoToTheDoubleScaleUp", type := .double, accessFlags := 8, slot := 7, constantValue := 0 }, { name := "twoToTheDoubleScaleDown", type := .double, accessFlags := 8, slot := 8, constantValue := 0 }, { name := "$assertionsDisabled", type := .boolean, accessFlags := 4120, slot := 9, constantValue := 0 }]
  methods := #[k4m0, k4m1]
  instanceTypes := #[]
  staticTypes := #[.double, .double, .double, .double, .double, .long, .long, .double, .double, .boolean]
  resolved := Array.replicate 460 none
  statics := none }

def pool5 : Array CpInfo := pool [(1, u "java/lang/Cloneable"), (0, .class_ 1), (0, u "java/lang/Object"), (0, .class_ 3)] 3

/-- java/lang/Cloneable -/
def k5 : Class := { plain "java/lang/Cloneable" (some 0) with
  accessFlags := 1537
  interfaces := #[]
  cf := some (fileOf pool5 2 #[] #[] 1537 4 #[] #[])
  fields := #[]
  methods := #[]
  instanceTypes := #[]
  staticTypes := #[]
  resolved := Array.replicate 8 none
  statics := none }

def pool6 : Array CpInfo := pool [(1, u "java/io/Serializable"), (0, .class_ 1), (0, u "java/lang/Object"), (0, .class_ 3)] 3

/-- java/io/Serializable -/
def k6 : Class := { plain "java/io/Serializable" (some 0) with
  accessFlags := 1537
  interfaces := #[]
  cf := some (fileOf pool6 2 #[] #[] 1537 4 #[] #[])
  fields := #[]
  methods := #[]
  instanceTypes := #[]
  staticTypes := #[]
  resolved := Array.replicate 8 none
  statics := none }

/-- the primitive byte -/
def k7 : Class := { plain "byte" none with kind := .primitive 'B', accessFlags := 0x411 }
/-- [B -/
def k8 : Class := { plain "[B" (some 0) with kind := .array 7 .byte, interfaces := #[5, 6], accessFlags := 1041 }

/-- the primitive int -/
def k9 : Class := { plain "int" none with kind := .primitive 'I', accessFlags := 0x411 }
/-- [I -/
def k10 : Class := { plain "[I" (some 0) with kind := .array 9 .int, interfaces := #[5, 6], accessFlags := 1041 }

def heap : Heap := #[]
def classes : Array Class := #[k0, k1, k2, k3, k4, k5, k6, k7, k8, k9, k10]
def interned : List (Array UInt16 × Addr) := []
def slotsUsed : Nat := 0
def theMethod : MethodId := ⟨1, 2⟩
def args0 : Array Value := #[.long 5, .long 7, .int 2, .int 5, .int 7, .int 2]
def aboutOver (below : List Frame) : State where
  vm := { classes := classes, interned := interned.toArray }
  heap := heap
  slotsUsed := slotsUsed
  threads := #[{ frames := .invoking theMethod args0 :: below }]
def below0 : List Frame := [.native { method := ⟨0, 0⟩, args := #[] }]
def about1 : State := aboutOver below0
def p0 : Program := .bare "" "" ""
def e0 : Env := launch0.env 0 0 0
theorem w_frames : about1.frames = Frame.invoking theMethod args0 :: below0 := rfl
set_option maxRecDepth 65536 in
theorem w_args : argsFit about1.vm theMethod args0 = true := by decide +kernel
set_option maxRecDepth 65536 in
theorem w_heap : heapFits about1 = true := by decide +kernel
set_option maxRecDepth 65536 in
theorem w_runnable : about1.curStatus? = some .runnable := by decide +kernel
set_option maxRecDepth 65536 in
theorem w_alone : about1.alone = true := by decide +kernel
set_option maxRecDepth 65536 in
theorem w_named : about1.methodNamed? x = some theMethod := by decide +kernel
set_option maxRecDepth 65536 in
theorem w_hears : about1.hears theMethod below0 = true := by decide +kernel
set_option maxRecDepth 65536 in
theorem w_ripe : about1.ripe theMethod args0 below0 = true := by decide +kernel
theorem w_running : about1.status = .running := rfl
set_option maxRecDepth 65536 in
theorem w_room : about1.hasRoom e0.platform room_1 = true :=
  launch0.hasRoom_least _ room_1 (by decide +kernel) (by decide +kernel) (by decide +kernel) (by decide +kernel) (by decide +kernel) (by decide +kernel)
theorem allAtoms_all (ts : List Jvm.Cond) (a : Array Jvm.Value) (st : Jvm.State) : (allAtoms ts).before a st = ts.all (fun c => c.before a st) := by
  induction ts with
  | nil => rfl
  | cons c t ih =>
    show (Jvm.Cond.and c (allAtoms t)).before a st = _
    rw [Jvm.Cond.before_and, ih, List.all_cons]
def words1 : List Jvm.Cond := Jvm.Cond.code x code maxLocals ret :: tables_1
/-- a 'code' word, met by the world's own term for the bytes: nothing is compared byte by byte -/
theorem code_word {y : MethodName} {bytes : ByteArray} {mx : Nat} {rt : Option FieldType} {a : Array Value} {s : State} {m : MethodId} {meth : Method} {c : Code} (h1 : s.methodNamed? y = some m) (h2 : s.vm.method? m = some meth) (h3 : meth.code = some c) (h4 : c.code = bytes)
    (h5 : (c.maxLocals == mx && c.exceptionTable.isEmpty && decide (c.maxStack ≤ mostOperands) && decide (meth.sig.returnType = rt) && !meth.locks && decide (parseMethodDescriptor y.desc = some meth.sig)) = true) : (Jvm.Cond.code y bytes mx rt).before a s = true := by
  simp only [Bool.and_eq_true, beq_iff_eq, Bool.not_eq_true', decide_eq_true_eq] at h5
  obtain ⟨⟨⟨⟨⟨g1, g2⟩, g3⟩, g4⟩, g5⟩, g6⟩ := h5
  simp [Cond.before, Cond.holds, Cond.value, h1, h2, h3, h4, g1, g2, g3, g4, g5, g6]
def isCode : Jvm.Cond → Bool
  | .code _ _ _ _ => true
  | _ => false
theorem all_split {L : List Jvm.Cond} {P : Jvm.Cond → Bool} (h1 : L.all (fun c => isCode c || P c) = true) (h2 : ∀ c ∈ L.filter isCode, P c = true) : L.all P = true := by
  refine List.all_eq_true.mpr fun c hc => ?_
  have h := List.all_eq_true.mp h1 c hc
  rcases Bool.eq_false_or_eq_true (isCode c) with hi | hi
  · exact h2 c (List.mem_filter.mpr ⟨hc, hi⟩)
  · simpa [hi] using h
set_option maxRecDepth 65536 in
theorem w_c0 : (Jvm.Cond.code x code maxLocals ret).before args0 about1 = true := code_word (m := ⟨1, 2⟩) (meth := k1m2) (c := k1c2) (by decide +kernel) rfl rfl rfl (by decide +kernel)
set_option maxRecDepth 65536 in
theorem w_c1 : (Jvm.Cond.code ({ cls := "com/example/fuseplan/fuseplan/plan/Budget", name := "<init>", desc := "()V" } : Jvm.MethodName) prog_83_method_1_code (1 : Nat) (Option.none : Option Jvm.ClassFile.FieldType)).before args0 about1 = true := code_word (m := ⟨2, 0⟩) (meth := k2m0) (c := k2c0) (by decide +kernel) rfl rfl rfl (by decide +kernel)
set_option maxRecDepth 65536 in
theorem w_c2 : (Jvm.Cond.code ({ cls := "com/example/fuseplan/fuseplan/plan/Budget$Spent", name := "<init>", desc := "()V" } : Jvm.MethodName) prog_84_method_1_code (1 : Nat) (Option.none : Option Jvm.ClassFile.FieldType)).before args0 about1 = true := code_word (m := ⟨3, 0⟩) (meth := k3m0) (c := k3c0) (by decide +kernel) rfl rfl rfl (by decide +kernel)
set_option maxRecDepth 65536 in
theorem w_c3 : (Jvm.Cond.code ({ cls := "java/lang/Object", name := "<init>", desc := "()V" } : Jvm.MethodName) object_method_1_code (1 : Nat) (Option.none : Option Jvm.ClassFile.FieldType)).before args0 about1 = true := code_word (m := ⟨0, 0⟩) (meth := k0m0) (c := k0c0) (by decide +kernel) rfl rfl rfl (by decide +kernel)
set_option maxRecDepth 65536 in
theorem w_c4 : (Jvm.Cond.code ({ cls := "com/example/fuseplan/fuseplan/plan/Budget", name := "<init>", desc := "(Lcom/example/fuseplan/fuseplan/plan/Budget$Spent;IJ)V" } : Jvm.MethodName) prog_83_method_2_code (5 : Nat) (Option.none : Option Jvm.ClassFile.FieldType)).before args0 about1 = true := code_word (m := ⟨2, 1⟩) (meth := k2m1) (c := k2c1) (by decide +kernel) rfl rfl rfl (by decide +kernel)
set_option maxRecDepth 65536 in
theorem w_c5 : (Jvm.Cond.code ({ cls := "com/example/fuseplan/fuseplan/plan/Budget", name := "spend", desc := "(J)V" } : Jvm.MethodName) prog_83_method_6_code (3 : Nat) (Option.none : Option Jvm.ClassFile.FieldType)).before args0 about1 = true := code_word (m := ⟨2, 4⟩) (meth := k2m4) (c := k2c4) (by decide +kernel) rfl rfl rfl (by decide +kernel)
set_option maxRecDepth 65536 in
theorem w_c6 : (Jvm.Cond.code ({ cls := "com/example/fuseplan/fuseplan/plan/BudgetAffordsPinLaw", name := "productAtMost", desc := "(JJJ)Z" } : Jvm.MethodName) method_2_code (11 : Nat) (Option.some Jvm.ClassFile.FieldType.boolean)).before args0 about1 = true := code_word (m := ⟨1, 1⟩) (meth := k1m1) (c := k1c1) (by decide +kernel) rfl rfl rfl (by decide +kernel)
set_option maxRecDepth 65536 in
theorem w_c7 : (Jvm.Cond.code ({ cls := "java/lang/Math", name := "abs", desc := "(J)J" } : Jvm.MethodName) jdk_29_method_61_code (2 : Nat) (Option.some Jvm.ClassFile.FieldType.long)).before args0 about1 = true := code_word (m := ⟨4, 1⟩) (meth := k4m1) (c := k4c1) (by decide +kernel) rfl rfl rfl (by decide +kernel)
set_option maxRecDepth 65536 in
theorem w_c8 : (Jvm.Cond.code ({ cls := "com/example/fuseplan/fuseplan/plan/Budget", name := "affords", desc := "(JJ)Z" } : Jvm.MethodName) prog_83_method_5_code (5 : Nat) (Option.some Jvm.ClassFile.FieldType.boolean)).before args0 about1 = true := code_word (m := ⟨2, 3⟩) (meth := k2m3) (c := k2c3) (by decide +kernel) rfl rfl rfl (by decide +kernel)
set_option maxRecDepth 65536 in
theorem w_c9 : (Jvm.Cond.code ({ cls := "com/example/fuseplan/fuseplan/plan/Budget", name := "halfOfRest", desc := "()Lcom/example/fuseplan/fuseplan/plan/Budget;" } : Jvm.MethodName) prog_83_method_3_code (1 : Nat) (Option.some (Jvm.ClassFile.FieldType.object "com/example/fuseplan/fuseplan/plan/Budget"))).before args0 about1 = true := code_word (m := ⟨2, 2⟩) (meth := k2m2) (c := k2c2) (by decide +kernel) rfl rfl rfl (by decide +kernel)
def codes1 : List Jvm.Cond := [Jvm.Cond.code x code maxLocals ret, Jvm.Cond.code ({ cls := "com/example/fuseplan/fuseplan/plan/Budget", name := "<init>", desc := "()V" } : Jvm.MethodName) prog_83_method_1_code (1 : Nat) (Option.none : Option Jvm.ClassFile.FieldType), Jvm.Cond.code ({ cls := "com/example/fuseplan/fuseplan/plan/Budget$Spent", name := "<init>", desc := "()V" } : Jvm.MethodName) prog_84_method_1_code (1 : Nat) (Option.none : Option Jvm.ClassFile.FieldType), Jvm.Cond.code ({ cls := "java/lang/Object", name := "<init>", desc := "()V" } : Jvm.MethodName) object_method_1_code (1 : Nat) (Option.none : Option Jvm.ClassFile.FieldType), Jvm.Cond.code ({ cls := "com/example/fuseplan/fuseplan/plan/Budget", name := "<init>", desc := "(Lcom/example/fuseplan/fuseplan/plan/Budget$Spent;IJ)V" } : Jvm.MethodName) prog_83_method_2_code (5 : Nat) (Option.none : Option Jvm.ClassFile.FieldType), Jvm.Cond.code ({ cls := "com/example/fuseplan/fuseplan/plan/Budget", name := "spend", desc := "(J)V" } : Jvm.MethodName) prog_83_method_6_code (3 : Nat) (Option.none : Option Jvm.ClassFile.FieldType), Jvm.Cond.code ({ cls := "com/example/fuseplan/fuseplan/plan/BudgetAffordsPinLaw", name := "productAtMost", desc := "(JJJ)Z" } : Jvm.MethodName) method_2_code (11 : Nat) (Option.some Jvm.ClassFile.FieldType.boolean), Jvm.Cond.code ({ cls := "java/lang/Math", name := "abs", desc := "(J)J" } : Jvm.MethodName) jdk_29_method_61_code (2 : Nat) (Option.some Jvm.ClassFile.FieldType.long), Jvm.Cond.code ({ cls := "com/example/fuseplan/fuseplan/plan/Budget", name := "affords", desc := "(JJ)Z" } : Jvm.MethodName) prog_83_method_5_code (5 : Nat) (Option.some Jvm.ClassFile.FieldType.boolean), Jvm.Cond.code ({ cls := "com/example/fuseplan/fuseplan/plan/Budget", name := "halfOfRest", desc := "()Lcom/example/fuseplan/fuseplan/plan/Budget;" } : Jvm.MethodName) prog_83_method_3_code (1 : Nat) (Option.some (Jvm.ClassFile.FieldType.object "com/example/fuseplan/fuseplan/plan/Budget"))]
set_option maxRecDepth 65536 in
theorem codes_eq : words1.filter isCode = codes1 := rfl
theorem w_codes : ∀ c ∈ words1.filter isCode, c.before args0 about1 = true := by
  rw [codes_eq]
  intro c hc
  simp only [codes1, List.mem_cons, List.not_mem_nil, or_false] at hc
  rcases hc with rfl | rfl | rfl | rfl | rfl | rfl | rfl | rfl | rfl | rfl
  · exact w_c0
  · exact w_c1
  · exact w_c2
  · exact w_c3
  · exact w_c4
  · exact w_c5
  · exact w_c6
  · exact w_c7
  · exact w_c8
  · exact w_c9
set_option maxRecDepth 65536 in
theorem w_t1 : (words1.take 24).all (fun c => isCode c || c.before args0 about1) = true := by decide +kernel
set_option maxRecDepth 65536 in
theorem w_t2 : ((words1.drop 24).take 24).all (fun c => isCode c || c.before args0 about1) = true := by decide +kernel
set_option maxRecDepth 65536 in
theorem w_t3 : ((words1.drop 24).drop 24).all (fun c => isCode c || c.before args0 about1) = true := by decide +kernel
theorem w_tables : (allAtoms (Jvm.Cond.code x code maxLocals ret :: tables_1)).before args0 about1 = true := by
  rw [allAtoms_all]
  show words1.all (fun c => c.before args0 about1) = true
  refine all_split ?_ w_codes
  rw [← List.take_append_drop 24 words1, List.all_append, w_t1, ← List.take_append_drop 24 (words1.drop 24), List.all_append, w_t2, w_t3]
  rfl
set_option maxRecDepth 65536 in
theorem w_case : (Jvm.Cond.and given_1 narrow_1).before args0 about1 = true := by decide +kernel
theorem w_applies : (headSpec (Jvm.Cond.code x code maxLocals ret :: tables_1) room_1).applies x e0.platform about1 = true :=
  (Spec.applies_iff w_frames).mpr ⟨w_running, w_runnable, w_alone, w_named, w_hears, w_ripe, w_room, w_tables⟩
theorem atStart : AtStart classFile x code maxLocals ret World_1 tables_1 room_1 Calls_1 rest_1 Pre_1 launch0 p0 e0 about1 theMethod args0 below0 :=
  ⟨lists_1, trivial, launch0.admits_env _ _ _, launch0.least_env, fairChoices_fair.cas, fairChoices_fair.clock, w_frames, w_args, w_heap, w_applies, trivial, trivial, w_case⟩
end start1
theorem witness_1 : WitnessClaimed_1 := ⟨start1.p0, start1.e0, start1.about1, start1.theMethod, start1.args0, start1.below0, start1.atStart⟩
end Jvm.Pilot.@@N@@
