import JvmDerived
import JvmDerived.Pilot.@@N@@Statement
import JvmDerived.Pilot.@@N@@Code
set_option linter.unusedVariables false
set_option linter.unusedSimpArgs false
namespace Jvm.RoadKit
open Sem ClassFile Op Lib Jvm.Stand Jvm.Free Jvm.LawKit
section OwnKit
/-- what stands at a point of the walk: the law's Stand, its written places all new, the heap named; w: may have interned -/
def own_X (w : Bool) (p : Program) (l : Launch) (e : Env) (R : Room) (s : State) (m : MethodId) (args : Array Value) (below : List Frame) (meth : Method) (c : Code) (Z : State) (T : State) (h : Heap) (k n : Nat) : Prop :=
  ∃ (L : List Loc) (vm : Vm), Stand p l e R (s.setVm vm) m args below meth c T L k n ∧ Fr Z.heap.size L ∧ T.heap = h ∧ (w = false → vm = s.vm) ∧ s.Since vm h.size
def own_Cx (p : Program) (s : State) (m : MethodId) (meth : Method) (c : Code) (Z : State) (own nm : String) (bytes : ByteArray) (maxL : Nat) (ret : Option FieldType) : Prop :=
  p.tables.exec = Jvm.exec ∧ c.code = bytes ∧ c.maxLocals = maxL ∧ meth.sig.returnType = ret ∧ meth.locks = false ∧ Z.Warmed39 s.vm ∧ s.vm.findClass own = some m.cls ∧ meth.name = nm
def own_Go (w : Bool) (p : Program) (l : Launch) (e : Env) (R : Room) (s : State) (m : MethodId) (args : Array Value) (below : List Frame) (meth : Method) (c : Code) (Z : State) (Q : Option Value → Heap → Prop) (T : State) (g : JFrame) : Prop :=
  ∃ (T' : State) (v : Option Value) (h' : Heap) (k' n' : Nat), own_X w p l e R s m args below meth c Z T' h' k' n' ∧ k' ≤ R.cells ∧ n' ≤ R.slots ∧ (meth.sig.returnType = none → v = none) ∧ Q v h' ∧
    ∀ fs, (∀ (f : JFrame) (acts : List Action), f.method = m → f.locked = none → f.entered = [] → (doReturn e (T'.setTop f) acts v).1 = T'.setFrames fs) → Steps p.tables e below (T.setTop g) (T'.setFrames fs)
/-- from the frame g, over the heap h, with k cells and n slots made, the walk comes to a return of which Q holds -/
def own_G (w : Bool) (p : Program) (l : Launch) (e : Env) (R : Room) (s : State) (m : MethodId) (args : Array Value) (below : List Frame) (meth : Method) (c : Code) (Z : State) (Q : Option Value → Heap → Prop) (h : Heap) (k n : Nat) (g : JFrame) : Prop :=
  ∀ T, own_X w p l e R s m args below meth c Z T h k n → own_Go w p l e R s m args below meth c Z Q T g
def own_D (bytes : ByteArray) (pc : Nat) (i : Instr) (len pc' : Nat) : Prop := decode bytes pc = .ok (i, len) ∧ pc' = pc + len
def own_B (bytes : ByteArray) (pc : Nat) (i : Instr) (off : Int) (pcF pcT : Nat) : Prop := decode bytes pc = .ok (i, 3) ∧ pcF = pc + 3 ∧ 0 ≤ (pc : Int) + off ∧ ((pc : Int) + off).toNat = pcT
def own_End (w : Bool) (U : State) (o : Outcome) (U' : State) (L : List Loc) (k n : Nat) : Prop := match w with | false => FrameEnd U o U' L k n | true => ReturnedEndW U o U' L k n
def own_Met (w : Bool) (l : Launch) (Z : State) (y : MethodName) (bytes : ByteArray) (maxL : Nat) (ret : Option FieldType) (ws : List Cond) (rm : Room) (as' : Array Value) (h : Heap) (Q : Option Value → Heap → Prop) : Prop :=
  MetFree l y (head1 (Cond.code y bytes maxL ret :: ws) rm) (fun a U => a = as' ∧ Z.Warmed39 U.vm ∧ U.heap = h) (fun _ _ _ _ _ => True)
    (fun _ U o U' => ∃ v L, o = .returned v ∧ (Q v U'.heap ∧ Fr Z.heap.size L ∧ h.size ≤ U'.heap.size) ∧ own_End w U o U' L rm.cells rm.slots)
/-! ## heap -/
abbrev own_O := Addr × String × List (String × String × String × Value)
abbrev own_A := Addr × FieldType × String × List Value
def own_OK (Z : State) (h : Heap) (o : own_O) : Prop := Exa Z h o.1 o.2.1 ∧ (∀ f ∈ o.2.2, Fld Z h o.1 f.1 f.2.1 f.2.2.1 f.2.2.2) ∧ o.2.2.Pairwise (fun f g => slotOf Z f.1 f.2.1 f.2.2.1 ≠ slotOf Z g.1 g.2.1 g.2.2.1)
def own_AK (Z : State) (h : Heap) (a : own_A) : Prop := ∃ cl : Cell, Arr Z h a.1 cl a.2.1 ∧ cl.slots.toList = a.2.2.2 ∧ (∀ v ∈ a.2.2.2, fits a.2.1 v = true) ∧ (a.2.2.1 ≠ "" → Exa Z h a.1 a.2.2.1) ∧ (∀ C, a.2.1 = .object C → a.2.2.1 ≠ "" → Ovr Z cl.cls C)
/-- the heap h: what stood at the law's start Z stands; the objects os and the arrays as, all new, all apart -/
def own_H (Z : State) (h : Heap) (os : List own_O) (as : List own_A) : Prop :=
  Ext Z.heap h ∧ (∀ o ∈ os, Z.heap.size ≤ o.1 ∧ own_OK Z h o) ∧ (∀ a ∈ as, Z.heap.size ≤ a.1 ∧ own_AK Z h a) ∧ (os.map (·.1) ++ as.map (·.1)).Nodup
variable {w : Bool} {p : Program} {l : Launch} {e : Env} {R : Room} {s : State} {m : MethodId} {args : Array Value} {below : List Frame} {meth : Method} {c : Code} {Z : State} {a0 : Array Value} {own nm : String} {bytes : ByteArray} {maxL : Nat} {ret : Option FieldType} {Q : Option Value → Heap → Prop} {h h' : Heap} {k n k' n' : Nat} {pc pc' pcT : Nat} {Ls Ls' : Array Slot} {st rest : List Value} {os os' : List own_O} {as as' : List own_A} {g g' : JFrame} {tyR : FieldType}
theorem own_H.start (Z : State) : own_H Z Z.heap [] [] := ⟨⟨Nat.le_refl _, fun _ _ q => q⟩, fun _ q => (nomatch q), fun _ q => (nomatch q), List.nodup_nil⟩
theorem own_OK.ext {o : own_O} (E : Ext h h') (F : own_OK Z h o) : own_OK Z h' o := ⟨F.1.ext E, fun f hf => (F.2.1 f hf).ext E, F.2.2⟩
theorem own_AK.ext {a : own_A} (E : Ext h h') (F : own_AK Z h a) : own_AK Z h' a := by
  obtain ⟨cl, h1, h2, h3, h4, h5⟩ := F; exact ⟨cl, h1.ext E, h2, h3, fun q => (h4 q).ext E, h5⟩
theorem own_H.ext (H : own_H Z h os as) (E : Ext h h') : own_H Z h' os as :=
  ⟨⟨Nat.le_trans H.1.1 E.1, fun a c q => E.2 a c (H.1.2 a c q)⟩, fun o ho => ⟨(H.2.1 o ho).1, (H.2.1 o ho).2.ext E⟩, fun a ha => ⟨(H.2.2.1 a ha).1, (H.2.2.1 a ha).2.ext E⟩, H.2.2.2⟩
theorem own_H.ltO (H : own_H Z h os as) {o : own_O} (ho : o ∈ os) : o.1 < h.size := (H.2.1 o ho).2.1.lt
theorem own_H.ltA (H : own_H Z h os as) {a : own_A} (ha : a ∈ as) : a.1 < h.size := by obtain ⟨-, cl, h1, -⟩ := H.2.2.1 a ha; exact h1.lt
theorem own_H.fresh (H : own_H Z h os as) : h.size ∉ os.map (·.1) ++ as.map (·.1) := fun q => by
  rcases List.mem_append.mp q with q | q
  · obtain ⟨o, ho, e⟩ := List.mem_map.mp q; exact absurd (H.ltO ho) (by rw [e]; exact Nat.lt_irrefl _)
  · obtain ⟨o, ho, e⟩ := List.mem_map.mp q; exact absurd (H.ltA ho) (by rw [e]; exact Nat.lt_irrefl _)
theorem own_H.addO (H : own_H Z h os as) (E : Ext h h') {C : String} {fs : List (String × String × String × Value)} (F : own_OK Z h' (h.size, C, fs)) : own_H Z h' ((h.size, C, fs) :: os) as := by
  have H' := H.ext E
  refine ⟨H'.1, fun o ho => ?_, H'.2.2.1, ?_⟩
  · rcases List.mem_cons.mp ho with rfl | ho
    · exact ⟨H.1.1, F⟩
    · exact H'.2.1 o ho
  · exact List.nodup_cons.mpr ⟨H.fresh, H.2.2.2⟩
theorem own_H.addA (H : own_H Z h os as) (E : Ext h h') {ty : FieldType} {ad : String} {vs : List Value} (F : own_AK Z h' (h.size, ty, ad, vs)) : own_H Z h' os ((h.size, ty, ad, vs) :: as) := by
  have H' := H.ext E
  refine ⟨H'.1, H'.2.1, fun o ho => ?_, ?_⟩
  · rcases List.mem_cons.mp ho with rfl | ho
    · exact ⟨H.1.1, F⟩
    · exact H'.2.2.1 o ho
  · have q := H.fresh
    rw [List.mem_append] at q
    have q2 := List.nodup_append.mp H.2.2.2
    refine List.nodup_append.mpr ⟨q2.1, List.nodup_cons.mpr ⟨fun z => q (Or.inr z), q2.2.1⟩, fun x hx y hy => ?_⟩
    rcases List.mem_cons.mp hy with rfl | hy
    · intro z; exact q (Or.inl ((show x = h.size from z) ▸ hx))
    · exact q2.2.2 x hx y hy
theorem own_mem {α : Type} {L : List α} {i : Nat} {x : α} (hx : L[i]? = some x) : x ∈ L := List.mem_of_getElem? hx
theorem own_H.atO (H : own_H Z h os as) {i : Nat} {a : Addr} {C : String} {fs : List (String × String × String × Value)} (ho : os[i]? = some (a, C, fs)) : Exa Z h a C := (H.2.1 _ (own_mem ho)).2.1
theorem own_H.newO (H : own_H Z h os as) {i : Nat} {a : Addr} {C : String} {fs : List (String × String × String × Value)} (ho : os[i]? = some (a, C, fs)) : Z.heap.size ≤ a := (H.2.1 _ (own_mem ho)).1
theorem own_H.fld (H : own_H Z h os as) {i q : Nat} {a : Addr} {C O f d : String} {v : Value} {fs : List (String × String × String × Value)} (ho : os[i]? = some (a, C, fs)) (hf : fs[q]? = some (O, f, d, v)) : Fld Z h a O f d v := (H.2.1 _ (own_mem ho)).2.2.1 _ (own_mem hf)
theorem own_H.neOO (H : own_H Z h os as) {i j : Nat} {x y : own_O} (hx : os[i]? = some x) (hy : os[j]? = some y) (ij : i ≠ j) : x.1 ≠ y.1 := fun e => by
  have q := (List.nodup_append.mp H.2.2.2).1
  have h1 : (os.map (·.1))[i]? = some x.1 := by rw [List.getElem?_map, hx]; rfl
  have h2 : (os.map (·.1))[j]? = some y.1 := by rw [List.getElem?_map, hy]; rfl
  rw [← e] at h2
  have hi := (List.getElem?_eq_some_iff.mp h1).1
  exact ij ((List.getElem?_inj hi q).mp (h1.trans h2.symm))
theorem own_H.neAA (H : own_H Z h os as) {i j : Nat} {x y : own_A} (hx : as[i]? = some x) (hy : as[j]? = some y) (ij : i ≠ j) : x.1 ≠ y.1 := fun e => by
  have q := (List.nodup_append.mp H.2.2.2).2.1
  have h1 : (as.map (·.1))[i]? = some x.1 := by rw [List.getElem?_map, hx]; rfl
  have h2 : (as.map (·.1))[j]? = some y.1 := by rw [List.getElem?_map, hy]; rfl
  rw [← e] at h2
  have hi := (List.getElem?_eq_some_iff.mp h1).1
  exact ij ((List.getElem?_inj hi q).mp (h1.trans h2.symm))
theorem own_H.neOA (H : own_H Z h os as) {x : own_O} {y : own_A} (hx : x ∈ os) (hy : y ∈ as) : x.1 ≠ y.1 :=
  (List.nodup_append.mp H.2.2.2).2.2 _ (List.mem_map.mpr ⟨x, hx, rfl⟩) _ (List.mem_map.mpr ⟨y, hy, rfl⟩)
theorem own_set_map {α β : Type} {L : List α} {f : α → β} {i : Nat} {x x' : α} (hx : L[i]? = some x) (e : f x' = f x) : (L.set i x').map f = L.map f := by
  apply List.ext_getElem?
  intro j
  rw [List.getElem?_map, List.getElem?_map, List.getElem?_set]
  by_cases ij : i = j
  · subst ij; rw [hx]; have := (List.getElem?_eq_some_iff.mp hx).1; simp [this, e]
  · simp [ij]
theorem own_H.wrO (H : own_H Z h os as) {i q : Nat} {a : Addr} {C O f d : String} {v v0 : Value} {fs : List (String × String × String × Value)} (ho : os[i]? = some (a, C, fs)) (hf : fs[q]? = some (O, f, d, v0)) (W : Wr h h' a (slotOf Z O f d) v) :
    own_H Z h' (os.set i (a, C, fs.set q (O, f, d, v))) as := by
  have na := H.newO ho
  have hlen := (List.getElem?_eq_some_iff.mp ho).1
  have hql := (List.getElem?_eq_some_iff.mp hf).1
  refine ⟨?_, fun x hx => ?_, fun y hy => ?_, ?_⟩
  · refine ⟨by rw [Wr.size W]; exact H.1.1, fun b cb hb => ?_⟩
    obtain ⟨cb', e1, -, -, -, e5, -⟩ := wr_at W (H.1.2 b cb hb)
    have : b ≠ a := Nat.ne_of_lt (Nat.lt_of_lt_of_le (Array.getElem?_eq_some_iff.mp hb).1 na)
    rw [← e5 this]; exact e1
  · obtain ⟨j, hj⟩ := List.mem_iff_getElem?.mp hx
    rw [List.getElem?_set] at hj
    by_cases ij : i = j
    · subst ij
      rw [if_pos rfl, if_pos hlen] at hj
      obtain rfl := Option.some.inj hj
      obtain ⟨n1, E, F, Pw⟩ := H.2.1 _ (own_mem ho)
      refine ⟨n1, E.wr W, fun z hz => ?_, ?_⟩
      · obtain ⟨r, hr⟩ := List.mem_iff_getElem?.mp hz
        rw [List.getElem?_set] at hr
        by_cases qr : q = r
        · subst qr
          rw [if_pos rfl, if_pos hql] at hr
          obtain rfl := Option.some.inj hr
          exact Fld.same (w := v0) W (F _ (own_mem (show (a, C, fs).2.2[q]? = some (O, f, d, v0) from hf)))
        · rw [if_neg qr] at hr
          refine Fld.other W (F _ (own_mem hr)) (Or.inr fun e => ?_)
          have P2 : ∀ i j : Nat, i < j → ∀ x y, fs[i]? = some x → fs[j]? = some y → slotOf Z x.1 x.2.1 x.2.2.1 ≠ slotOf Z y.1 y.2.1 y.2.2.1 := fun i j ij x y hx hy => by
            obtain ⟨h1, rfl⟩ := List.getElem?_eq_some_iff.mp hx
            obtain ⟨h2, rfl⟩ := List.getElem?_eq_some_iff.mp hy
            exact List.pairwise_iff_getElem.mp Pw i j h1 h2 ij
          rcases Nat.lt_or_gt_of_ne qr with lt | lt
          · exact P2 q r lt _ _ hf hr e.symm
          · exact P2 r q lt _ _ hr hf e
      · have hm : (fs.set q (O, f, d, v)).map (fun f => slotOf Z f.1 f.2.1 f.2.2.1) = fs.map (fun f => slotOf Z f.1 f.2.1 f.2.2.1) := own_set_map hf rfl
        have t := List.pairwise_map.mpr Pw
        rw [← hm] at t
        exact List.pairwise_map.mp t
    · rw [if_neg ij] at hj
      obtain ⟨n1, E, F, Pw⟩ := H.2.1 _ (own_mem hj)
      exact ⟨n1, E.wr W, fun z hz => Fld.other W (F z hz) (Or.inl (H.neOO hj ho (Ne.symm ij))), Pw⟩
  · obtain ⟨n1, cl, h1, h2, h3, h4, h5⟩ := H.2.2.1 y hy
    exact ⟨n1, cl, h1.other W (Ne.symm (H.neOA (own_mem ho) hy)), h2, h3, fun q => (h4 q).wr W, h5⟩
  · rw [own_set_map (f := fun z => z.1) (x' := (a, C, fs.set q (O, f, d, v))) ho rfl]; exact H.2.2.2
theorem own_H.wrA (H : own_H Z h os as) {i q : Nat} {a : Addr} {ty : FieldType} {ad : String} {v : Value} {vs : List Value} (ha : as[i]? = some (a, ty, ad, vs)) (hq : q < vs.length) (hv : fits ty v = true) (W : Wr h h' a q v) :
    own_H Z h' os (as.set i (a, ty, ad, vs.set q v)) := by
  have na := (H.2.2.1 _ (own_mem ha)).1
  have hlen := (List.getElem?_eq_some_iff.mp ha).1
  refine ⟨?_, fun x hx => ?_, fun y hy => ?_, ?_⟩
  · refine ⟨by rw [Wr.size W]; exact H.1.1, fun b cb hb => ?_⟩
    obtain ⟨cb', e1, -, -, -, e5, -⟩ := wr_at W (H.1.2 b cb hb)
    have : b ≠ a := Nat.ne_of_lt (Nat.lt_of_lt_of_le (Array.getElem?_eq_some_iff.mp hb).1 na)
    rw [← e5 this]; exact e1
  · obtain ⟨n1, E, F, Pw⟩ := H.2.1 _ hx
    exact ⟨n1, E.wr W, fun z hz => Fld.other W (F z hz) (Or.inl (H.neOA hx (own_mem ha))), Pw⟩
  · obtain ⟨j, hj⟩ := List.mem_iff_getElem?.mp hy
    rw [List.getElem?_set] at hj
    by_cases ij : i = j
    · subst ij
      rw [if_pos rfl, if_pos hlen] at hj
      obtain rfl := Option.some.inj hj
      obtain ⟨n1, cl, h1, h2, h3, h4, h5⟩ := H.2.2.1 _ (own_mem ha)
      refine ⟨n1, _, h1.same W, ?_, fun z hz => ?_, fun q => (h4 q).wr W, h5⟩
      · show (cl.setSlot q v).slots.toList = vs.set q v
        rw [show (cl.setSlot q v).slots = cl.slots.setIfInBounds q v from rfl, Array.toList_setIfInBounds, show cl.slots.toList = vs from h2]
      · rcases List.mem_or_eq_of_mem_set hz with hz | rfl
        · exact h3 z hz
        · exact hv
    · rw [if_neg ij] at hj
      obtain ⟨n1, cl, h1, h2, h3, h4, h5⟩ := H.2.2.1 _ (own_mem hj)
      exact ⟨n1, cl, h1.other W (H.neAA hj ha (Ne.symm ij)), h2, h3, fun q => (h4 q).wr W, h5⟩
  · rw [own_set_map (f := fun z => z.1) (x' := (a, ty, ad, vs.set q v)) ha rfl]; exact H.2.2.2
theorem own_le {a b : Nat} (h : Nat.ble a b = true) : a ≤ b := Nat.le_of_ble_eq_true h
theorem own_idx {j : Int32} {q : Nat} (hj : j.toInt = (q : Int)) : j.toNatClampNeg = q := by simp only [Int32.toNatClampNeg, hj]; rfl
theorem own_in {j : Int32} {q N : Nat} (hj : j.toInt = (q : Int)) (hq : q < N) : ¬ (j < 0 ∨ N ≤ j.toNatClampNeg) := by
  rw [own_idx hj, Int32.lt_iff_toInt_lt, hj, show (0 : Int32).toInt = 0 from rfl]; omega
theorem own_len {N : Int32} {q : Nat} (hN : N.toInt = (q : Int)) : q.toInt32 = N := by
  have := Int32.toInt_lt N
  exact Int32.toInt_inj.mp ((len_toInt (by omega)).trans hN.symm)
/-! ## steps -/
theorem own_zw {vm : Vm} (hZ : Z.Warmed39 s.vm) {q : Nat} (hS : s.Since vm q) : Z.Warmed39 (s.setVm vm).vm := State.Warmed39.trans (t := s) hZ hS.1
theorem own_pure (K : own_Cx p s m meth c Z own nm bytes maxL ret)
    (f : ∀ {T : State} {L : List Loc} {vm : Vm}, Stand p l e R (s.setVm vm) m args below meth c T L k n → Z.Warmed39 (s.setVm vm).vm → (s.setVm vm).vm.findClass own = some m.cls → T.heap = h → ∀ target, Steps p.tables e below (T.setTop g') target → Steps p.tables e below (T.setTop g) target)
    (hr : own_G w p l e R s m args below meth c Z Q h k n g') : own_G w p l e R s m args below meth c Z Q h k n g := by
  intro T hX
  obtain ⟨T', v, h', k', n', hX', r1, r2, r3, r4, r5⟩ := hr T hX
  obtain ⟨L, vm, X, -, eT, -, hS⟩ := hX
  exact ⟨T', v, h', k', n', hX', r1, r2, r3, r4, fun fs q => f X (own_zw K.2.2.2.2.2.1 hS) (by rw [show (s.setVm vm).vm = vm from rfl, hS.1.alike.findClass]; exact K.2.2.2.2.2.2.1) eT _ (r5 fs q)⟩
theorem own_since {vm : Vm} {q q' : Nat} (hS : s.Since vm q) (hq : q ≤ q') : s.Since vm q' := ⟨hS.1, hS.2.mono hq⟩
theorem own_step {P : Heap → Prop} (K : own_Cx p s m meth c Z own nm bytes maxL ret)
    (f : ∀ {T : State} {L : List Loc} {vm : Vm}, Stand p l e R (s.setVm vm) m args below meth c T L k n → Z.Warmed39 (s.setVm vm).vm → (s.setVm vm).vm.findClass own = some m.cls → T.heap = h → Fr Z.heap.size L →
      ∃ (T' : State) (h' : Heap) (L' : List Loc), Stand p l e R (s.setVm vm) m args below meth c T' L' k' n' ∧ Fr Z.heap.size L' ∧ T'.heap = h' ∧ h.size ≤ h'.size ∧ P h' ∧ ∀ target, Steps p.tables e below (T'.setTop g') target → Steps p.tables e below (T.setTop g) target)
    (hr : ∀ h', P h' → own_G w p l e R s m args below meth c Z Q h' k' n' g') : own_G w p l e R s m args below meth c Z Q h k n g := by
  intro T hX
  obtain ⟨L, vm, X, N, eT, hw, hS⟩ := hX
  obtain ⟨T1, h1, L1, X1, N1, e1, z1, P1, st⟩ := f X (own_zw K.2.2.2.2.2.1 hS) (by rw [show (s.setVm vm).vm = vm from rfl, hS.1.alike.findClass]; exact K.2.2.2.2.2.2.1) eT N
  obtain ⟨T', v, h', k', n', hX', r1, r2, r3, r4, r5⟩ := hr h1 P1 T1 ⟨L1, vm, X1, N1, e1, hw, own_since hS z1⟩
  exact ⟨T', v, h', k', n', hX', r1, r2, r3, r4, fun fs q => st _ (r5 fs q)⟩
theorem own_iload (K : own_Cx p s m meth c Z own nm bytes maxL ret) {kk : Nat} {v : Int32} (hd : own_D bytes pc (.iload kk) 2 pc') (hl : Ls[kk]? = some (.val (.int v))) (hr : own_G w p l e R s m args below meth c Z Q h k n (mkF m pc' Ls (.int v :: st))) : own_G w p l e R s m args below meth c Z Q h k n (mkF m pc Ls (st)) := by
  obtain ⟨hd, rfl⟩ := hd
  exact own_pure K (fun X _ _ _ _ q => XS.iload X.here K.1 rfl (hb K.2.1 hd) hl q) hr
theorem own_iloadN (K : own_Cx p s m meth c Z own nm bytes maxL ret) {kk : Fin 4} {v : Int32} (hd : own_D bytes pc (.iload_n kk) 1 pc') (hl : Ls[kk.val]? = some (.val (.int v))) (hr : own_G w p l e R s m args below meth c Z Q h k n (mkF m pc' Ls (.int v :: st))) : own_G w p l e R s m args below meth c Z Q h k n (mkF m pc Ls (st)) := by
  obtain ⟨hd, rfl⟩ := hd
  exact own_pure K (fun X _ _ _ _ q => XS.iloadN X.here K.1 rfl (hb K.2.1 hd) hl q) hr
theorem own_istore (K : own_Cx p s m meth c Z own nm bytes maxL ret) {kk : Nat} {v : Int32} (hd : own_D bytes pc (.istore kk) 2 pc') (hl : storeLocals Ls kk (.int v) = some Ls') (hr : own_G w p l e R s m args below meth c Z Q h k n (mkF m pc' Ls' (st))) : own_G w p l e R s m args below meth c Z Q h k n (mkF m pc Ls (.int v :: st)) := by
  obtain ⟨hd, rfl⟩ := hd
  exact own_pure K (fun X _ _ _ _ q => XS.istore X.here K.1 rfl (hb K.2.1 hd) rfl hl q) hr
theorem own_istoreN (K : own_Cx p s m meth c Z own nm bytes maxL ret) {kk : Fin 4} {v : Int32} (hd : own_D bytes pc (.istore_n kk) 1 pc') (hl : storeLocals Ls kk.val (.int v) = some Ls') (hr : own_G w p l e R s m args below meth c Z Q h k n (mkF m pc' Ls' (st))) : own_G w p l e R s m args below meth c Z Q h k n (mkF m pc Ls (.int v :: st)) := by
  obtain ⟨hd, rfl⟩ := hd
  exact own_pure K (fun X _ _ _ _ q => XS.istoreN X.here K.1 rfl (hb K.2.1 hd) rfl hl q) hr
theorem own_lload (K : own_Cx p s m meth c Z own nm bytes maxL ret) {kk : Nat} {v : Int64} (hd : own_D bytes pc (.lload kk) 2 pc') (hl : Ls[kk]? = some (.val (.long v))) (hr : own_G w p l e R s m args below meth c Z Q h k n (mkF m pc' Ls (.long v :: st))) : own_G w p l e R s m args below meth c Z Q h k n (mkF m pc Ls (st)) := by
  obtain ⟨hd, rfl⟩ := hd
  exact own_pure K (fun X _ _ _ _ q => XT.lload X.here K.1 rfl (hb K.2.1 hd) hl q) hr
theorem own_lloadN (K : own_Cx p s m meth c Z own nm bytes maxL ret) {kk : Fin 4} {v : Int64} (hd : own_D bytes pc (.lload_n kk) 1 pc') (hl : Ls[kk.val]? = some (.val (.long v))) (hr : own_G w p l e R s m args below meth c Z Q h k n (mkF m pc' Ls (.long v :: st))) : own_G w p l e R s m args below meth c Z Q h k n (mkF m pc Ls (st)) := by
  obtain ⟨hd, rfl⟩ := hd
  exact own_pure K (fun X _ _ _ _ q => XT.lloadN X.here K.1 rfl (hb K.2.1 hd) hl q) hr
theorem own_lstore (K : own_Cx p s m meth c Z own nm bytes maxL ret) {kk : Nat} {v : Int64} (hd : own_D bytes pc (.lstore kk) 2 pc') (hl : storeLocals Ls kk (.long v) = some Ls') (hr : own_G w p l e R s m args below meth c Z Q h k n (mkF m pc' Ls' (st))) : own_G w p l e R s m args below meth c Z Q h k n (mkF m pc Ls (.long v :: st)) := by
  obtain ⟨hd, rfl⟩ := hd
  exact own_pure K (fun X _ _ _ _ q => XT.lstore X.here K.1 rfl (hb K.2.1 hd) rfl hl q) hr
theorem own_lstoreN (K : own_Cx p s m meth c Z own nm bytes maxL ret) {kk : Fin 4} {v : Int64} (hd : own_D bytes pc (.lstore_n kk) 1 pc') (hl : storeLocals Ls kk.val (.long v) = some Ls') (hr : own_G w p l e R s m args below meth c Z Q h k n (mkF m pc' Ls' (st))) : own_G w p l e R s m args below meth c Z Q h k n (mkF m pc Ls (.long v :: st)) := by
  obtain ⟨hd, rfl⟩ := hd
  exact own_pure K (fun X _ _ _ _ q => XT.lstoreN X.here K.1 rfl (hb K.2.1 hd) rfl hl q) hr
theorem own_dload (K : own_Cx p s m meth c Z own nm bytes maxL ret) {kk : Nat} {v : UInt64} (hd : own_D bytes pc (.dload kk) 2 pc') (hl : Ls[kk]? = some (.val (.double v))) (hr : own_G w p l e R s m args below meth c Z Q h k n (mkF m pc' Ls (.double v :: st))) : own_G w p l e R s m args below meth c Z Q h k n (mkF m pc Ls (st)) := by
  obtain ⟨hd, rfl⟩ := hd
  exact own_pure K (fun X _ _ _ _ q => XS.dload X.here K.1 rfl (hb K.2.1 hd) hl q) hr
theorem own_dloadN (K : own_Cx p s m meth c Z own nm bytes maxL ret) {kk : Fin 4} {v : UInt64} (hd : own_D bytes pc (.dload_n kk) 1 pc') (hl : Ls[kk.val]? = some (.val (.double v))) (hr : own_G w p l e R s m args below meth c Z Q h k n (mkF m pc' Ls (.double v :: st))) : own_G w p l e R s m args below meth c Z Q h k n (mkF m pc Ls (st)) := by
  obtain ⟨hd, rfl⟩ := hd
  exact own_pure K (fun X _ _ _ _ q => XS.dloadN X.here K.1 rfl (hb K.2.1 hd) hl q) hr
theorem own_dstore (K : own_Cx p s m meth c Z own nm bytes maxL ret) {kk : Nat} {v : UInt64} (hd : own_D bytes pc (.dstore kk) 2 pc') (hl : storeLocals Ls kk (.double v) = some Ls') (hr : own_G w p l e R s m args below meth c Z Q h k n (mkF m pc' Ls' (st))) : own_G w p l e R s m args below meth c Z Q h k n (mkF m pc Ls (.double v :: st)) := by
  obtain ⟨hd, rfl⟩ := hd
  exact own_pure K (fun X _ _ _ _ q => XS.dstore X.here K.1 rfl (hb K.2.1 hd) rfl hl q) hr
theorem own_dstoreN (K : own_Cx p s m meth c Z own nm bytes maxL ret) {kk : Fin 4} {v : UInt64} (hd : own_D bytes pc (.dstore_n kk) 1 pc') (hl : storeLocals Ls kk.val (.double v) = some Ls') (hr : own_G w p l e R s m args below meth c Z Q h k n (mkF m pc' Ls' (st))) : own_G w p l e R s m args below meth c Z Q h k n (mkF m pc Ls (.double v :: st)) := by
  obtain ⟨hd, rfl⟩ := hd
  exact own_pure K (fun X _ _ _ _ q => XS.dstoreN X.here K.1 rfl (hb K.2.1 hd) rfl hl q) hr
theorem own_aload (K : own_Cx p s m meth c Z own nm bytes maxL ret) {kk : Nat} {v : Value} (hd : own_D bytes pc (.aload kk) 2 pc') (hl : Ls[kk]? = some (.val v)) (hv : v.isRef = true) (hr : own_G w p l e R s m args below meth c Z Q h k n (mkF m pc' Ls (v :: st))) : own_G w p l e R s m args below meth c Z Q h k n (mkF m pc Ls (st)) := by
  obtain ⟨hd, rfl⟩ := hd
  exact own_pure K (fun X _ _ _ _ q => XS.aload X.here K.1 rfl (hb K.2.1 hd) hl hv q) hr
theorem own_aloadN (K : own_Cx p s m meth c Z own nm bytes maxL ret) {kk : Fin 4} {v : Value} (hd : own_D bytes pc (.aload_n kk) 1 pc') (hl : Ls[kk.val]? = some (.val v)) (hv : v.isRef = true) (hr : own_G w p l e R s m args below meth c Z Q h k n (mkF m pc' Ls (v :: st))) : own_G w p l e R s m args below meth c Z Q h k n (mkF m pc Ls (st)) := by
  obtain ⟨hd, rfl⟩ := hd
  exact own_pure K (fun X _ _ _ _ q => XS.aloadN X.here K.1 rfl (hb K.2.1 hd) hl hv q) hr
theorem own_astore (K : own_Cx p s m meth c Z own nm bytes maxL ret) {kk : Nat} {v : Value} (hd : own_D bytes pc (.astore kk) 2 pc') (hv : v.isRef = true) (hl : storeLocals Ls kk v = some Ls') (hr : own_G w p l e R s m args below meth c Z Q h k n (mkF m pc' Ls' (st))) : own_G w p l e R s m args below meth c Z Q h k n (mkF m pc Ls (v :: st)) := by
  obtain ⟨hd, rfl⟩ := hd
  exact own_pure K (fun X _ _ _ _ q => XS.astore X.here K.1 rfl (hb K.2.1 hd) rfl hv hl q) hr
theorem own_astoreN (K : own_Cx p s m meth c Z own nm bytes maxL ret) {kk : Fin 4} {v : Value} (hd : own_D bytes pc (.astore_n kk) 1 pc') (hv : v.isRef = true) (hl : storeLocals Ls kk.val v = some Ls') (hr : own_G w p l e R s m args below meth c Z Q h k n (mkF m pc' Ls' (st))) : own_G w p l e R s m args below meth c Z Q h k n (mkF m pc Ls (v :: st)) := by
  obtain ⟨hd, rfl⟩ := hd
  exact own_pure K (fun X _ _ _ _ q => XS.astoreN X.here K.1 rfl (hb K.2.1 hd) rfl hv hl q) hr
theorem own_iconst (K : own_Cx p s m meth c Z own nm bytes maxL ret) {i : Int} {v : Int32} (hd : own_D bytes pc (.iconst i) 1 pc') (hv : Int32.ofInt i = v) (hr : own_G w p l e R s m args below meth c Z Q h k n (mkF m pc' Ls (.int v :: st))) : own_G w p l e R s m args below meth c Z Q h k n (mkF m pc Ls st) := by
  obtain ⟨hd, rfl⟩ := hd
  subst hv
  exact own_pure K (fun X _ _ _ _ q => XS.iconst X.here K.1 rfl (hb K.2.1 hd) q) hr
theorem own_bipush (K : own_Cx p s m meth c Z own nm bytes maxL ret) {i : Int} {v : Int32} (hd : own_D bytes pc (.bipush i) 2 pc') (hv : (Int8.ofInt i).toInt32 = v) (hr : own_G w p l e R s m args below meth c Z Q h k n (mkF m pc' Ls (.int v :: st))) : own_G w p l e R s m args below meth c Z Q h k n (mkF m pc Ls st) := by
  obtain ⟨hd, rfl⟩ := hd
  subst hv
  exact own_pure K (fun X _ _ _ _ q => XS.bipush X.here K.1 rfl (hb K.2.1 hd) q) hr
theorem own_sipush (K : own_Cx p s m meth c Z own nm bytes maxL ret) {i : Int} {v : Int32} (hd : own_D bytes pc (.sipush i) 3 pc') (hv : (Int16.ofInt i).toInt32 = v) (hr : own_G w p l e R s m args below meth c Z Q h k n (mkF m pc' Ls (.int v :: st))) : own_G w p l e R s m args below meth c Z Q h k n (mkF m pc Ls st) := by
  obtain ⟨hd, rfl⟩ := hd
  subst hv
  exact own_pure K (fun X _ _ _ _ q => XS.sipush X.here K.1 rfl (hb K.2.1 hd) q) hr
theorem own_lconst (K : own_Cx p s m meth c Z own nm bytes maxL ret) {i : Fin 2} {v : Int64} (hd : own_D bytes pc (.lconst i) 1 pc') (hv : Int64.ofNat i = v) (hr : own_G w p l e R s m args below meth c Z Q h k n (mkF m pc' Ls (.long v :: st))) : own_G w p l e R s m args below meth c Z Q h k n (mkF m pc Ls st) := by
  obtain ⟨hd, rfl⟩ := hd
  subst hv
  exact own_pure K (fun X _ _ _ _ q => XT.lconst X.here K.1 rfl (hb K.2.1 hd) q) hr
theorem own_dconst0 (K : own_Cx p s m meth c Z own nm bytes maxL ret) {v : UInt64} (hd : own_D bytes pc (.dconst 0) 1 pc') (hv : FP.dconst0 = v) (hr : own_G w p l e R s m args below meth c Z Q h k n (mkF m pc' Ls (.double v :: st))) : own_G w p l e R s m args below meth c Z Q h k n (mkF m pc Ls st) := by
  obtain ⟨hd, rfl⟩ := hd
  exact own_pure K (fun X _ _ _ _ q => XS.dconst0 X.here K.1 rfl (hb K.2.1 hd) hv q) hr
theorem own_dconst1 (K : own_Cx p s m meth c Z own nm bytes maxL ret) {v : UInt64} (hd : own_D bytes pc (.dconst 1) 1 pc') (hv : FP.dconst1 = v) (hr : own_G w p l e R s m args below meth c Z Q h k n (mkF m pc' Ls (.double v :: st))) : own_G w p l e R s m args below meth c Z Q h k n (mkF m pc Ls st) := by
  obtain ⟨hd, rfl⟩ := hd
  exact own_pure K (fun X _ _ _ _ q => XS.dconst1 X.here K.1 rfl (hb K.2.1 hd) hv q) hr
theorem own_aconstNull (K : own_Cx p s m meth c Z own nm bytes maxL ret)  (hd : own_D bytes pc (.aconst_null) 1 pc') (hr : own_G w p l e R s m args below meth c Z Q h k n (mkF m pc' Ls (.null :: st))) : own_G w p l e R s m args below meth c Z Q h k n (mkF m pc Ls (st)) := by
  obtain ⟨hd, rfl⟩ := hd
  exact own_pure K (fun X _ _ _ _ q => XS.aconstNull X.here K.1 rfl (hb K.2.1 hd)  q) hr
theorem own_iadd (K : own_Cx p s m meth c Z own nm bytes maxL ret) {x y : Int32} (hd : own_D bytes pc (.iadd) 1 pc') (hr : own_G w p l e R s m args below meth c Z Q h k n (mkF m pc' Ls (.int (x + y) :: st))) : own_G w p l e R s m args below meth c Z Q h k n (mkF m pc Ls (.int y :: .int x :: st)) := by
  obtain ⟨hd, rfl⟩ := hd
  exact own_pure K (fun X _ _ _ _ q => XS.iadd X.here K.1 rfl (hb K.2.1 hd) rfl q) hr
theorem own_isub (K : own_Cx p s m meth c Z own nm bytes maxL ret) {x y : Int32} (hd : own_D bytes pc (.isub) 1 pc') (hr : own_G w p l e R s m args below meth c Z Q h k n (mkF m pc' Ls (.int (x - y) :: st))) : own_G w p l e R s m args below meth c Z Q h k n (mkF m pc Ls (.int y :: .int x :: st)) := by
  obtain ⟨hd, rfl⟩ := hd
  exact own_pure K (fun X _ _ _ _ q => XS.isub X.here K.1 rfl (hb K.2.1 hd) rfl q) hr
theorem own_iand (K : own_Cx p s m meth c Z own nm bytes maxL ret) {x y : Int32} (hd : own_D bytes pc (.iand) 1 pc') (hr : own_G w p l e R s m args below meth c Z Q h k n (mkF m pc' Ls (.int (x &&& y) :: st))) : own_G w p l e R s m args below meth c Z Q h k n (mkF m pc Ls (.int y :: .int x :: st)) := by
  obtain ⟨hd, rfl⟩ := hd
  exact own_pure K (fun X _ _ _ _ q => XS.iand X.here K.1 rfl (hb K.2.1 hd) rfl q) hr
theorem own_imul (K : own_Cx p s m meth c Z own nm bytes maxL ret) {x y : Int32} (hd : own_D bytes pc (.imul) 1 pc') (hr : own_G w p l e R s m args below meth c Z Q h k n (mkF m pc' Ls (.int (x * y) :: st))) : own_G w p l e R s m args below meth c Z Q h k n (mkF m pc Ls (.int y :: .int x :: st)) := by
  obtain ⟨hd, rfl⟩ := hd
  exact own_pure K (fun X _ _ _ _ q => XS.imul X.here K.1 rfl (hb K.2.1 hd) rfl q) hr
theorem own_ixor (K : own_Cx p s m meth c Z own nm bytes maxL ret) {x y : Int32} (hd : own_D bytes pc (.ixor) 1 pc') (hr : own_G w p l e R s m args below meth c Z Q h k n (mkF m pc' Ls (.int (x ^^^ y) :: st))) : own_G w p l e R s m args below meth c Z Q h k n (mkF m pc Ls (.int y :: .int x :: st)) := by
  obtain ⟨hd, rfl⟩ := hd
  exact own_pure K (fun X _ _ _ _ q => XT.ixor X.here K.1 rfl (hb K.2.1 hd) rfl q) hr
theorem own_ior (K : own_Cx p s m meth c Z own nm bytes maxL ret) {x y : Int32} (hd : own_D bytes pc (.ior) 1 pc') (hr : own_G w p l e R s m args below meth c Z Q h k n (mkF m pc' Ls (.int (x ||| y) :: st))) : own_G w p l e R s m args below meth c Z Q h k n (mkF m pc Ls (.int y :: .int x :: st)) := by
  obtain ⟨hd, rfl⟩ := hd
  exact own_pure K (fun X _ _ _ _ q => XT.ior X.here K.1 rfl (hb K.2.1 hd) rfl q) hr
theorem own_ishl (K : own_Cx p s m meth c Z own nm bytes maxL ret) {x y : Int32} (hd : own_D bytes pc (.ishl) 1 pc') (hr : own_G w p l e R s m args below meth c Z Q h k n (mkF m pc' Ls (.int (x <<< (y &&& 31)) :: st))) : own_G w p l e R s m args below meth c Z Q h k n (mkF m pc Ls (.int y :: .int x :: st)) := by
  obtain ⟨hd, rfl⟩ := hd
  exact own_pure K (fun X _ _ _ _ q => XT.ishl X.here K.1 rfl (hb K.2.1 hd) rfl q) hr
theorem own_ishr (K : own_Cx p s m meth c Z own nm bytes maxL ret) {x y : Int32} (hd : own_D bytes pc (.ishr) 1 pc') (hr : own_G w p l e R s m args below meth c Z Q h k n (mkF m pc' Ls (.int (x >>> (y &&& 31)) :: st))) : own_G w p l e R s m args below meth c Z Q h k n (mkF m pc Ls (.int y :: .int x :: st)) := by
  obtain ⟨hd, rfl⟩ := hd
  exact own_pure K (fun X _ _ _ _ q => XT.ishr X.here K.1 rfl (hb K.2.1 hd) rfl q) hr
theorem own_iushr (K : own_Cx p s m meth c Z own nm bytes maxL ret) {x y : Int32} (hd : own_D bytes pc (.iushr) 1 pc') (hr : own_G w p l e R s m args below meth c Z Q h k n (mkF m pc' Ls (.int (XT.ushr x y) :: st))) : own_G w p l e R s m args below meth c Z Q h k n (mkF m pc Ls (.int y :: .int x :: st)) := by
  obtain ⟨hd, rfl⟩ := hd
  exact own_pure K (fun X _ _ _ _ q => XT.iushr X.here K.1 rfl (hb K.2.1 hd) rfl q) hr
theorem own_ladd (K : own_Cx p s m meth c Z own nm bytes maxL ret) {x y : Int64} (hd : own_D bytes pc (.ladd) 1 pc') (hr : own_G w p l e R s m args below meth c Z Q h k n (mkF m pc' Ls (.long (x + y) :: st))) : own_G w p l e R s m args below meth c Z Q h k n (mkF m pc Ls (.long y :: .long x :: st)) := by
  obtain ⟨hd, rfl⟩ := hd
  exact own_pure K (fun X _ _ _ _ q => XT.ladd X.here K.1 rfl (hb K.2.1 hd) rfl q) hr
theorem own_lsub (K : own_Cx p s m meth c Z own nm bytes maxL ret) {x y : Int64} (hd : own_D bytes pc (.lsub) 1 pc') (hr : own_G w p l e R s m args below meth c Z Q h k n (mkF m pc' Ls (.long (x - y) :: st))) : own_G w p l e R s m args below meth c Z Q h k n (mkF m pc Ls (.long y :: .long x :: st)) := by
  obtain ⟨hd, rfl⟩ := hd
  exact own_pure K (fun X _ _ _ _ q => XT.lsub X.here K.1 rfl (hb K.2.1 hd) rfl q) hr
theorem own_lmul (K : own_Cx p s m meth c Z own nm bytes maxL ret) {x y : Int64} (hd : own_D bytes pc (.lmul) 1 pc') (hr : own_G w p l e R s m args below meth c Z Q h k n (mkF m pc' Ls (.long (x * y) :: st))) : own_G w p l e R s m args below meth c Z Q h k n (mkF m pc Ls (.long y :: .long x :: st)) := by
  obtain ⟨hd, rfl⟩ := hd
  exact own_pure K (fun X _ _ _ _ q => XT.lmul X.here K.1 rfl (hb K.2.1 hd) rfl q) hr
theorem own_land (K : own_Cx p s m meth c Z own nm bytes maxL ret) {x y : Int64} (hd : own_D bytes pc (.land) 1 pc') (hr : own_G w p l e R s m args below meth c Z Q h k n (mkF m pc' Ls (.long (x &&& y) :: st))) : own_G w p l e R s m args below meth c Z Q h k n (mkF m pc Ls (.long y :: .long x :: st)) := by
  obtain ⟨hd, rfl⟩ := hd
  exact own_pure K (fun X _ _ _ _ q => XT.land X.here K.1 rfl (hb K.2.1 hd) rfl q) hr
theorem own_lor (K : own_Cx p s m meth c Z own nm bytes maxL ret) {x y : Int64} (hd : own_D bytes pc (.lor) 1 pc') (hr : own_G w p l e R s m args below meth c Z Q h k n (mkF m pc' Ls (.long (x ||| y) :: st))) : own_G w p l e R s m args below meth c Z Q h k n (mkF m pc Ls (.long y :: .long x :: st)) := by
  obtain ⟨hd, rfl⟩ := hd
  exact own_pure K (fun X _ _ _ _ q => XT.lor X.here K.1 rfl (hb K.2.1 hd) rfl q) hr
theorem own_lxor (K : own_Cx p s m meth c Z own nm bytes maxL ret) {x y : Int64} (hd : own_D bytes pc (.lxor) 1 pc') (hr : own_G w p l e R s m args below meth c Z Q h k n (mkF m pc' Ls (.long (x ^^^ y) :: st))) : own_G w p l e R s m args below meth c Z Q h k n (mkF m pc Ls (.long y :: .long x :: st)) := by
  obtain ⟨hd, rfl⟩ := hd
  exact own_pure K (fun X _ _ _ _ q => XT.lxor X.here K.1 rfl (hb K.2.1 hd) rfl q) hr
theorem own_lshl (K : own_Cx p s m meth c Z own nm bytes maxL ret) {x : Int64} {y : Int32} (hd : own_D bytes pc (.lshl) 1 pc') (hr : own_G w p l e R s m args below meth c Z Q h k n (mkF m pc' Ls (.long (x <<< (y.toInt64 &&& 63)) :: st))) : own_G w p l e R s m args below meth c Z Q h k n (mkF m pc Ls (.int y :: .long x :: st)) := by
  obtain ⟨hd, rfl⟩ := hd
  exact own_pure K (fun X _ _ _ _ q => XT.lshl X.here K.1 rfl (hb K.2.1 hd) rfl q) hr
theorem own_lshr (K : own_Cx p s m meth c Z own nm bytes maxL ret) {x : Int64} {y : Int32} (hd : own_D bytes pc (.lshr) 1 pc') (hr : own_G w p l e R s m args below meth c Z Q h k n (mkF m pc' Ls (.long (x >>> (y.toInt64 &&& 63)) :: st))) : own_G w p l e R s m args below meth c Z Q h k n (mkF m pc Ls (.int y :: .long x :: st)) := by
  obtain ⟨hd, rfl⟩ := hd
  exact own_pure K (fun X _ _ _ _ q => XT.lshr X.here K.1 rfl (hb K.2.1 hd) rfl q) hr
theorem own_lushr (K : own_Cx p s m meth c Z own nm bytes maxL ret) {x : Int64} {y : Int32} (hd : own_D bytes pc (.lushr) 1 pc') (hr : own_G w p l e R s m args below meth c Z Q h k n (mkF m pc' Ls (.long (XT.ushrL x y) :: st))) : own_G w p l e R s m args below meth c Z Q h k n (mkF m pc Ls (.int y :: .long x :: st)) := by
  obtain ⟨hd, rfl⟩ := hd
  exact own_pure K (fun X _ _ _ _ q => XT.lushr X.here K.1 rfl (hb K.2.1 hd) rfl q) hr
theorem own_lcmp (K : own_Cx p s m meth c Z own nm bytes maxL ret) {x y : Int64} (hd : own_D bytes pc (.lcmp) 1 pc') (hr : own_G w p l e R s m args below meth c Z Q h k n (mkF m pc' Ls (.int (XT.cmpL x y) :: st))) : own_G w p l e R s m args below meth c Z Q h k n (mkF m pc Ls (.long y :: .long x :: st)) := by
  obtain ⟨hd, rfl⟩ := hd
  exact own_pure K (fun X _ _ _ _ q => XT.lcmp X.here K.1 rfl (hb K.2.1 hd) rfl q) hr
theorem own_idiv (K : own_Cx p s m meth c Z own nm bytes maxL ret) {x y : Int32} (hd : own_D bytes pc (.idiv) 1 pc') (hy : y ≠ 0) (hr : own_G w p l e R s m args below meth c Z Q h k n (mkF m pc' Ls (.int (x / y) :: st))) : own_G w p l e R s m args below meth c Z Q h k n (mkF m pc Ls (.int y :: .int x :: st)) := by
  obtain ⟨hd, rfl⟩ := hd
  exact own_pure K (fun X _ _ _ _ q => XS.idiv X.here K.1 rfl (hb K.2.1 hd) rfl hy q) hr
theorem own_ldiv (K : own_Cx p s m meth c Z own nm bytes maxL ret) {x y : Int64} (hd : own_D bytes pc (.ldiv) 1 pc') (hy : y ≠ 0) (hr : own_G w p l e R s m args below meth c Z Q h k n (mkF m pc' Ls (.long (x / y) :: st))) : own_G w p l e R s m args below meth c Z Q h k n (mkF m pc Ls (.long y :: .long x :: st)) := by
  obtain ⟨hd, rfl⟩ := hd
  exact own_pure K (fun X _ _ _ _ q => XT.ldiv X.here K.1 rfl (hb K.2.1 hd) rfl hy q) hr
theorem own_irem (K : own_Cx p s m meth c Z own nm bytes maxL ret) {x y : Int32} (hd : own_D bytes pc .irem 1 pc') (hy : y ≠ 0) (hr : own_G w p l e R s m args below meth c Z Q h k n (mkF m pc' Ls (.int (x % y) :: st))) : own_G w p l e R s m args below meth c Z Q h k n (mkF m pc Ls (.int y :: .int x :: st)) := by
  obtain ⟨hd, rfl⟩ := hd
  exact own_pure K (fun X _ _ _ _ q => iremM X K.1 rfl (hb K.2.1 hd) rfl hy q) hr
theorem own_ineg (K : own_Cx p s m meth c Z own nm bytes maxL ret) {x : Int32} (hd : own_D bytes pc (.ineg) 1 pc') (hr : own_G w p l e R s m args below meth c Z Q h k n (mkF m pc' Ls (.int (-x) :: st))) : own_G w p l e R s m args below meth c Z Q h k n (mkF m pc Ls (.int x :: st)) := by
  obtain ⟨hd, rfl⟩ := hd
  exact own_pure K (fun X _ _ _ _ q => XS.ineg X.here K.1 rfl (hb K.2.1 hd) rfl q) hr
theorem own_lneg (K : own_Cx p s m meth c Z own nm bytes maxL ret) {x : Int64} (hd : own_D bytes pc (.lneg) 1 pc') (hr : own_G w p l e R s m args below meth c Z Q h k n (mkF m pc' Ls (.long (-x) :: st))) : own_G w p l e R s m args below meth c Z Q h k n (mkF m pc Ls (.long x :: st)) := by
  obtain ⟨hd, rfl⟩ := hd
  exact own_pure K (fun X _ _ _ _ q => XT.lneg X.here K.1 rfl (hb K.2.1 hd) rfl q) hr
theorem own_i2l (K : own_Cx p s m meth c Z own nm bytes maxL ret) {x : Int32} (hd : own_D bytes pc (.i2l) 1 pc') (hr : own_G w p l e R s m args below meth c Z Q h k n (mkF m pc' Ls (.long (x.toInt64) :: st))) : own_G w p l e R s m args below meth c Z Q h k n (mkF m pc Ls (.int x :: st)) := by
  obtain ⟨hd, rfl⟩ := hd
  exact own_pure K (fun X _ _ _ _ q => XT.i2l X.here K.1 rfl (hb K.2.1 hd) rfl q) hr
theorem own_l2i (K : own_Cx p s m meth c Z own nm bytes maxL ret) {x : Int64} (hd : own_D bytes pc (.l2i) 1 pc') (hr : own_G w p l e R s m args below meth c Z Q h k n (mkF m pc' Ls (.int (x.toInt32) :: st))) : own_G w p l e R s m args below meth c Z Q h k n (mkF m pc Ls (.long x :: st)) := by
  obtain ⟨hd, rfl⟩ := hd
  exact own_pure K (fun X _ _ _ _ q => XT.l2i X.here K.1 rfl (hb K.2.1 hd) rfl q) hr
theorem own_i2b (K : own_Cx p s m meth c Z own nm bytes maxL ret) {x : Int32} (hd : own_D bytes pc (.i2b) 1 pc') (hr : own_G w p l e R s m args below meth c Z Q h k n (mkF m pc' Ls (.int (x.toInt8.toInt32) :: st))) : own_G w p l e R s m args below meth c Z Q h k n (mkF m pc Ls (.int x :: st)) := by
  obtain ⟨hd, rfl⟩ := hd
  exact own_pure K (fun X _ _ _ _ q => XT.i2b X.here K.1 rfl (hb K.2.1 hd) rfl q) hr
theorem own_i2c (K : own_Cx p s m meth c Z own nm bytes maxL ret) {x : Int32} (hd : own_D bytes pc (.i2c) 1 pc') (hr : own_G w p l e R s m args below meth c Z Q h k n (mkF m pc' Ls (.int (x.toUInt32.toUInt16.toUInt32.toInt32) :: st))) : own_G w p l e R s m args below meth c Z Q h k n (mkF m pc Ls (.int x :: st)) := by
  obtain ⟨hd, rfl⟩ := hd
  exact own_pure K (fun X _ _ _ _ q => XT.i2c X.here K.1 rfl (hb K.2.1 hd) rfl q) hr
theorem own_i2s (K : own_Cx p s m meth c Z own nm bytes maxL ret) {x : Int32} (hd : own_D bytes pc (.i2s) 1 pc') (hr : own_G w p l e R s m args below meth c Z Q h k n (mkF m pc' Ls (.int (x.toInt16.toInt32) :: st))) : own_G w p l e R s m args below meth c Z Q h k n (mkF m pc Ls (.int x :: st)) := by
  obtain ⟨hd, rfl⟩ := hd
  exact own_pure K (fun X _ _ _ _ q => XT.i2s X.here K.1 rfl (hb K.2.1 hd) rfl q) hr
theorem own_i2d (K : own_Cx p s m meth c Z own nm bytes maxL ret) {x : Int32} (hd : own_D bytes pc (.i2d) 1 pc') (hr : own_G w p l e R s m args below meth c Z Q h k n (mkF m pc' Ls (.double (FP.i2d x) :: st))) : own_G w p l e R s m args below meth c Z Q h k n (mkF m pc Ls (.int x :: st)) := by
  obtain ⟨hd, rfl⟩ := hd
  exact own_pure K (fun X _ _ _ _ q => XS.i2dS X.here K.1 rfl (hb K.2.1 hd) rfl rfl q) hr
theorem own_l2d (K : own_Cx p s m meth c Z own nm bytes maxL ret) {x : Int64} (hd : own_D bytes pc (.l2d) 1 pc') (hr : own_G w p l e R s m args below meth c Z Q h k n (mkF m pc' Ls (.double (FP.l2d x) :: st))) : own_G w p l e R s m args below meth c Z Q h k n (mkF m pc Ls (.long x :: st)) := by
  obtain ⟨hd, rfl⟩ := hd
  exact own_pure K (fun X _ _ _ _ q => XS.l2dS X.here K.1 rfl (hb K.2.1 hd) rfl rfl q) hr
theorem own_dneg (K : own_Cx p s m meth c Z own nm bytes maxL ret) {x : UInt64} (hd : own_D bytes pc (.dneg) 1 pc') (hr : own_G w p l e R s m args below meth c Z Q h k n (mkF m pc' Ls (.double (FP.dneg x) :: st))) : own_G w p l e R s m args below meth c Z Q h k n (mkF m pc Ls (.double x :: st)) := by
  obtain ⟨hd, rfl⟩ := hd
  exact own_pure K (fun X _ _ _ _ q => XS.dnegS X.here K.1 rfl (hb K.2.1 hd) rfl rfl q) hr
theorem own_dcmp (K : own_Cx p s m meth c Z own nm bytes maxL ret) {oo : CmpOp} {x y : UInt64} (hd : own_D bytes pc (.dcmp oo) 1 pc') (hr : own_G w p l e R s m args below meth c Z Q h k n (mkF m pc' Ls (.int (cmpValue (FP.dcmp x y) oo) :: st))) : own_G w p l e R s m args below meth c Z Q h k n (mkF m pc Ls (.double y :: .double x :: st)) := by
  obtain ⟨hd, rfl⟩ := hd
  exact own_pure K (fun X _ _ _ _ q => XS.dcmpS X.here K.1 rfl (hb K.2.1 hd) rfl rfl q) hr
theorem own_dadd (K : own_Cx p s m meth c Z own nm bytes maxL ret) {x y : UInt64} (hd : own_D bytes pc (.dadd) 1 pc') (hn : Jvm.Free.Fl.NoNaN64 (FP.dadd x y)) (hr : own_G w p l e R s m args below meth c Z Q h k n (mkF m pc' Ls (.double (FP.dadd x y) :: st))) : own_G w p l e R s m args below meth c Z Q h k n (mkF m pc Ls (.double y :: .double x :: st)) := by
  obtain ⟨hd, rfl⟩ := hd
  exact own_pure K (fun X _ _ _ _ q => XS.daddS X.here K.1 rfl (hb K.2.1 hd) rfl hn rfl q) hr
theorem own_dsub (K : own_Cx p s m meth c Z own nm bytes maxL ret) {x y : UInt64} (hd : own_D bytes pc (.dsub) 1 pc') (hn : Jvm.Free.Fl.NoNaN64 (FP.dsub x y)) (hr : own_G w p l e R s m args below meth c Z Q h k n (mkF m pc' Ls (.double (FP.dsub x y) :: st))) : own_G w p l e R s m args below meth c Z Q h k n (mkF m pc Ls (.double y :: .double x :: st)) := by
  obtain ⟨hd, rfl⟩ := hd
  exact own_pure K (fun X _ _ _ _ q => XS.dsubS X.here K.1 rfl (hb K.2.1 hd) rfl hn rfl q) hr
theorem own_dmul (K : own_Cx p s m meth c Z own nm bytes maxL ret) {x y : UInt64} (hd : own_D bytes pc (.dmul) 1 pc') (hn : Jvm.Free.Fl.NoNaN64 (FP.dmul x y)) (hr : own_G w p l e R s m args below meth c Z Q h k n (mkF m pc' Ls (.double (FP.dmul x y) :: st))) : own_G w p l e R s m args below meth c Z Q h k n (mkF m pc Ls (.double y :: .double x :: st)) := by
  obtain ⟨hd, rfl⟩ := hd
  exact own_pure K (fun X _ _ _ _ q => XS.dmulS X.here K.1 rfl (hb K.2.1 hd) rfl hn rfl q) hr
theorem own_ddiv (K : own_Cx p s m meth c Z own nm bytes maxL ret) {x y : UInt64} (hd : own_D bytes pc (.ddiv) 1 pc') (hn : Jvm.Free.Fl.NoNaN64 (FP.ddiv x y)) (hr : own_G w p l e R s m args below meth c Z Q h k n (mkF m pc' Ls (.double (FP.ddiv x y) :: st))) : own_G w p l e R s m args below meth c Z Q h k n (mkF m pc Ls (.double y :: .double x :: st)) := by
  obtain ⟨hd, rfl⟩ := hd
  exact own_pure K (fun X _ _ _ _ q => XS.ddivS X.here K.1 rfl (hb K.2.1 hd) rfl hn rfl q) hr
theorem own_dup (K : own_Cx p s m meth c Z own nm bytes maxL ret) {x : Value} (hd : own_D bytes pc (.dup) 1 pc') (hc : x.category = 1) (hr : own_G w p l e R s m args below meth c Z Q h k n (mkF m pc' Ls (x :: x :: st))) : own_G w p l e R s m args below meth c Z Q h k n (mkF m pc Ls (x :: st)) := by
  obtain ⟨hd, rfl⟩ := hd
  exact own_pure K (fun X _ _ _ _ q => XS.dup X.here K.1 rfl (hb K.2.1 hd) rfl hc q) hr
theorem own_pop (K : own_Cx p s m meth c Z own nm bytes maxL ret) {x : Value} (hd : own_D bytes pc (.pop) 1 pc') (hc : x.category = 1) (hr : own_G w p l e R s m args below meth c Z Q h k n (mkF m pc' Ls (st))) : own_G w p l e R s m args below meth c Z Q h k n (mkF m pc Ls (x :: st)) := by
  obtain ⟨hd, rfl⟩ := hd
  exact own_pure K (fun X _ _ _ _ q => XT.pop X.here K.1 rfl (hb K.2.1 hd) rfl hc q) hr
theorem own_dupX1 (K : own_Cx p s m meth c Z own nm bytes maxL ret) {x y : Value} (hd : own_D bytes pc (.dup_x1) 1 pc') (hc : x.category = 1) (hc' : y.category = 1) (hr : own_G w p l e R s m args below meth c Z Q h k n (mkF m pc' Ls (x :: y :: x :: st))) : own_G w p l e R s m args below meth c Z Q h k n (mkF m pc Ls (x :: y :: st)) := by
  obtain ⟨hd, rfl⟩ := hd
  exact own_pure K (fun X _ _ _ _ q => XT.dupX1 X.here K.1 rfl (hb K.2.1 hd) rfl hc hc' q) hr
theorem own_dup2 (K : own_Cx p s m meth c Z own nm bytes maxL ret) {x y : Value} (hd : own_D bytes pc (.dup2) 1 pc') (hc : x.category = 1) (hc' : y.category = 1) (hr : own_G w p l e R s m args below meth c Z Q h k n (mkF m pc' Ls (x :: y :: x :: y :: st))) : own_G w p l e R s m args below meth c Z Q h k n (mkF m pc Ls (x :: y :: st)) := by
  obtain ⟨hd, rfl⟩ := hd
  exact own_pure K (fun X _ _ _ _ q => XT.dup2 X.here K.1 rfl (hb K.2.1 hd) rfl hc hc' q) hr
theorem own_iinc (K : own_Cx p s m meth c Z own nm bytes maxL ret) {kk : Nat} {cst : Int} {x y : Int32} (hd : own_D bytes pc (.iinc kk cst) 3 pc') (hl : Ls[kk]? = some (.val (.int x))) (hy : x + Int32.ofInt cst = y) (hl' : storeLocals Ls kk (.int y) = some Ls') (hr : own_G w p l e R s m args below meth c Z Q h k n (mkF m pc' Ls' st)) : own_G w p l e R s m args below meth c Z Q h k n (mkF m pc Ls st) := by
  obtain ⟨hd, rfl⟩ := hd
  subst hy
  exact own_pure K (fun X _ _ _ _ q => XS.iinc X.here K.1 rfl (hb K.2.1 hd) hl hl' q) hr
theorem own_goto (K : own_Cx p s m meth c Z own nm bytes maxL ret) {off : Int} {pcF : Nat} (hd : own_B bytes pc (.goto off) off pcF pcT) (hr : own_G w p l e R s m args below meth c Z Q h k n (mkF m pcT Ls st)) : own_G w p l e R s m args below meth c Z Q h k n (mkF m pc Ls st) := by
  obtain ⟨hd, -, h1, h2⟩ := hd
  exact own_pure K (fun X _ _ _ _ q => XS.goto X.here K.1 rfl rfl (hb K.2.1 hd) h1 h2 q) hr
theorem own_ldcI (K : own_Cx p s m meth c Z own nm bytes maxL ret) {i : Nat} {v : Int32} (hd : own_D bytes pc (.ldc i) 2 pc') (wc : (Cond.constant own i v).before a0 Z = true) (hr : own_G w p l e R s m args below meth c Z Q h k n (mkF m pc' Ls (.int v :: st))) : own_G w p l e R s m args below meth c Z Q h k n (mkF m pc Ls st) := by
  obtain ⟨hd, rfl⟩ := hd
  exact own_pure K (fun X hZ ho _ _ q => X.ldcI K.1 ho (mvT hZ wc) rfl (hb K.2.1 hd) q) hr
theorem own_ldc2J (K : own_Cx p s m meth c Z own nm bytes maxL ret) {i : Nat} {v : Int64} (hd : own_D bytes pc (.ldc2_w i) 3 pc') (wc : (Cond.constantLong own i v).before a0 Z = true) (hr : own_G w p l e R s m args below meth c Z Q h k n (mkF m pc' Ls (.long v :: st))) : own_G w p l e R s m args below meth c Z Q h k n (mkF m pc Ls st) := by
  obtain ⟨hd, rfl⟩ := hd
  exact own_pure K (fun X hZ ho _ _ q => X.ldc2J K.1 ho (mvT hZ wc) rfl (hb K.2.1 hd) q) hr
theorem own_ldc2D (K : own_Cx p s m meth c Z own nm bytes maxL ret) {i : Nat} {v : UInt64} (hd : own_D bytes pc (.ldc2_w i) 3 pc') (wc : (Cond.constantDouble own i v).before a0 Z = true) (hr : own_G w p l e R s m args below meth c Z Q h k n (mkF m pc' Ls (.double v :: st))) : own_G w p l e R s m args below meth c Z Q h k n (mkF m pc Ls st) := by
  obtain ⟨hd, rfl⟩ := hd
  exact own_pure K (fun X hZ ho _ _ q => X.ldc2DoubleC K.1 ho (mvT hZ wc) (g := mkF m pc Ls st) rfl (hb K.2.1 hd) _ q) hr
theorem own_i0_eq (x : Int32) : (ifCond.holds .eq x = true) = (x = 0) := by simp [ifCond.holds, Int32.lt_iff_toInt_lt, Int32.le_iff_toInt_le]
theorem own_ii_eq (x y : Int32) : (if_icmp.holds .eq x y = true) = (x = y) := by simp [if_icmp.holds, Int32.lt_iff_toInt_lt, Int32.le_iff_toInt_le]
theorem own_ifeq (K : own_Cx p s m meth c Z own nm bytes maxL ret) {off : Int} {pcF : Nat} {x : Int32} (hd : own_B bytes pc (.ifCond .eq off) off pcF pcT) (hT : (x = 0) → own_G w p l e R s m args below meth c Z Q h k n (mkF m pcT Ls st)) (hF : ¬ (x = 0) → own_G w p l e R s m args below meth c Z Q h k n (mkF m pcF Ls st)) : own_G w p l e R s m args below meth c Z Q h k n (mkF m pc Ls (.int x :: st)) := by
  obtain ⟨hd, rfl, h1, h2⟩ := hd
  by_cases q : ifCond.holds .eq x = true
  · exact own_pure K (fun X _ _ _ _ r => XS.ifYes X.here K.1 rfl rfl (hb K.2.1 hd) rfl q h1 h2 r) (hT ((own_i0_eq x).mp q))
  · exact own_pure K (fun X _ _ _ _ r => XS.ifNo X.here K.1 rfl (hb K.2.1 hd) rfl (Bool.eq_false_iff.mpr q) r) (hF fun z => q ((own_i0_eq x).mpr z))
theorem own_icmpeq (K : own_Cx p s m meth c Z own nm bytes maxL ret) {off : Int} {pcF : Nat} {x y : Int32} (hd : own_B bytes pc (.if_icmp .eq off) off pcF pcT) (hT : (x = y) → own_G w p l e R s m args below meth c Z Q h k n (mkF m pcT Ls st)) (hF : ¬ (x = y) → own_G w p l e R s m args below meth c Z Q h k n (mkF m pcF Ls st)) : own_G w p l e R s m args below meth c Z Q h k n (mkF m pc Ls (.int y :: .int x :: st)) := by
  obtain ⟨hd, rfl, h1, h2⟩ := hd
  by_cases q : if_icmp.holds .eq x y = true
  · exact own_pure K (fun X _ _ _ _ r => XS.icmpYes X.here K.1 rfl rfl (hb K.2.1 hd) rfl q h1 h2 r) (hT ((own_ii_eq x y).mp q))
  · exact own_pure K (fun X _ _ _ _ r => XS.icmpNo X.here K.1 rfl (hb K.2.1 hd) rfl (Bool.eq_false_iff.mpr q) r) (hF fun z => q ((own_ii_eq x y).mpr z))
theorem own_i0_ne (x : Int32) : (ifCond.holds .ne x = true) = (x ≠ 0) := by simp [ifCond.holds, Int32.lt_iff_toInt_lt, Int32.le_iff_toInt_le]
theorem own_ii_ne (x y : Int32) : (if_icmp.holds .ne x y = true) = (x ≠ y) := by simp [if_icmp.holds, Int32.lt_iff_toInt_lt, Int32.le_iff_toInt_le]
theorem own_ifne (K : own_Cx p s m meth c Z own nm bytes maxL ret) {off : Int} {pcF : Nat} {x : Int32} (hd : own_B bytes pc (.ifCond .ne off) off pcF pcT) (hT : (x ≠ 0) → own_G w p l e R s m args below meth c Z Q h k n (mkF m pcT Ls st)) (hF : ¬ (x ≠ 0) → own_G w p l e R s m args below meth c Z Q h k n (mkF m pcF Ls st)) : own_G w p l e R s m args below meth c Z Q h k n (mkF m pc Ls (.int x :: st)) := by
  obtain ⟨hd, rfl, h1, h2⟩ := hd
  by_cases q : ifCond.holds .ne x = true
  · exact own_pure K (fun X _ _ _ _ r => XS.ifYes X.here K.1 rfl rfl (hb K.2.1 hd) rfl q h1 h2 r) (hT ((own_i0_ne x).mp q))
  · exact own_pure K (fun X _ _ _ _ r => XS.ifNo X.here K.1 rfl (hb K.2.1 hd) rfl (Bool.eq_false_iff.mpr q) r) (hF fun z => q ((own_i0_ne x).mpr z))
theorem own_icmpne (K : own_Cx p s m meth c Z own nm bytes maxL ret) {off : Int} {pcF : Nat} {x y : Int32} (hd : own_B bytes pc (.if_icmp .ne off) off pcF pcT) (hT : (x ≠ y) → own_G w p l e R s m args below meth c Z Q h k n (mkF m pcT Ls st)) (hF : ¬ (x ≠ y) → own_G w p l e R s m args below meth c Z Q h k n (mkF m pcF Ls st)) : own_G w p l e R s m args below meth c Z Q h k n (mkF m pc Ls (.int y :: .int x :: st)) := by
  obtain ⟨hd, rfl, h1, h2⟩ := hd
  by_cases q : if_icmp.holds .ne x y = true
  · exact own_pure K (fun X _ _ _ _ r => XS.icmpYes X.here K.1 rfl rfl (hb K.2.1 hd) rfl q h1 h2 r) (hT ((own_ii_ne x y).mp q))
  · exact own_pure K (fun X _ _ _ _ r => XS.icmpNo X.here K.1 rfl (hb K.2.1 hd) rfl (Bool.eq_false_iff.mpr q) r) (hF fun z => q ((own_ii_ne x y).mpr z))
theorem own_i0_lt (x : Int32) : (ifCond.holds .lt x = true) = (x.toInt < 0) := by simp [ifCond.holds, Int32.lt_iff_toInt_lt, Int32.le_iff_toInt_le]
theorem own_ii_lt (x y : Int32) : (if_icmp.holds .lt x y = true) = (x.toInt < y.toInt) := by simp [if_icmp.holds, Int32.lt_iff_toInt_lt, Int32.le_iff_toInt_le]
theorem own_iflt (K : own_Cx p s m meth c Z own nm bytes maxL ret) {off : Int} {pcF : Nat} {x : Int32} (hd : own_B bytes pc (.ifCond .lt off) off pcF pcT) (hT : (x.toInt < 0) → own_G w p l e R s m args below meth c Z Q h k n (mkF m pcT Ls st)) (hF : ¬ (x.toInt < 0) → own_G w p l e R s m args below meth c Z Q h k n (mkF m pcF Ls st)) : own_G w p l e R s m args below meth c Z Q h k n (mkF m pc Ls (.int x :: st)) := by
  obtain ⟨hd, rfl, h1, h2⟩ := hd
  by_cases q : ifCond.holds .lt x = true
  · exact own_pure K (fun X _ _ _ _ r => XS.ifYes X.here K.1 rfl rfl (hb K.2.1 hd) rfl q h1 h2 r) (hT ((own_i0_lt x).mp q))
  · exact own_pure K (fun X _ _ _ _ r => XS.ifNo X.here K.1 rfl (hb K.2.1 hd) rfl (Bool.eq_false_iff.mpr q) r) (hF fun z => q ((own_i0_lt x).mpr z))
theorem own_icmplt (K : own_Cx p s m meth c Z own nm bytes maxL ret) {off : Int} {pcF : Nat} {x y : Int32} (hd : own_B bytes pc (.if_icmp .lt off) off pcF pcT) (hT : (x.toInt < y.toInt) → own_G w p l e R s m args below meth c Z Q h k n (mkF m pcT Ls st)) (hF : ¬ (x.toInt < y.toInt) → own_G w p l e R s m args below meth c Z Q h k n (mkF m pcF Ls st)) : own_G w p l e R s m args below meth c Z Q h k n (mkF m pc Ls (.int y :: .int x :: st)) := by
  obtain ⟨hd, rfl, h1, h2⟩ := hd
  by_cases q : if_icmp.holds .lt x y = true
  · exact own_pure K (fun X _ _ _ _ r => XS.icmpYes X.here K.1 rfl rfl (hb K.2.1 hd) rfl q h1 h2 r) (hT ((own_ii_lt x y).mp q))
  · exact own_pure K (fun X _ _ _ _ r => XS.icmpNo X.here K.1 rfl (hb K.2.1 hd) rfl (Bool.eq_false_iff.mpr q) r) (hF fun z => q ((own_ii_lt x y).mpr z))
theorem own_i0_ge (x : Int32) : (ifCond.holds .ge x = true) = (0 ≤ x.toInt) := by simp [ifCond.holds, Int32.lt_iff_toInt_lt, Int32.le_iff_toInt_le]
theorem own_ii_ge (x y : Int32) : (if_icmp.holds .ge x y = true) = (y.toInt ≤ x.toInt) := by simp [if_icmp.holds, Int32.lt_iff_toInt_lt, Int32.le_iff_toInt_le]
theorem own_ifge (K : own_Cx p s m meth c Z own nm bytes maxL ret) {off : Int} {pcF : Nat} {x : Int32} (hd : own_B bytes pc (.ifCond .ge off) off pcF pcT) (hT : (0 ≤ x.toInt) → own_G w p l e R s m args below meth c Z Q h k n (mkF m pcT Ls st)) (hF : ¬ (0 ≤ x.toInt) → own_G w p l e R s m args below meth c Z Q h k n (mkF m pcF Ls st)) : own_G w p l e R s m args below meth c Z Q h k n (mkF m pc Ls (.int x :: st)) := by
  obtain ⟨hd, rfl, h1, h2⟩ := hd
  by_cases q : ifCond.holds .ge x = true
  · exact own_pure K (fun X _ _ _ _ r => XS.ifYes X.here K.1 rfl rfl (hb K.2.1 hd) rfl q h1 h2 r) (hT ((own_i0_ge x).mp q))
  · exact own_pure K (fun X _ _ _ _ r => XS.ifNo X.here K.1 rfl (hb K.2.1 hd) rfl (Bool.eq_false_iff.mpr q) r) (hF fun z => q ((own_i0_ge x).mpr z))
theorem own_icmpge (K : own_Cx p s m meth c Z own nm bytes maxL ret) {off : Int} {pcF : Nat} {x y : Int32} (hd : own_B bytes pc (.if_icmp .ge off) off pcF pcT) (hT : (y.toInt ≤ x.toInt) → own_G w p l e R s m args below meth c Z Q h k n (mkF m pcT Ls st)) (hF : ¬ (y.toInt ≤ x.toInt) → own_G w p l e R s m args below meth c Z Q h k n (mkF m pcF Ls st)) : own_G w p l e R s m args below meth c Z Q h k n (mkF m pc Ls (.int y :: .int x :: st)) := by
  obtain ⟨hd, rfl, h1, h2⟩ := hd
  by_cases q : if_icmp.holds .ge x y = true
  · exact own_pure K (fun X _ _ _ _ r => XS.icmpYes X.here K.1 rfl rfl (hb K.2.1 hd) rfl q h1 h2 r) (hT ((own_ii_ge x y).mp q))
  · exact own_pure K (fun X _ _ _ _ r => XS.icmpNo X.here K.1 rfl (hb K.2.1 hd) rfl (Bool.eq_false_iff.mpr q) r) (hF fun z => q ((own_ii_ge x y).mpr z))
theorem own_i0_gt (x : Int32) : (ifCond.holds .gt x = true) = (0 < x.toInt) := by simp [ifCond.holds, Int32.lt_iff_toInt_lt, Int32.le_iff_toInt_le]
theorem own_ii_gt (x y : Int32) : (if_icmp.holds .gt x y = true) = (y.toInt < x.toInt) := by simp [if_icmp.holds, Int32.lt_iff_toInt_lt, Int32.le_iff_toInt_le]
theorem own_ifgt (K : own_Cx p s m meth c Z own nm bytes maxL ret) {off : Int} {pcF : Nat} {x : Int32} (hd : own_B bytes pc (.ifCond .gt off) off pcF pcT) (hT : (0 < x.toInt) → own_G w p l e R s m args below meth c Z Q h k n (mkF m pcT Ls st)) (hF : ¬ (0 < x.toInt) → own_G w p l e R s m args below meth c Z Q h k n (mkF m pcF Ls st)) : own_G w p l e R s m args below meth c Z Q h k n (mkF m pc Ls (.int x :: st)) := by
  obtain ⟨hd, rfl, h1, h2⟩ := hd
  by_cases q : ifCond.holds .gt x = true
  · exact own_pure K (fun X _ _ _ _ r => XS.ifYes X.here K.1 rfl rfl (hb K.2.1 hd) rfl q h1 h2 r) (hT ((own_i0_gt x).mp q))
  · exact own_pure K (fun X _ _ _ _ r => XS.ifNo X.here K.1 rfl (hb K.2.1 hd) rfl (Bool.eq_false_iff.mpr q) r) (hF fun z => q ((own_i0_gt x).mpr z))
theorem own_icmpgt (K : own_Cx p s m meth c Z own nm bytes maxL ret) {off : Int} {pcF : Nat} {x y : Int32} (hd : own_B bytes pc (.if_icmp .gt off) off pcF pcT) (hT : (y.toInt < x.toInt) → own_G w p l e R s m args below meth c Z Q h k n (mkF m pcT Ls st)) (hF : ¬ (y.toInt < x.toInt) → own_G w p l e R s m args below meth c Z Q h k n (mkF m pcF Ls st)) : own_G w p l e R s m args below meth c Z Q h k n (mkF m pc Ls (.int y :: .int x :: st)) := by
  obtain ⟨hd, rfl, h1, h2⟩ := hd
  by_cases q : if_icmp.holds .gt x y = true
  · exact own_pure K (fun X _ _ _ _ r => XS.icmpYes X.here K.1 rfl rfl (hb K.2.1 hd) rfl q h1 h2 r) (hT ((own_ii_gt x y).mp q))
  · exact own_pure K (fun X _ _ _ _ r => XS.icmpNo X.here K.1 rfl (hb K.2.1 hd) rfl (Bool.eq_false_iff.mpr q) r) (hF fun z => q ((own_ii_gt x y).mpr z))
theorem own_i0_le (x : Int32) : (ifCond.holds .le x = true) = (x.toInt ≤ 0) := by simp [ifCond.holds, Int32.lt_iff_toInt_lt, Int32.le_iff_toInt_le]
theorem own_ii_le (x y : Int32) : (if_icmp.holds .le x y = true) = (x.toInt ≤ y.toInt) := by simp [if_icmp.holds, Int32.lt_iff_toInt_lt, Int32.le_iff_toInt_le]
theorem own_ifle (K : own_Cx p s m meth c Z own nm bytes maxL ret) {off : Int} {pcF : Nat} {x : Int32} (hd : own_B bytes pc (.ifCond .le off) off pcF pcT) (hT : (x.toInt ≤ 0) → own_G w p l e R s m args below meth c Z Q h k n (mkF m pcT Ls st)) (hF : ¬ (x.toInt ≤ 0) → own_G w p l e R s m args below meth c Z Q h k n (mkF m pcF Ls st)) : own_G w p l e R s m args below meth c Z Q h k n (mkF m pc Ls (.int x :: st)) := by
  obtain ⟨hd, rfl, h1, h2⟩ := hd
  by_cases q : ifCond.holds .le x = true
  · exact own_pure K (fun X _ _ _ _ r => XS.ifYes X.here K.1 rfl rfl (hb K.2.1 hd) rfl q h1 h2 r) (hT ((own_i0_le x).mp q))
  · exact own_pure K (fun X _ _ _ _ r => XS.ifNo X.here K.1 rfl (hb K.2.1 hd) rfl (Bool.eq_false_iff.mpr q) r) (hF fun z => q ((own_i0_le x).mpr z))
theorem own_icmple (K : own_Cx p s m meth c Z own nm bytes maxL ret) {off : Int} {pcF : Nat} {x y : Int32} (hd : own_B bytes pc (.if_icmp .le off) off pcF pcT) (hT : (x.toInt ≤ y.toInt) → own_G w p l e R s m args below meth c Z Q h k n (mkF m pcT Ls st)) (hF : ¬ (x.toInt ≤ y.toInt) → own_G w p l e R s m args below meth c Z Q h k n (mkF m pcF Ls st)) : own_G w p l e R s m args below meth c Z Q h k n (mkF m pc Ls (.int y :: .int x :: st)) := by
  obtain ⟨hd, rfl, h1, h2⟩ := hd
  by_cases q : if_icmp.holds .le x y = true
  · exact own_pure K (fun X _ _ _ _ r => XS.icmpYes X.here K.1 rfl rfl (hb K.2.1 hd) rfl q h1 h2 r) (hT ((own_ii_le x y).mp q))
  · exact own_pure K (fun X _ _ _ _ r => XS.icmpNo X.here K.1 rfl (hb K.2.1 hd) rfl (Bool.eq_false_iff.mpr q) r) (hF fun z => q ((own_ii_le x y).mpr z))
theorem own_ifnullN (K : own_Cx p s m meth c Z own nm bytes maxL ret) {off : Int} {pcF : Nat} (hd : own_B bytes pc (.ifnull off) off pcF pcT) (hr : own_G w p l e R s m args below meth c Z Q h k n (mkF m pcT Ls st)) : own_G w p l e R s m args below meth c Z Q h k n (mkF m pc Ls (.null :: st)) := by
  obtain ⟨hd, rfl, h1, h2⟩ := hd
  exact own_pure K (fun X _ _ _ _ r => XS.ifnullYes X.here K.1 rfl rfl (hb K.2.1 hd) rfl h1 h2 r) hr
theorem own_ifnullR (K : own_Cx p s m meth c Z own nm bytes maxL ret) {off : Int} {pcF : Nat} {b : Addr} (hd : own_B bytes pc (.ifnull off) off pcF pcT) (hr : own_G w p l e R s m args below meth c Z Q h k n (mkF m pcF Ls st)) : own_G w p l e R s m args below meth c Z Q h k n (mkF m pc Ls (.ref b :: st)) := by
  obtain ⟨hd, rfl, h1, h2⟩ := hd
  exact own_pure K (fun X _ _ _ _ r => XS.ifnullNo X.here K.1 rfl (hb K.2.1 hd) rfl r) hr
theorem own_ifnonnullN (K : own_Cx p s m meth c Z own nm bytes maxL ret) {off : Int} {pcF : Nat} (hd : own_B bytes pc (.ifnonnull off) off pcF pcT) (hr : own_G w p l e R s m args below meth c Z Q h k n (mkF m pcF Ls st)) : own_G w p l e R s m args below meth c Z Q h k n (mkF m pc Ls (.null :: st)) := by
  obtain ⟨hd, rfl, h1, h2⟩ := hd
  exact own_pure K (fun X _ _ _ _ r => XT.ifnonnullNo X.here K.1 rfl (hb K.2.1 hd) rfl r) hr
theorem own_ifnonnullR (K : own_Cx p s m meth c Z own nm bytes maxL ret) {off : Int} {pcF : Nat} {b : Addr} (hd : own_B bytes pc (.ifnonnull off) off pcF pcT) (hr : own_G w p l e R s m args below meth c Z Q h k n (mkF m pcT Ls st)) : own_G w p l e R s m args below meth c Z Q h k n (mkF m pc Ls (.ref b :: st)) := by
  obtain ⟨hd, rfl, h1, h2⟩ := hd
  exact own_pure K (fun X _ _ _ _ r => XT.ifnonnullYes X.here K.1 rfl rfl (hb K.2.1 hd) rfl h1 h2 r) hr
theorem own_acmpeq (K : own_Cx p s m meth c Z own nm bytes maxL ret) {off : Int} {pcF : Nat} {x y : Value} (hd : own_B bytes pc (.if_acmp .eq off) off pcF pcT) (h1' : x.isRef = true) (h2' : y.isRef = true) (hT : (x = y) → own_G w p l e R s m args below meth c Z Q h k n (mkF m pcT Ls st)) (hF : ¬ (x = y) → own_G w p l e R s m args below meth c Z Q h k n (mkF m pcF Ls st)) : own_G w p l e R s m args below meth c Z Q h k n (mkF m pc Ls (y :: x :: st)) := by
  obtain ⟨hd, rfl, h1, h2⟩ := hd
  by_cases q : x = y
  · exact own_pure K (fun X _ _ _ _ r => XT.acmpYes X.here K.1 rfl rfl (hb K.2.1 hd) rfl h1' h2' (decide_eq_true q) h1 h2 r) (hT q)
  · exact own_pure K (fun X _ _ _ _ r => XT.acmpNo X.here K.1 rfl (hb K.2.1 hd) rfl h1' h2' (decide_eq_false q) r) (hF q)
theorem own_acmpne (K : own_Cx p s m meth c Z own nm bytes maxL ret) {off : Int} {pcF : Nat} {x y : Value} (hd : own_B bytes pc (.if_acmp .ne off) off pcF pcT) (h1' : x.isRef = true) (h2' : y.isRef = true) (hT : (x ≠ y) → own_G w p l e R s m args below meth c Z Q h k n (mkF m pcT Ls st)) (hF : ¬ (x ≠ y) → own_G w p l e R s m args below meth c Z Q h k n (mkF m pcF Ls st)) : own_G w p l e R s m args below meth c Z Q h k n (mkF m pc Ls (y :: x :: st)) := by
  obtain ⟨hd, rfl, h1, h2⟩ := hd
  by_cases q : x ≠ y
  · exact own_pure K (fun X _ _ _ _ r => XT.acmpYes X.here K.1 rfl rfl (hb K.2.1 hd) rfl h1' h2' (decide_eq_true q) h1 h2 r) (hT q)
  · exact own_pure K (fun X _ _ _ _ r => XT.acmpNo X.here K.1 rfl (hb K.2.1 hd) rfl h1' h2' (decide_eq_false q) r) (hF q)
theorem own_getfield (K : own_Cx p s m meth c Z own nm bytes maxL ret) {i j q : Nat} {R0 O f d host C : String} {v : Value} {a : Addr} {fs : List (String × String × String × Value)} (hd : own_D bytes pc (.getfield i) 3 pc') (wl : (Cond.fieldLink own i R0 f d).before a0 Z = true ∨ (Cond.fieldLinkNest own i R0 f d host).before a0 Z = true) (via : Via Z R0 O f d) (H : own_H Z h os as) (ho : os[j]? = some (a, C, fs)) (hf : fs[q]? = some (O, f, d, v)) (hr : own_G w p l e R s m args below meth c Z Q h k n (mkF m pc' Ls (v :: st))) : own_G w p l e R s m args below meth c Z Q h k n (mkF m pc Ls (.ref a :: st)) := by
  obtain ⟨hd, rfl⟩ := hd
  refine own_step K (P := fun h' => h' = h) (fun X hZ hw eT N => ?_) (fun h' e => by subst e; exact hr)
  obtain ⟨T', X', e', st⟩ := getF X K.1 hZ hw wl via eT (H.fld ho hf) (g := mkF m pc Ls (.ref a :: st)) rfl rfl (hb K.2.1 hd)
  exact ⟨T', _, _, X', N, e', Nat.le_refl _, rfl, st⟩
theorem own_putfield (K : own_Cx p s m meth c Z own nm bytes maxL ret) {i j q kk : Nat} {R0 O f d host C : String} {v v0 : Value} {a : Addr} {fs : List (String × String × String × Value)} {ty : FieldType} (hd : own_D bytes pc (.putfield i) 3 pc') (wl : (Cond.fieldLink own i R0 f d).before a0 Z = true ∨ (Cond.fieldLinkNest own i R0 f d host).before a0 Z = true) (via : Via Z R0 O f d) (H : own_H Z h os as) (ho : os[j]? = some (a, C, fs)) (hf : fs[q]? = some (O, f, d, v0))
    (L : (Cond.lays C O f d).before a0 Z = true ∨ ((Cond.laysFinal C O f d).before a0 Z = true ∧ own = O ∧ nm = "<init>")) (wi : (Cond.instantiable C kk).before a0 Z = true) (hty : parseFieldDescriptor d = some ty) (hn : narrow ty v = v) (hfit : fits ty v = true) (hr : ∀ h', own_H Z h' (os.set j (a, C, fs.set q (O, f, d, v))) as → own_G w p l e R s m args below meth c Z Q h' k n (mkF m pc' Ls st)) : own_G w p l e R s m args below meth c Z Q h k n (mkF m pc Ls (v :: .ref a :: st)) := by
  obtain ⟨hd, rfl⟩ := hd
  refine own_step K (P := fun h' => own_H Z h' (os.set j (a, C, fs.set q (O, f, d, v))) as) (fun X hZ hw eT N => ?_) hr
  obtain ⟨T', h', X', e', W, st⟩ := putF X K.1 hZ hw wl via eT (H.fld ho hf) (H.atO ho) (L.imp id (fun z => ⟨z.1, z.2.1, K.2.2.2.2.2.2.2.trans z.2.2⟩)) wi hty hn hfit (g := mkF m pc Ls (v :: .ref a :: st)) rfl rfl (hb K.2.1 hd)
  exact ⟨T', h', _, X', Fr.snoc X' N (H.newO ho), e', Nat.le_of_eq (Wr.size W).symm, H.wrO ho hf W, st⟩
theorem own_new (K : own_Cx p s m meth c Z own nm bytes maxL ret) {i kk : Nat} {C : String} {fs : List (String × String × String × Value)} (hd : own_D bytes pc (.new i) 3 pc') (w1 : (Cond.classLink own i C).before a0 Z = true) (w2 : (Cond.instantiable C kk).before a0 Z = true) (w3 : (Cond.initialized C).before a0 Z = true) (H : own_H Z h os as)
    (hF : ∀ f ∈ fs, Laid Z a0 C f.1 f.2.1 f.2.2.1 ∧ ∃ ty, parseFieldDescriptor f.2.2.1 = some ty ∧ f.2.2.2 = defaultValue ty) (hP : fs.Pairwise (fun f g => slotOf Z f.1 f.2.1 f.2.2.1 ≠ slotOf Z g.1 g.2.1 g.2.2.1)) (hc : k + 1 ≤ R.cells) (hl : n + kk ≤ R.slots)
    (hr : ∀ h' a, own_H Z h' ((a, C, fs) :: os) as → own_G w p l e R s m args below meth c Z Q h' (k + 1) (n + kk) (mkF m pc' Ls (.ref a :: st))) : own_G w p l e R s m args below meth c Z Q h k n (mkF m pc Ls st) := by
  obtain ⟨hd, rfl⟩ := hd
  refine own_step K (P := fun h' => own_H Z h' ((h.size, C, fs) :: os) as) (fun X hZ hw eT N => ?_) (fun h' H' => hr h' _ H')
  obtain ⟨T', h', X', e', E, A, D, -, st⟩ := newO X K.1 hZ hw w1 w2 w3 eT (g := mkF m pc Ls st) rfl (hb K.2.1 hd) hc hl
  exact ⟨T', h', _, X', N, e', E.1, H.addO E ⟨A, fun f hf => by obtain ⟨hL, ty, t1, t2⟩ := hF f hf; show Fld Z h' h.size f.1 f.2.1 f.2.2.1 f.2.2.2; rw [t2]; exact D hL t1, hP⟩, st⟩
theorem own_newarray (K : own_Cx p s m meth c Z own nm bytes maxL ret) {aty : ArrayType} {ty : FieldType} {N : Int32} {q : Nat} {ad : String} {vs : List Value} (hd : own_D bytes pc (.newarray aty) 2 pc') (hty : newarray.typeOf aty = ty) (w1 : (Cond.arrayClass ty).before a0 Z = true) (H : own_H Z h os as) (hN : N.toInt = (q : Int)) (had : "[" ++ ty.toString = ad) (hvs : vs = List.replicate q (defaultValue ty)) (hq : q * 8 ≤ 536870912) (hc : k + 1 ≤ R.cells) (hl : n + q ≤ R.slots)
    (hr : ∀ h' a, own_H Z h' os ((a, ty, ad, vs) :: as) → own_G w p l e R s m args below meth c Z Q h' (k + 1) (n + q) (mkF m pc' Ls (.ref a :: st))) : own_G w p l e R s m args below meth c Z Q h k n (mkF m pc Ls (.int N :: st)) := by
  obtain ⟨hd, rfl⟩ := hd
  subst hty
  refine own_step K (P := fun h' => own_H Z h' os ((h.size, newarray.typeOf aty, ad, vs) :: as)) (fun X hZ hw eT N => ?_) (fun h' H' => hr h' _ H')
  have hNq := own_idx hN
  obtain ⟨T', h', cA, X', e', E, A, Ex, st⟩ := newPE X K.1 hZ w1 eT (g := mkF m pc Ls (.int _ :: st)) rfl (hb K.2.1 hd) rfl (by rw [Int32.lt_iff_toInt_lt, hN, show (0 : Int32).toInt = 0 from rfl]; omega) (cap := q) (Nat.le_of_eq hNq) hq hc hl had
  refine ⟨T', h', _, X', N, e', E.1, H.addA E ⟨_, A, ?_, ?_, fun _ => Ex, fun C hC => ?_⟩, st⟩
  · show (newA cA (newarray.typeOf aty) _).slots.toList = vs
    simp [newA, hNq, hvs]
  · intro v hv
    rw [show v = defaultValue (newarray.typeOf aty) from List.eq_of_mem_replicate (hvs ▸ hv)]
    cases aty <;> rfl
  · cases aty <;> cases hC
theorem own_iaload (K : own_Cx p s m meth c Z own nm bytes maxL ret) {i q : Nat} {a : Addr} {ad : String} {vs : List Value} {v : Value} {j : Int32} (hd : own_D bytes pc .iaload 1 pc') (H : own_H Z h os as) (ha : as[i]? = some (a, .int, ad, vs)) (hj : j.toInt = (q : Int)) (hv : vs[q]? = some v) (hr : own_G w p l e R s m args below meth c Z Q h k n (mkF m pc' Ls (v :: st))) : own_G w p l e R s m args below meth c Z Q h k n (mkF m pc Ls (.int j :: .ref a :: st)) := by
  obtain ⟨hd, rfl⟩ := hd
  obtain ⟨-, cl, A, e1, -⟩ := H.2.2.1 _ (own_mem ha)
  have hq := (List.getElem?_eq_some_iff.mp hv).1
  have hsz : cl.slots.size = vs.length := by rw [← Array.length_toList]; exact congrArg List.length e1
  exact own_pure K (fun X hZ _ eT _ r => X.iaload K.1 (by rw [eT]; exact A.1) (State.isArrayOf_alike hZ.alike A.2.1) A.2.2 (by rw [hsz]; exact own_in hj hq) (by rw [own_idx hj, ← Array.getElem?_toList]; exact (show cl.slots.toList = vs from e1) ▸ hv) (g := mkF m pc Ls (.int j :: .ref a :: st)) rfl rfl (hb K.2.1 hd) _ r) hr
theorem own_laload (K : own_Cx p s m meth c Z own nm bytes maxL ret) {i q : Nat} {a : Addr} {ad : String} {vs : List Value} {v : Value} {j : Int32} (hd : own_D bytes pc .laload 1 pc') (H : own_H Z h os as) (ha : as[i]? = some (a, .long, ad, vs)) (hj : j.toInt = (q : Int)) (hv : vs[q]? = some v) (hr : own_G w p l e R s m args below meth c Z Q h k n (mkF m pc' Ls (v :: st))) : own_G w p l e R s m args below meth c Z Q h k n (mkF m pc Ls (.int j :: .ref a :: st)) := by
  obtain ⟨hd, rfl⟩ := hd
  obtain ⟨-, cl, A, e1, -⟩ := H.2.2.1 _ (own_mem ha)
  have hq := (List.getElem?_eq_some_iff.mp hv).1
  have hsz : cl.slots.size = vs.length := by rw [← Array.length_toList]; exact congrArg List.length e1
  exact own_pure K (fun X hZ _ eT _ r => X.laload K.1 (by rw [eT]; exact A.1) (State.isArrayOf_alike hZ.alike A.2.1) A.2.2 (by rw [hsz]; exact own_in hj hq) (by rw [own_idx hj, ← Array.getElem?_toList]; exact (show cl.slots.toList = vs from e1) ▸ hv) (g := mkF m pc Ls (.int j :: .ref a :: st)) rfl rfl (hb K.2.1 hd) _ r) hr
theorem own_daload (K : own_Cx p s m meth c Z own nm bytes maxL ret) {i q : Nat} {a : Addr} {ad : String} {vs : List Value} {v : Value} {j : Int32} (hd : own_D bytes pc .daload 1 pc') (H : own_H Z h os as) (ha : as[i]? = some (a, .double, ad, vs)) (hj : j.toInt = (q : Int)) (hv : vs[q]? = some v) (hr : own_G w p l e R s m args below meth c Z Q h k n (mkF m pc' Ls (v :: st))) : own_G w p l e R s m args below meth c Z Q h k n (mkF m pc Ls (.int j :: .ref a :: st)) := by
  obtain ⟨hd, rfl⟩ := hd
  obtain ⟨-, cl, A, e1, -⟩ := H.2.2.1 _ (own_mem ha)
  have hq := (List.getElem?_eq_some_iff.mp hv).1
  have hsz : cl.slots.size = vs.length := by rw [← Array.length_toList]; exact congrArg List.length e1
  exact own_pure K (fun X hZ _ eT _ r => X.daload K.1 (by rw [eT]; exact A.1) (State.isArrayOf_alike hZ.alike A.2.1) A.2.2 (by rw [hsz]; exact own_in hj hq) (by rw [own_idx hj, ← Array.getElem?_toList]; exact (show cl.slots.toList = vs from e1) ▸ hv) (g := mkF m pc Ls (.int j :: .ref a :: st)) rfl rfl (hb K.2.1 hd) _ r) hr
theorem own_caload (K : own_Cx p s m meth c Z own nm bytes maxL ret) {i q : Nat} {a : Addr} {ad : String} {vs : List Value} {v : Value} {j : Int32} (hd : own_D bytes pc .caload 1 pc') (H : own_H Z h os as) (ha : as[i]? = some (a, .char, ad, vs)) (hj : j.toInt = (q : Int)) (hv : vs[q]? = some v) (hr : own_G w p l e R s m args below meth c Z Q h k n (mkF m pc' Ls (v :: st))) : own_G w p l e R s m args below meth c Z Q h k n (mkF m pc Ls (.int j :: .ref a :: st)) := by
  obtain ⟨hd, rfl⟩ := hd
  obtain ⟨-, cl, A, e1, -⟩ := H.2.2.1 _ (own_mem ha)
  have hq := (List.getElem?_eq_some_iff.mp hv).1
  have hsz : cl.slots.size = vs.length := by rw [← Array.length_toList]; exact congrArg List.length e1
  exact own_pure K (fun X hZ _ eT _ r => X.caload K.1 (by rw [eT]; exact A.1) (State.isArrayOf_alike hZ.alike A.2.1) A.2.2 (by rw [hsz]; exact own_in hj hq) (by rw [own_idx hj, ← Array.getElem?_toList]; exact (show cl.slots.toList = vs from e1) ▸ hv) (g := mkF m pc Ls (.int j :: .ref a :: st)) rfl rfl (hb K.2.1 hd) _ r) hr
theorem own_baload (K : own_Cx p s m meth c Z own nm bytes maxL ret) {i q : Nat} {a : Addr} {ad : String} {vs : List Value} {v : Value} {j : Int32} (hd : own_D bytes pc .baload 1 pc') (H : own_H Z h os as) (ha : as[i]? = some (a, .byte, ad, vs)) (hj : j.toInt = (q : Int)) (hv : vs[q]? = some v) (hr : own_G w p l e R s m args below meth c Z Q h k n (mkF m pc' Ls (v :: st))) : own_G w p l e R s m args below meth c Z Q h k n (mkF m pc Ls (.int j :: .ref a :: st)) := by
  obtain ⟨hd, rfl⟩ := hd
  obtain ⟨-, cl, A, e1, -⟩ := H.2.2.1 _ (own_mem ha)
  have hq := (List.getElem?_eq_some_iff.mp hv).1
  have hsz : cl.slots.size = vs.length := by rw [← Array.length_toList]; exact congrArg List.length e1
  exact own_pure K (fun X hZ _ eT _ r => X.baloadBytes K.1 (by rw [eT]; exact A.1) (State.isArrayOf_alike hZ.alike A.2.1) A.2.2 (by rw [hsz]; exact own_in hj hq) (by rw [own_idx hj, ← Array.getElem?_toList]; exact (show cl.slots.toList = vs from e1) ▸ hv) (g := mkF m pc Ls (.int j :: .ref a :: st)) rfl rfl (hb K.2.1 hd) _ r) hr
theorem own_aaload (K : own_Cx p s m meth c Z own nm bytes maxL ret) {i q : Nat} {a : Addr} {ad : String} {ty : FieldType} {vs : List Value} {v : Value} {j : Int32} (hd : own_D bytes pc .aaload 1 pc') (H : own_H Z h os as) (ha : as[i]? = some (a, ty, ad, vs)) (hty : ty.isReference = true) (hj : j.toInt = (q : Int)) (hv : vs[q]? = some v) (hr : own_G w p l e R s m args below meth c Z Q h k n (mkF m pc' Ls (v :: st))) : own_G w p l e R s m args below meth c Z Q h k n (mkF m pc Ls (.int j :: .ref a :: st)) := by
  obtain ⟨hd, rfl⟩ := hd
  obtain ⟨-, cl, A, e1, -⟩ := H.2.2.1 _ (own_mem ha)
  have hq := (List.getElem?_eq_some_iff.mp hv).1
  have hsz : cl.slots.size = vs.length := by rw [← Array.length_toList]; exact congrArg List.length e1
  exact own_pure K (fun X hZ _ eT _ r => X.aaload K.1 (by rw [eT]; exact A.1) (State.isArrayOf_alike hZ.alike A.2.1) hty A.2.2 (by rw [hsz]; exact own_in hj hq) (by rw [own_idx hj, ← Array.getElem?_toList]; exact (show cl.slots.toList = vs from e1) ▸ hv) (g := mkF m pc Ls (.int j :: .ref a :: st)) rfl rfl (hb K.2.1 hd) _ r) hr
theorem own_iastore (K : own_Cx p s m meth c Z own nm bytes maxL ret) {i q : Nat} {a : Addr} {ad : String} {vs : List Value} {j : Int32} {x : Int32} (hd : own_D bytes pc .iastore 1 pc') (H : own_H Z h os as) (ha : as[i]? = some (a, .int, ad, vs)) (hj : j.toInt = (q : Int)) (hq : q < vs.length) (hr : ∀ h', own_H Z h' os (as.set i (a, .int, ad, vs.set q (.int x))) → own_G w p l e R s m args below meth c Z Q h' k n (mkF m pc' Ls st)) : own_G w p l e R s m args below meth c Z Q h k n (mkF m pc Ls (.int x :: .int j :: .ref a :: st)) := by
  obtain ⟨hd, rfl⟩ := hd
  obtain ⟨na, cl, A, e1, -⟩ := H.2.2.1 _ (own_mem ha)
  have hsz : cl.slots.size = vs.length := by rw [← Array.length_toList]; exact congrArg List.length e1
  refine own_step K (P := fun h' => own_H Z h' os (as.set i (a, .int, ad, vs.set q (.int x)))) (fun X hZ _ eT N => ?_) hr
  obtain ⟨T', h', X', e', W, st⟩ := stI X K.1 hZ eT A (by rw [hsz]; exact own_in hj hq) (g := mkF m pc Ls (.int x :: .int j :: .ref a :: st)) rfl rfl (hb K.2.1 hd)
  exact ⟨T', h', _, X', Fr.snoc X' N na, e', Nat.le_of_eq (Wr.size W).symm, H.wrA ha hq (rfl) (by rw [own_idx hj] at W; exact W), st⟩
theorem own_lastore (K : own_Cx p s m meth c Z own nm bytes maxL ret) {i q : Nat} {a : Addr} {ad : String} {vs : List Value} {j : Int32} {x : Int64} (hd : own_D bytes pc .lastore 1 pc') (H : own_H Z h os as) (ha : as[i]? = some (a, .long, ad, vs)) (hj : j.toInt = (q : Int)) (hq : q < vs.length) (hr : ∀ h', own_H Z h' os (as.set i (a, .long, ad, vs.set q (.long x))) → own_G w p l e R s m args below meth c Z Q h' k n (mkF m pc' Ls st)) : own_G w p l e R s m args below meth c Z Q h k n (mkF m pc Ls (.long x :: .int j :: .ref a :: st)) := by
  obtain ⟨hd, rfl⟩ := hd
  obtain ⟨na, cl, A, e1, -⟩ := H.2.2.1 _ (own_mem ha)
  have hsz : cl.slots.size = vs.length := by rw [← Array.length_toList]; exact congrArg List.length e1
  refine own_step K (P := fun h' => own_H Z h' os (as.set i (a, .long, ad, vs.set q (.long x)))) (fun X hZ _ eT N => ?_) hr
  obtain ⟨T', h', X', e', W, st⟩ := stJ X K.1 hZ eT A (by rw [hsz]; exact own_in hj hq) (g := mkF m pc Ls (.long x :: .int j :: .ref a :: st)) rfl rfl (hb K.2.1 hd)
  exact ⟨T', h', _, X', Fr.snoc X' N na, e', Nat.le_of_eq (Wr.size W).symm, H.wrA ha hq (rfl) (by rw [own_idx hj] at W; exact W), st⟩
theorem own_dastore (K : own_Cx p s m meth c Z own nm bytes maxL ret) {i q : Nat} {a : Addr} {ad : String} {vs : List Value} {j : Int32} {x : UInt64} (hd : own_D bytes pc .dastore 1 pc') (H : own_H Z h os as) (ha : as[i]? = some (a, .double, ad, vs)) (hj : j.toInt = (q : Int)) (hq : q < vs.length) (hr : ∀ h', own_H Z h' os (as.set i (a, .double, ad, vs.set q (.double x))) → own_G w p l e R s m args below meth c Z Q h' k n (mkF m pc' Ls st)) : own_G w p l e R s m args below meth c Z Q h k n (mkF m pc Ls (.double x :: .int j :: .ref a :: st)) := by
  obtain ⟨hd, rfl⟩ := hd
  obtain ⟨na, cl, A, e1, -⟩ := H.2.2.1 _ (own_mem ha)
  have hsz : cl.slots.size = vs.length := by rw [← Array.length_toList]; exact congrArg List.length e1
  refine own_step K (P := fun h' => own_H Z h' os (as.set i (a, .double, ad, vs.set q (.double x)))) (fun X hZ _ eT N => ?_) hr
  obtain ⟨T', h', X', e', W, st⟩ := stD X K.1 hZ eT A (by rw [hsz]; exact own_in hj hq) (g := mkF m pc Ls (.double x :: .int j :: .ref a :: st)) rfl rfl (hb K.2.1 hd)
  exact ⟨T', h', _, X', Fr.snoc X' N na, e', Nat.le_of_eq (Wr.size W).symm, H.wrA ha hq (rfl) (by rw [own_idx hj] at W; exact W), st⟩
theorem own_castore (K : own_Cx p s m meth c Z own nm bytes maxL ret) {i q : Nat} {a : Addr} {ad : String} {vs : List Value} {j : Int32} {x : Int32} (hd : own_D bytes pc .castore 1 pc') (H : own_H Z h os as) (ha : as[i]? = some (a, .char, ad, vs)) (hj : j.toInt = (q : Int)) (hq : q < vs.length) (hr : ∀ h', own_H Z h' os (as.set i (a, .char, ad, vs.set q (.int (nar .char x)))) → own_G w p l e R s m args below meth c Z Q h' k n (mkF m pc' Ls st)) : own_G w p l e R s m args below meth c Z Q h k n (mkF m pc Ls (.int x :: .int j :: .ref a :: st)) := by
  obtain ⟨hd, rfl⟩ := hd
  obtain ⟨na, cl, A, e1, -⟩ := H.2.2.1 _ (own_mem ha)
  have hsz : cl.slots.size = vs.length := by rw [← Array.length_toList]; exact congrArg List.length e1
  refine own_step K (P := fun h' => own_H Z h' os (as.set i (a, .char, ad, vs.set q (.int (nar .char x))))) (fun X hZ _ eT N => ?_) hr
  obtain ⟨T', h', X', e', W, st⟩ := stC X K.1 hZ eT A (by rw [hsz]; exact own_in hj hq) (g := mkF m pc Ls (.int x :: .int j :: .ref a :: st)) rfl rfl (hb K.2.1 hd)
  exact ⟨T', h', _, X', Fr.snoc X' N na, e', Nat.le_of_eq (Wr.size W).symm, H.wrA ha hq (by first | exact fits_nar_char _ | exact fits_nar_char | (simp [fits_nar_char]; done)) (by rw [own_idx hj] at W; exact W), st⟩
theorem own_bastore (K : own_Cx p s m meth c Z own nm bytes maxL ret) {i q : Nat} {a : Addr} {ad : String} {vs : List Value} {j : Int32} {x : Int32} (hd : own_D bytes pc .bastore 1 pc') (H : own_H Z h os as) (ha : as[i]? = some (a, .byte, ad, vs)) (hj : j.toInt = (q : Int)) (hq : q < vs.length) (hr : ∀ h', own_H Z h' os (as.set i (a, .byte, ad, vs.set q (.int (nar .byte x)))) → own_G w p l e R s m args below meth c Z Q h' k n (mkF m pc' Ls st)) : own_G w p l e R s m args below meth c Z Q h k n (mkF m pc Ls (.int x :: .int j :: .ref a :: st)) := by
  obtain ⟨hd, rfl⟩ := hd
  obtain ⟨na, cl, A, e1, -⟩ := H.2.2.1 _ (own_mem ha)
  have hsz : cl.slots.size = vs.length := by rw [← Array.length_toList]; exact congrArg List.length e1
  refine own_step K (P := fun h' => own_H Z h' os (as.set i (a, .byte, ad, vs.set q (.int (nar .byte x))))) (fun X hZ _ eT N => ?_) hr
  obtain ⟨T', h', X', e', W, st⟩ := stB X K.1 hZ eT A (by rw [hsz]; exact own_in hj hq) (g := mkF m pc Ls (.int x :: .int j :: .ref a :: st)) rfl rfl (hb K.2.1 hd)
  exact ⟨T', h', _, X', Fr.snoc X' N na, e', Nat.le_of_eq (Wr.size W).symm, H.wrA ha hq (by first | exact fits_nar_byte _ | exact fits_nar_byte | (simp [fits_nar_byte]; done)) (by rw [own_idx hj] at W; exact W), st⟩
theorem own_arraylength (K : own_Cx p s m meth c Z own nm bytes maxL ret) {i : Nat} {a : Addr} {ad : String} {ty : FieldType} {vs : List Value} {N : Int32} (hd : own_D bytes pc .arraylength 1 pc') (H : own_H Z h os as) (ha : as[i]? = some (a, ty, ad, vs)) (hN : N.toInt = (vs.length : Int)) (hr : own_G w p l e R s m args below meth c Z Q h k n (mkF m pc' Ls (.int N :: st))) : own_G w p l e R s m args below meth c Z Q h k n (mkF m pc Ls (.ref a :: st)) := by
  obtain ⟨hd, rfl⟩ := hd
  obtain ⟨-, cl, A, e1, -⟩ := H.2.2.1 _ (own_mem ha)
  have hsz : cl.slots.size = vs.length := by rw [← Array.length_toList]; exact congrArg List.length e1
  have e2 : cl.slots.size.toInt32 = N := by rw [hsz]; exact own_len hN
  exact own_pure K (fun X hZ _ eT _ r => X.arraylength K.1 (by rw [eT]; exact A.1) (State.isArrayOf_alike hZ.alike A.2.1) (g := mkF m pc Ls (.ref a :: st)) rfl rfl (hb K.2.1 hd) _ (by rw [e2]; exact r)) hr
theorem own_checkcast (K : own_Cx p s m meth c Z own nm bytes maxL ret) {i : Nat} {a : Addr} {Kn : String} (hd : own_D bytes pc (.checkcast i) 3 pc') (w1 : (Cond.classLink own i Kn).before a0 Z = true) (I : Ins Z h a Kn true) (hr : own_G w p l e R s m args below meth c Z Q h k n (mkF m pc' Ls (.ref a :: st))) : own_G w p l e R s m args below meth c Z Q h k n (mkF m pc Ls (.ref a :: st)) := by
  obtain ⟨hd, rfl⟩ := hd
  refine own_step K (P := fun h' => h' = h) (fun X hZ hw eT N => ?_) (fun h' e => by subst e; exact hr)
  obtain ⟨T', X', e', st⟩ := castY X K.1 hZ hw w1 eT I (g := mkF m pc Ls (.ref a :: st)) rfl rfl (hb K.2.1 hd)
  exact ⟨T', _, _, X', N, e', Nat.le_refl _, rfl, st⟩
theorem own_H.exaA (H : own_H Z h os as) {i : Nat} {a : Addr} {ty : FieldType} {ad : String} {vs : List Value} (ha : as[i]? = some (a, ty, ad, vs)) (hn : ad ≠ "") : Exa Z h a ad := by
  obtain ⟨-, cl, -, -, -, h4, -⟩ := H.2.2.1 _ (own_mem ha); exact h4 hn
theorem own_clone (K : own_Cx p s m meth c Z own nm bytes maxL ret) {i j : Nat} {a : Addr} {ty : FieldType} {ad : String} {vs : List Value} (hd : own_D bytes pc (.invokevirtual i) 3 pc') (w1 : (Cond.methodLink own i ⟨ad, "clone", "()Ljava/lang/Object;"⟩).before a0 Z = true) (w2 : (Cond.sameMethod ad "java/lang/Object" "clone" "()Ljava/lang/Object;").before a0 Z = true) (w3 : (Cond.native ⟨"java/lang/Object", "clone", "()Ljava/lang/Object;"⟩).before a0 Z = true)
    (w4 : (Cond.instanceMethod ⟨"java/lang/Object", "clone", "()Ljava/lang/Object;"⟩).before a0 Z = true) (w5 : (Cond.selects ad ⟨ad, "clone", "()Ljava/lang/Object;"⟩ ⟨"java/lang/Object", "clone", "()Ljava/lang/Object;"⟩).before a0 Z = true) (w6 : (Cond.castable ad "java/lang/Cloneable").before a0 Z = true)
    (H : own_H Z h os as) (ha : as[j]? = some (a, ty, ad, vs)) (hn : ad ≠ "") (hsz : Ls.size = maxL) (hf : 1 ≤ R.frames) {W : Nat} (hW : (st.map fun v => v.category).sum ≤ W) (hl : W + 14 ≤ R.locals) (hc : k + 1 ≤ R.cells) (hsl : n + vs.length ≤ R.slots)
    (hr : ∀ h' b, own_H Z h' os ((b, ty, ad, vs) :: as) → own_G w p l e R s m args below meth c Z Q h' (k + 1) (n + vs.length) (mkF m pc' Ls (.ref b :: st))) : own_G w p l e R s m args below meth c Z Q h k n (mkF m pc Ls (.ref a :: st)) := by
  obtain ⟨hd, rfl⟩ := hd
  obtain ⟨-, cl, A, e1, e3, e4, e5⟩ := H.2.2.1 _ (own_mem ha)
  have hsz' : cl.slots.size = vs.length := by rw [← Array.length_toList]; exact congrArg List.length e1
  have F : FitC Z cl := fun i v hv => by
    obtain ⟨hs, k, hk, comp, hkind⟩ := A.2.1
    have hm : v ∈ vs := by
      have : cl.slots.toList[i]? = some v := by rw [Array.getElem?_toList]; exact hv
      exact (show cl.slots.toList = vs from e1) ▸ own_mem this
    simp [State.fitsSlot, State.slotType?, hk, hkind, show fits ty v = true from e3 v hm]
  refine own_step K (P := fun h' => own_H Z h' os ((h.size, ty, ad, vs) :: as)) (fun X hZ hw eT N => ?_) (fun h' H' => hr h' _ H')
  obtain ⟨T', h', X', e', E, A', Ex, st⟩ := cloneA X K.1 hZ hw w1 w2 w3 w4 w5 w6 eT A (e4 hn) F (g := mkF m pc Ls (.ref a :: st)) rfl (hsz.trans K.2.2.1.symm) rfl (hb K.2.1 hd) hf (W := W) (by show 2 * 0 + _ ≤ W; simpa using hW) hl (cap := vs.length) (Nat.le_of_eq hsz') hc hsl
  exact ⟨T', h', _, X', N, e', E.1, H.addA E ⟨_, A', e1, e3, fun _ => Ex, e5⟩, st⟩
theorem own_initO (K : own_Cx p s m meth c Z own nm bytes maxL ret) {i : Nat} {a : Addr} (hd : own_D bytes pc (.invokespecial i) 3 pc') (w1 : (Cond.methodLink own i Lib.objectInit).before a0 Z = true) (w2 : (Cond.instanceMethod Lib.objectInit).before a0 Z = true) (w3 : (Cond.code Lib.objectInit ⟨#[0xb1]⟩ 1 none).before a0 Z = true) (hsz : Ls.size = maxL) (hf : 1 ≤ R.frames) {W : Nat} (hW : (st.map fun v => v.category).sum ≤ W) (hl : W + 12 ≤ R.locals) (hr : own_G w p l e R s m args below meth c Z Q h k n (mkF m pc' Ls st)) : own_G w p l e R s m args below meth c Z Q h k n (mkF m pc Ls (.ref a :: st)) := by
  obtain ⟨hd, rfl⟩ := hd
  refine own_step K (P := fun h' => h' = h) (fun X hZ hw eT N => ?_) (fun h' e => by subst e; exact hr)
  obtain ⟨T', X', e', st⟩ := initO X K.1 hZ hw w1 w2 w3 eT (g := mkF m pc Ls (.ref a :: st)) rfl (hsz.trans K.2.2.1.symm) rfl (hb K.2.1 hd) hf (W := W) (by show 2 * 0 + _ ≤ W; simpa using hW) hl
  exact ⟨T', _, _, X', N, e', Nat.le_refl _, rfl, st⟩
theorem own_static (K : own_Cx p s m meth c Z own nm bytes maxL ret) {i ml W : Nat} {y : MethodName} {b : ByteArray} {rt : Option FieldType} {rm : Room} {argsL : List Value} {Qc : Option Value → Heap → Prop} {ps : List FieldType} {r : Option FieldType} (hd : own_D bytes pc (.invokestatic i) 3 pc') (w1 : (Cond.methodLink own i y).before a0 Z = true) (w2 : (Cond.static y).before a0 Z = true) (w3 : (Cond.initialized y.cls).before a0 Z = true) (w4 : (Cond.code y b ml rt).before a0 Z = true)
    (hM : own_Met false l Z y b ml rt [] rm argsL.toArray h Qc) (hp : parseMethodDescriptor y.desc = some ⟨ps, r⟩) (hlen : argsL.length = ps.length) (hst : st = argsL.reverse ++ rest) (hsz : Ls.size = maxL) (hy : y.cls ≠ "java/lang/invoke/MethodHandle" ∧ y.cls ≠ "java/lang/invoke/VarHandle") (hW : (rest.map fun v => v.category).sum ≤ W) (hf : rm.frames + 1 ≤ R.frames) (hl : W + (ml + 11) + rm.locals ≤ R.locals) (hc : k + rm.cells ≤ R.cells) (hs : n + rm.slots ≤ R.slots)
    (hr : ∀ v h', Qc v h' → own_G w p l e R s m args below meth c Z Q h' (k + rm.cells) (n + rm.slots) (mkF m (pc') Ls (v.toList ++ rest))) : own_G w p l e R s m args below meth c Z Q h k n (mkF m pc Ls st) := by
  obtain ⟨hd, rfl⟩ := hd
  intro T hX
  obtain ⟨L, vm, X, N, eT, hw, hS⟩ := hX
  have hZ := own_zw K.2.2.2.2.2.1 hS
  have hown : (s.setVm vm).vm.findClass own = some m.cls := by rw [show (s.setVm vm).vm = vm from rfl, hS.1.alike.findClass]; exact K.2.2.2.2.2.2.1
  obtain ⟨v, vm1, ⟨T1, L1, k1, n1⟩, -, X1, ⟨Lc, ⟨hQ, N1, z1⟩, l1, y1, x1⟩, st1⟩ := Jvm.LawKit.callS X K.1 (y := y) hown (mvT hZ w1) (mvT hZ w2) (mvT hZ w3) (mvT hZ w4) hy (backOf (W := W) (Q := fun v h'' L => Qc v h'' ∧ Fr Z.heap.size L ∧ h.size ≤ h''.size) (show MetFree _ _ _ _ _ _ from hM) hZ w4 w3 hf hl) (g := mkF m pc Ls st) rfl (hsz.trans K.2.2.1.symm) (argsL := argsL) (rest := rest) (lenOf hp hlen) hst (by show 2 * 0 + _ ≤ W; simpa using hW) (hb K.2.1 hd) (fun _ _ => ⟨rfl, eT, hc, hs⟩)
  dsimp only [Pt.U, Pt.locs, Pt.cells, Pt.slots] at X1 l1 y1 x1 st1 hQ z1
  subst l1 y1 x1
  obtain ⟨T', v', h', k', n', hX', r1, r2, r3, r4, r5⟩ := hr v T1.heap hQ T1 ⟨_, vm, X1, N.app N1, rfl, hw, own_since hS z1⟩
  exact ⟨T', v', h', k', n', hX', r1, r2, r3, r4, fun fs q => st1 _ (r5 fs q)⟩
theorem own_special (K : own_Cx p s m meth c Z own nm bytes maxL ret) {i ml W : Nat} {y : MethodName} {b : ByteArray} {rm : Room} {a : Addr} {argsL : List Value} {Qc : Option Value → Heap → Prop} {ps : List FieldType} {r : Option FieldType} (hd : own_D bytes pc (.invokespecial i) 3 pc') (hy1 : y.name = "<init>") (w1 : (Cond.methodLink own i y).before a0 Z = true) (w2 : (Cond.instanceMethod y).before a0 Z = true) (w3 : (Cond.initialized y.cls).before a0 Z = true) (w4 : (Cond.code y b ml none).before a0 Z = true)
    (hM : own_Met false l Z y b ml none [] rm (.ref a :: argsL).toArray h Qc) (hp : parseMethodDescriptor y.desc = some ⟨ps, r⟩) (hlen : argsL.length = ps.length) (hst : st = argsL.reverse ++ .ref a :: rest) (hsz : Ls.size = maxL) (hy : y.cls ≠ "java/lang/invoke/MethodHandle" ∧ y.cls ≠ "java/lang/invoke/VarHandle") (hW : (rest.map fun v => v.category).sum ≤ W) (hf : rm.frames + 1 ≤ R.frames) (hl : W + (ml + 11) + rm.locals ≤ R.locals) (hc : k + rm.cells ≤ R.cells) (hs : n + rm.slots ≤ R.slots)
    (hr : ∀ v h', Qc v h' → own_G w p l e R s m args below meth c Z Q h' (k + rm.cells) (n + rm.slots) (mkF m (pc') Ls (v.toList ++ rest))) : own_G w p l e R s m args below meth c Z Q h k n (mkF m pc Ls st) := by
  obtain ⟨hd, rfl⟩ := hd
  intro T hX
  obtain ⟨L, vm, X, N, eT, hw, hS⟩ := hX
  have hZ := own_zw K.2.2.2.2.2.1 hS
  have hown : (s.setVm vm).vm.findClass own = some m.cls := by rw [show (s.setVm vm).vm = vm from rfl, hS.1.alike.findClass]; exact K.2.2.2.2.2.2.1
  obtain ⟨v, vm1, ⟨T1, L1, k1, n1⟩, -, X1, ⟨Lc, ⟨hQ, N1, z1⟩, l1, y1, x1⟩, st1⟩ := X.specialBack K.1 (y := y) hy1 hown (mvT hZ w1) (mvT hZ w2) (mvT hZ w4) hy (backOf (W := W) (Q := fun v h'' L => Qc v h'' ∧ Fr Z.heap.size L ∧ h.size ≤ h''.size) (show MetFree _ _ _ _ _ _ from hM) hZ w4 w3 hf hl) (g := mkF m pc Ls st) rfl (hsz.trans K.2.2.1.symm) (Steps.refl _) (a := a) (argsL := argsL) (rest := rest) (lenOf hp hlen) hst (by show 2 * 0 + _ ≤ W; simpa using hW) (hb K.2.1 hd) (fun _ _ => ⟨rfl, eT, hc, hs⟩)
  dsimp only [Pt.U, Pt.locs, Pt.cells, Pt.slots] at X1 l1 y1 x1 st1 hQ z1
  subst l1 y1 x1
  obtain ⟨T', v', h', k', n', hX', r1, r2, r3, r4, r5⟩ := hr v T1.heap hQ T1 ⟨_, vm, X1, N.app N1, rfl, hw, own_since hS z1⟩
  exact ⟨T', v', h', k', n', hX', r1, r2, r3, r4, fun fs q => st1.trans (r5 fs q)⟩
theorem own_virtual (K : own_Cx p s m meth c Z own nm bytes maxL ret) {i ml W : Nat} {y : MethodName} {C : String} {b : ByteArray} {rt : Option FieldType} {rm : Room} {a : Addr} {argsL : List Value} {Qc : Option Value → Heap → Prop} {ps : List FieldType} {r : Option FieldType} (hd : own_D bytes pc (.invokevirtual i) 3 pc') (w1 : (Cond.methodLink own i y).before a0 Z = true) (w2 : (Cond.declares y).before a0 Z = true) (w5 : (Cond.selects C y y).before a0 Z = true) (w6 : (Cond.instanceMethod y).before a0 Z = true) (w3 : (Cond.initialized y.cls).before a0 Z = true) (w4 : (Cond.code y b ml rt).before a0 Z = true)
    (E : Exa Z h a C) (hM : own_Met false l Z y b ml rt [] rm (.ref a :: argsL).toArray h Qc) (hp : parseMethodDescriptor y.desc = some ⟨ps, r⟩) (hlen : argsL.length = ps.length) (hst : st = argsL.reverse ++ .ref a :: rest) (hsz : Ls.size = maxL) (hy : y.cls ≠ "java/lang/invoke/MethodHandle" ∧ y.cls ≠ "java/lang/invoke/VarHandle") (hW : (rest.map fun v => v.category).sum ≤ W) (hf : rm.frames + 1 ≤ R.frames) (hl : W + (ml + 11) + rm.locals ≤ R.locals) (hc : k + rm.cells ≤ R.cells) (hs : n + rm.slots ≤ R.slots)
    (hr : ∀ v h', Qc v h' → own_G w p l e R s m args below meth c Z Q h' (k + rm.cells) (n + rm.slots) (mkF m (pc') Ls (v.toList ++ rest))) : own_G w p l e R s m args below meth c Z Q h k n (mkF m pc Ls st) := by
  obtain ⟨hd, rfl⟩ := hd
  intro T hX
  obtain ⟨L, vm, X, N, eT, hw, hS⟩ := hX
  have hZ := own_zw K.2.2.2.2.2.1 hS
  have hown : (s.setVm vm).vm.findClass own = some m.cls := by rw [show (s.setVm vm).vm = vm from rfl, hS.1.alike.findClass]; exact K.2.2.2.2.2.2.1
  obtain ⟨cq, kq, qa, qb, qc⟩ := isOf (s := s.setVm vm) hZ eT E
  obtain ⟨v, vm1, ⟨T1, L1, k1, n1⟩, -, X1, ⟨Lc, ⟨hQ, N1, z1⟩, l1, y1, x1⟩, st1⟩ := X.virtualBack K.1 (y := y) (z := y) hown (mvT hZ w1) (mvT hZ w2) (notFace_of_selects (C := C) (args := #[]) (mvT hZ w5)) (mvT hZ w5) (mvT hZ w6) hy (backOf (W := W) (Q := fun v h'' L => Qc v h'' ∧ Fr Z.heap.size L ∧ h.size ≤ h''.size) (show MetFree _ _ _ _ _ _ from hM) hZ w4 w3 hf hl) qa qc (g := mkF m pc Ls st) rfl (hsz.trans K.2.2.1.symm) (Steps.refl _) (argsL := argsL) (rest := rest) (lenOf hp hlen) hst (by show 2 * 0 + _ ≤ W; simpa using hW) (hb K.2.1 hd) (fun _ _ => ⟨rfl, eT, hc, hs⟩)
  dsimp only [Pt.U, Pt.locs, Pt.cells, Pt.slots] at X1 l1 y1 x1 st1 hQ z1
  subst l1 y1 x1
  obtain ⟨T', v', h', k', n', hX', r1, r2, r3, r4, r5⟩ := hr v T1.heap hQ T1 ⟨_, vm, X1, N.app N1, rfl, hw, own_since hS z1⟩
  exact ⟨T', v', h', k', n', hX', r1, r2, r3, r4, fun fs q => st1.trans (r5 fs q)⟩
theorem own_virtualZ (K : own_Cx p s m meth c Z own nm bytes maxL ret) {i ml W : Nat} {y z : MethodName} {C : String} {b : ByteArray} {rt : Option FieldType} {rm : Room} {a : Addr} {argsL : List Value} {Qc : Option Value → Heap → Prop} {ps : List FieldType} {r : Option FieldType} (hd : own_D bytes pc (.invokevirtual i) 3 pc') (w1 : (Cond.methodLink own i y).before a0 Z = true) (w2 : (Cond.declares y).before a0 Z = true) (w5 : (Cond.selects C y z).before a0 Z = true) (w6 : (Cond.instanceMethod z).before a0 Z = true) (w3 : (Cond.initialized z.cls).before a0 Z = true) (w4 : (Cond.code z b ml rt).before a0 Z = true)
    (E : Exa Z h a C) (hnf : ∀ vm, s.Warmed39 vm → NotFace (s.setVm vm) y) (hM : own_Met false l Z z b ml rt [] rm (.ref a :: argsL).toArray h Qc) (hp : parseMethodDescriptor y.desc = some ⟨ps, r⟩) (hlen : argsL.length = ps.length) (hst : st = argsL.reverse ++ .ref a :: rest) (hsz : Ls.size = maxL) (hy : y.cls ≠ "java/lang/invoke/MethodHandle" ∧ y.cls ≠ "java/lang/invoke/VarHandle") (hW : (rest.map fun v => v.category).sum ≤ W) (hf : rm.frames + 1 ≤ R.frames) (hl : W + (ml + 11) + rm.locals ≤ R.locals) (hc : k + rm.cells ≤ R.cells) (hs : n + rm.slots ≤ R.slots)
    (hr : ∀ v h', Qc v h' → own_G w p l e R s m args below meth c Z Q h' (k + rm.cells) (n + rm.slots) (mkF m (pc') Ls (v.toList ++ rest))) : own_G w p l e R s m args below meth c Z Q h k n (mkF m pc Ls st) := by
  obtain ⟨hd, rfl⟩ := hd
  intro T hX
  obtain ⟨L, vm, X, N, eT, hw, hS⟩ := hX
  have hZ := own_zw K.2.2.2.2.2.1 hS
  have hown : (s.setVm vm).vm.findClass own = some m.cls := by rw [show (s.setVm vm).vm = vm from rfl, hS.1.alike.findClass]; exact K.2.2.2.2.2.2.1
  obtain ⟨cq, kq, qa, qb, qc⟩ := isOf (s := s.setVm vm) hZ eT E
  obtain ⟨v, vm1, ⟨T1, L1, k1, n1⟩, -, X1, ⟨Lc, ⟨hQ, N1, z1⟩, l1, y1, x1⟩, st1⟩ := X.virtualBack K.1 (y := y) (z := z) hown (mvT hZ w1) (mvT hZ w2) (hnf vm hS.1) (mvT hZ w5) (mvT hZ w6) hy (backOf (W := W) (Q := fun v h'' L => Qc v h'' ∧ Fr Z.heap.size L ∧ h.size ≤ h''.size) (show MetFree _ _ _ _ _ _ from hM) hZ w4 w3 hf hl) qa qc (g := mkF m pc Ls st) rfl (hsz.trans K.2.2.1.symm) (Steps.refl _) (argsL := argsL) (rest := rest) (lenOf hp hlen) hst (by show 2 * 0 + _ ≤ W; simpa using hW) (hb K.2.1 hd) (fun _ _ => ⟨rfl, eT, hc, hs⟩)
  dsimp only [Pt.U, Pt.locs, Pt.cells, Pt.slots] at X1 l1 y1 x1 st1 hQ z1
  subst l1 y1 x1
  obtain ⟨T', v', h', k', n', hX', r1, r2, r3, r4, r5⟩ := hr v T1.heap hQ T1 ⟨_, vm, X1, N.app N1, rfl, hw, own_since hS z1⟩
  exact ⟨T', v', h', k', n', hX', r1, r2, r3, r4, fun fs q => st1.trans (r5 fs q)⟩
theorem own_retI (K : own_Cx p s m meth c Z own nm bytes maxL (some .int)) {z : Int32} (hd : own_D bytes pc .ireturn 1 pc') (hk : k ≤ R.cells) (hn : n ≤ R.slots) (hQ : Q (some (.int z)) h) : own_G w p l e R s m args below meth c Z Q h k n (mkF m pc Ls (.int z :: st)) := by
  obtain ⟨hd, -⟩ := hd
  intro T hX
  obtain ⟨L, vm, X, N, eT, hw, hS⟩ := hX
  exact ⟨T, some (.int z), h, k, n, ⟨L, vm, X, N, eT, hw, hS⟩, hk, hn, (fun q => by rw [K.2.2.2.1] at q; cases q), hQ, fun fs q => retOut X K.1 K.2.2.2.1 (rfl) (Or.inl ⟨rfl, Or.inl rfl, z, rfl⟩) (hb K.2.1 hd) q⟩
theorem own_retZ (K : own_Cx p s m meth c Z own nm bytes maxL (some .boolean)) {z : Int32} (hz : z = 0 ∨ z = 1) (hd : own_D bytes pc .ireturn 1 pc') (hk : k ≤ R.cells) (hn : n ≤ R.slots) (hQ : Q (some (.int z)) h) : own_G w p l e R s m args below meth c Z Q h k n (mkF m pc Ls (.int z :: st)) := by
  obtain ⟨hd, -⟩ := hd
  intro T hX
  obtain ⟨L, vm, X, N, eT, hw, hS⟩ := hX
  exact ⟨T, some (.int z), h, k, n, ⟨L, vm, X, N, eT, hw, hS⟩, hk, hn, (fun q => by rw [K.2.2.2.1] at q; cases q), hQ, fun fs q => retOut X K.1 K.2.2.2.1 (by rcases hz with rfl | rfl <;> decide) (Or.inl ⟨rfl, Or.inr (Or.inl rfl), z, rfl⟩) (hb K.2.1 hd) q⟩
theorem own_retC (K : own_Cx p s m meth c Z own nm bytes maxL (some .char)) {z : Int32} (hz : narrow .char (.int z) = .int z) (hd : own_D bytes pc .ireturn 1 pc') (hk : k ≤ R.cells) (hn : n ≤ R.slots) (hQ : Q (some (.int z)) h) : own_G w p l e R s m args below meth c Z Q h k n (mkF m pc Ls (.int z :: st)) := by
  obtain ⟨hd, -⟩ := hd
  intro T hX
  obtain ⟨L, vm, X, N, eT, hw, hS⟩ := hX
  exact ⟨T, some (.int z), h, k, n, ⟨L, vm, X, N, eT, hw, hS⟩, hk, hn, (fun q => by rw [K.2.2.2.1] at q; cases q), hQ, fun fs q => retOut X K.1 K.2.2.2.1 (hz) (Or.inl ⟨rfl, Or.inr (Or.inr (Or.inr (Or.inl rfl))), z, rfl⟩) (hb K.2.1 hd) q⟩
theorem own_retBy (K : own_Cx p s m meth c Z own nm bytes maxL (some .byte)) {z : Int32} (hz : narrow .byte (.int z) = .int z) (hd : own_D bytes pc .ireturn 1 pc') (hk : k ≤ R.cells) (hn : n ≤ R.slots) (hQ : Q (some (.int z)) h) : own_G w p l e R s m args below meth c Z Q h k n (mkF m pc Ls (.int z :: st)) := by
  obtain ⟨hd, -⟩ := hd
  intro T hX
  obtain ⟨L, vm, X, N, eT, hw, hS⟩ := hX
  exact ⟨T, some (.int z), h, k, n, ⟨L, vm, X, N, eT, hw, hS⟩, hk, hn, (fun q => by rw [K.2.2.2.1] at q; cases q), hQ, fun fs q => retOut X K.1 K.2.2.2.1 (hz) (Or.inl ⟨rfl, Or.inr (Or.inr (Or.inl rfl)), z, rfl⟩) (hb K.2.1 hd) q⟩
theorem own_retL (K : own_Cx p s m meth c Z own nm bytes maxL (some .long)) {z : Int64} (hd : own_D bytes pc .lreturn 1 pc') (hk : k ≤ R.cells) (hn : n ≤ R.slots) (hQ : Q (some (.long z)) h) : own_G w p l e R s m args below meth c Z Q h k n (mkF m pc Ls (.long z :: st)) := by
  obtain ⟨hd, -⟩ := hd
  intro T hX
  obtain ⟨L, vm, X, N, eT, hw, hS⟩ := hX
  exact ⟨T, some (.long z), h, k, n, ⟨L, vm, X, N, eT, hw, hS⟩, hk, hn, (fun q => by rw [K.2.2.2.1] at q; cases q), hQ, fun fs q => retOut X K.1 K.2.2.2.1 (rfl) (Or.inr (Or.inl ⟨rfl, rfl, z, rfl⟩)) (hb K.2.1 hd) q⟩
theorem own_retD (K : own_Cx p s m meth c Z own nm bytes maxL (some .double)) {z : UInt64} (hd : own_D bytes pc .dreturn 1 pc') (hk : k ≤ R.cells) (hn : n ≤ R.slots) (hQ : Q (some (.double z)) h) : own_G w p l e R s m args below meth c Z Q h k n (mkF m pc Ls (.double z :: st)) := by
  obtain ⟨hd, -⟩ := hd
  intro T hX
  obtain ⟨L, vm, X, N, eT, hw, hS⟩ := hX
  exact ⟨T, some (.double z), h, k, n, ⟨L, vm, X, N, eT, hw, hS⟩, hk, hn, (fun q => by rw [K.2.2.2.1] at q; cases q), hQ, fun fs q => retOut X K.1 K.2.2.2.1 (rfl) (Or.inr (Or.inr (Or.inl ⟨rfl, rfl, z, rfl⟩))) (hb K.2.1 hd) q⟩
theorem own_retA (K : own_Cx p s m meth c Z own nm bytes maxL (some tyR)) {v : Value} (hty : tyR.isReference = true) (hv : v.isRef = true) (hd : own_D bytes pc .areturn 1 pc') (hk : k ≤ R.cells) (hn : n ≤ R.slots) (hQ : Q (some (v)) h) : own_G w p l e R s m args below meth c Z Q h k n (mkF m pc Ls (v :: st)) := by
  obtain ⟨hd, -⟩ := hd
  intro T hX
  obtain ⟨L, vm, X, N, eT, hw, hS⟩ := hX
  exact ⟨T, some (v), h, k, n, ⟨L, vm, X, N, eT, hw, hS⟩, hk, hn, (fun q => by rw [K.2.2.2.1] at q; cases q), hQ, fun fs q => retOut X K.1 K.2.2.2.1 (by rcases ref_cases hv with rfl | ⟨a, rfl⟩ <;> cases tyR <;> first | rfl | cases hty) (Or.inr (Or.inr (Or.inr (Or.inr ⟨rfl, hty, hv⟩)))) (hb K.2.1 hd) q⟩
theorem own_retV (K : own_Cx p s m meth c Z own nm bytes maxL none) (hd : own_D bytes pc .return_ 1 pc') (hk : k ≤ R.cells) (hn : n ≤ R.slots) (hQ : Q none h) : own_G w p l e R s m args below meth c Z Q h k n (mkF m pc Ls []) := by
  obtain ⟨hd, -⟩ := hd
  intro T hX
  obtain ⟨L, vm, X, N, eT, hw, hS⟩ := hX
  exact ⟨T, none, h, k, n, ⟨L, vm, X, N, eT, hw, hS⟩, hk, hn, (fun _ => rfl), hQ, fun fs q => X.returnOut K.1 K.2.2.2.1 (hb K.2.1 hd) q⟩
theorem own_met {y : MethodName} {ws : List Cond} {rm : Room} {as' : Array Value} (hpn : plainFor y = true)
    (body : ∀ (p : Program) (e : Env) (s : State) (m : MethodId) (below : List Frame) (meth : Method) (c : Code), own_Cx p s m meth c Z y.cls y.name bytes maxL ret → own_G w p l e rm s m as' below meth c Z Q h 0 0 (entryFrame m as' maxL)) :
    own_Met w l Z y bytes maxL ret ws rm as' h Q := by
  refine MetFree.of_bodySF hpn hisR ?_
  intro p e s m args below meth c s₁ Bd hml0 hP hK
  obtain ⟨rfl, hZ, hh⟩ := hP
  have X0 : Stand p l e rm s m args below meth c s₁ [] 0 0 := Stand.of_body Bd
  have e0 : s₁.heap = h := by rw [← hh, Bd.state]; rfl
  have hlk : meth.locks = false := BodyLoose.notSynchronized Bd
  obtain ⟨T', v, h', k', n', ⟨L, vm, X, N, eT, hw, hS⟩, r1, r2, r3, r4, r5⟩ := body p e s m below meth c ⟨Bd.exec, Bd.bytes, hml0, Bd.returns, hlk, hZ, findClass_of_methodNamed Bd.named, (name_of_methodNamed Bd.named Bd.method).1⟩ s₁
    ⟨[], s.vm, X0, Fr.nil _, e0, fun _ => rfl, (State.WarmedH.refl s).since _⟩
  have hgr : h.size ≤ h'.size := by rw [← eT, ← hh]; exact X.same.2.1
  cases w with
  | false =>
    obtain rfl := hw rfl
    obtain ⟨fs, hr, hrun, hended, hW, hsame⟩ := Stand.leave (s := s) X r3
    exact ⟨_, _, r5 fs hr, hrun, hended, v, L, rfl, ⟨by show Q v T'.heap; rw [eT]; exact r4, N, by show h.size ≤ T'.heap.size; rw [eT]; exact hgr⟩, ⟨_, rfl⟩, hW, hsame.mono r1 r2⟩
  | true =>
    obtain ⟨fs, hr, hrun, hended, q1, q2, q3, q4⟩ := Stand.leaveW X hS (Nat.le_of_eq (congrArg Array.size eT.symm)) r3
    exact ⟨_, _, r5 fs hr, hrun, hended, v, L, rfl, ⟨by show Q v T'.heap; rw [eT]; exact r4, N, by show h.size ≤ T'.heap.size; rw [eT]; exact hgr⟩, q1, q2, q3, q4.mono r1 r2⟩
theorem own_list_getD {vs : List Value} {cl : Cell} (e : cl.slots.toList = vs) (d : Value) {i : Nat} (hi : i < cl.slots.size) : cl.slots[i]? = some (vs.getD i d) := by
  subst e
  rw [List.getD_eq_getElem?_getD, Array.getElem?_toList, Array.getElem?_eq_getElem hi]; rfl
theorem own_arv {a : Addr} {ty : FieldType} {ad : String} {vs : List Value} (F : own_AK Z h (a, ty, ad, vs)) (hl : vs.length < 2147483648) : ∃ (kc : ClassId) (z : Int32), z.toNatClampNeg = vs.length ∧ ¬ z < 0 ∧ Arv Z h a kc ty z vs .null := by
  obtain ⟨cl, A, e1, e3, -, -⟩ := F
  have e1' : cl.slots.toList = vs := e1
  have hsz : cl.slots.size = vs.length := by rw [← Array.length_toList, e1']
  have q := len_toInt (n := vs.length) (by omega)
  have z0 : ¬ vs.length.toInt32 < 0 := by rw [Int32.lt_iff_toInt_lt, q, show (0 : Int32).toInt = 0 from rfl]; omega
  have zc : vs.length.toInt32.toNatClampNeg = vs.length := by simp only [Int32.toNatClampNeg, q]; rfl
  refine ⟨cl.cls, vs.length.toInt32, zc, z0, cl, A, rfl, by rw [zc]; exact hsz, z0, fun i hi => own_list_getD e1' _ hi, fun i hi => ?_⟩
  have hi' : i < vs.length := by omega
  rw [List.getD_eq_getElem?_getD, List.getElem?_eq_getElem hi']
  exact e3 _ (List.getElem_mem hi')
theorem own_of_arv {a : Addr} {ty : FieldType} {vs : List Value} {kc : ClassId} {z : Int32} {d : Value} (F : Arv Z h a kc ty z vs d) (hz : z.toNatClampNeg = vs.length) : ∃ cl : Cell, Arr Z h a cl ty ∧ cl.cls = kc ∧ cl.slots.toList = vs ∧ ∀ v ∈ vs, fits ty v = true := by
  obtain ⟨cl, A, e1, e2, -, H, G⟩ := F
  have hsz : cl.slots.size = vs.length := e2.trans hz
  refine ⟨cl, A, e1, ?_, fun v hv => ?_⟩
  · apply List.ext_getElem?
    intro i
    rw [Array.getElem?_toList]
    by_cases hi : i < cl.slots.size
    · rw [H i hi, List.getD_eq_getElem?_getD, List.getElem?_eq_getElem (by omega)]; rfl
    · rw [Array.getElem?_eq_none (by omega), List.getElem?_eq_none (by omega)]
  · obtain ⟨i, hi, rfl⟩ := List.getElem_of_mem hv
    have := G i (by omega)
    rw [List.getD_eq_getElem?_getD, List.getElem?_eq_getElem hi] at this
    exact this
theorem own_H.keepA (H : own_H Z h os as) {b : Addr} {ty : FieldType} {ad : String} {vd vd' : List Value} {i : Nat} (hb : as[i]? = some (b, ty, ad, vd)) (Kp : Keep h h' [b]) (F : ∃ cl : Cell, Arr Z h' b cl ty ∧ cl.slots.toList = vd' ∧ ∀ v ∈ vd', fits ty v = true) (hty : ∀ C, ty ≠ .object C) : own_H Z h' os (as.set i (b, ty, ad, vd')) := by
  have nb := (H.2.2.1 _ (own_mem hb)).1
  have hlen := (List.getElem?_eq_some_iff.mp hb).1
  refine ⟨⟨Nat.le_trans H.1.1 Kp.1, fun x cx hx => Kp.2.1 x cx (H.1.2 x cx hx) fun q => ?_⟩, fun o ho => ?_, fun y hy => ?_, ?_⟩
  · cases List.mem_singleton.mp q; exact absurd (Array.getElem?_eq_some_iff.mp hx).1 (Nat.not_lt.mpr nb)
  · obtain ⟨n1, E, F', Pw⟩ := H.2.1 o ho
    exact ⟨n1, E.keep Kp, fun f hf => (F' f hf).keep Kp fun q => H.neOA ho (own_mem hb) (List.mem_singleton.mp q), Pw⟩
  · obtain ⟨j, hj⟩ := List.mem_iff_getElem?.mp hy
    rw [List.getElem?_set] at hj
    by_cases ij : i = j
    · subst ij
      rw [if_pos rfl, if_pos hlen] at hj
      obtain rfl := Option.some.inj hj
      obtain ⟨cl, A, e1, e2⟩ := F
      obtain ⟨-, cl0, -, -, -, e4, -⟩ := H.2.2.1 _ (own_mem hb)
      exact ⟨nb, cl, A, e1, e2, fun q => (e4 q).keep Kp, fun C hC => absurd hC (hty C)⟩
    · rw [if_neg ij] at hj
      obtain ⟨n1, cl, h1, h2, h3, h4, h5⟩ := H.2.2.1 _ (own_mem hj)
      exact ⟨n1, cl, ⟨Kp.2.1 _ _ h1.1 fun q => H.neAA hj hb (Ne.symm ij) (List.mem_singleton.mp q), h1.2⟩, h2, h3, fun q => (h4 q).keep Kp, h5⟩
  · rw [own_set_map (f := fun z => z.1) (x' := (b, ty, ad, vd')) hb rfl]; exact H.2.2.2
theorem own_range_take {vs : List Value} {sq nq : Nat} {d : Value} (hq : sq + nq ≤ vs.length) : (vs.drop sq).take nq = (List.range nq).map fun i => vs.getD (sq + i) d := by
  apply List.ext_getElem?
  intro i
  by_cases hi : i < nq
  · rw [List.getElem?_take_of_lt hi, List.getElem?_drop, List.getElem?_map, List.getElem?_range hi, Option.map_some, List.getD_eq_getElem?_getD, List.getElem?_eq_getElem (by omega)]; rfl
  · rw [List.getElem?_eq_none (by simp; omega), List.getElem?_eq_none (by simp; omega)]
theorem own_arraycopy (K : own_Cx p s m meth c Z own nm bytes maxL ret) {i ia ib : Nat} {a b : Addr} {ty : FieldType} {ada adb : String} {vs vd : List Value} {sp dp nn : Int32} {sq dq nq : Nat} (hd : own_D bytes pc (.invokestatic i) 3 pc') (w1 : (Cond.methodLink own i Jvm.Stand.acN).before a0 Z = true) (w2 : (Cond.native Jvm.Stand.acN).before a0 Z = true) (w3 : (Cond.static Jvm.Stand.acN).before a0 Z = true) (w4 : (Cond.initialized "java/lang/System").before a0 Z = true) (H : own_H Z h os as)
    (ha : as[ia]? = some (a, ty, ada, vs)) (hb' : as[ib]? = some (b, ty, adb, vd)) (hty : refKind ty = false) (hto : ∀ C, ty ≠ .object C) (hsp : sp.toInt = (sq : Int)) (hdp : dp.toInt = (dq : Int)) (hnn : nn.toInt = (nq : Int)) (h4 : sq + nq ≤ vs.length) (h5 : dq + nq ≤ vd.length) (hvl : vs.length < 2147483648) (hvd : vd.length < 2147483648) (hsz : Ls.size = maxL) (hf : 1 ≤ R.frames) {W : Nat} (hW : (st.map fun v => v.category).sum ≤ W) (hlo : W + (nativeFrameWords "java/lang/System" "arraycopy" 5 + 11) ≤ R.locals)
    (hr : ∀ h', own_H Z h' os (as.set ib (b, ty, adb, vd.take dq ++ (vs.drop sq).take nq ++ vd.drop (dq + nq))) → own_G w p l e R s m args below meth c Z Q h' k n (mkF m pc' Ls st)) : own_G w p l e R s m args below meth c Z Q h k n (mkF m pc Ls (.int nn :: .int dp :: .ref b :: .int sp :: .ref a :: st)) := by
  obtain ⟨hd, rfl⟩ := hd
  refine own_step K (P := fun h' => own_H Z h' os (as.set ib (b, ty, adb, vd.take dq ++ (vs.drop sq).take nq ++ vd.drop (dq + nq)))) (fun X hZ hw eT N => ?_) hr
  obtain ⟨ka, za, qa1, qa2, A⟩ := own_arv (H.2.2.1 _ (own_mem ha)).2 hvl
  obtain ⟨kb, zb, qb1, qb2, B⟩ := own_arv (H.2.2.1 _ (own_mem hb')).2 hvd
  have i1 := own_idx hsp
  have i2 := own_idx hdp
  have i3 := own_idx hnn
  have neg : ∀ {x : Int32} {q : Nat}, x.toInt = (q : Int) → ¬ x < 0 := fun {x q} e => by rw [Int32.lt_iff_toInt_lt, e, show (0 : Int32).toInt = 0 from rfl]; omega
  obtain ⟨T', h', L, X', e', N', Kp, A', st⟩ := cpA X K.1 hZ hw w1 w2 w3 w4 eT A B (Or.inl ⟨rfl, hty⟩) (neg hsp) (neg hdp) (neg hnn) (by rw [i1, i3, qa1]; exact h4) (by rw [i2, i3, qb1]; exact h5) (by rw [i1, i3]) (by rw [i2, i3]; exact h5) N (H.2.2.1 _ (own_mem hb')).1 (g := mkF m pc Ls (.int nn :: .int dp :: .ref b :: .int sp :: .ref a :: st)) rfl (hsz.trans K.2.2.1.symm) rfl (hb K.2.1 hd) hf (W := W) (by show 2 * 0 + _ ≤ W; simpa using hW) hlo
  rw [i2, i3, ← own_range_take h4] at A'
  obtain ⟨cl, c1, -, c3, c4⟩ := own_of_arv A' (by rw [qb1]; simp; omega)
  exact ⟨T', h', L, X', N', e', Kp.1, H.keepA hb' Kp ⟨cl, c1, c3, c4⟩ hto, st⟩
theorem own_cast {g g' : JFrame} (q : g = g') (hr : own_G w p l e R s m args below meth c Z Q h k n g') : own_G w p l e R s m args below meth c Z Q h k n g := q ▸ hr
theorem own_topI {x x' : Int32} (q : x = x') (hr : own_G w p l e R s m args below meth c Z Q h k n (mkF m pc Ls (.int x' :: st))) : own_G w p l e R s m args below meth c Z Q h k n (mkF m pc Ls (.int x :: st)) := q ▸ hr
theorem own_topL {x x' : Int64} (q : x = x') (hr : own_G w p l e R s m args below meth c Z Q h k n (mkF m pc Ls (.long x' :: st))) : own_G w p l e R s m args below meth c Z Q h k n (mkF m pc Ls (.long x :: st)) := q ▸ hr
theorem own_topD {x x' : UInt64} (q : x = x') (hr : own_G w p l e R s m args below meth c Z Q h k n (mkF m pc Ls (.double x' :: st))) : own_G w p l e R s m args below meth c Z Q h k n (mkF m pc Ls (.double x :: st)) := q ▸ hr
theorem own_H.perm (H : own_H Z h os as) (po : os.Perm os') (pa : as.Perm as') : own_H Z h os' as' :=
  ⟨H.1, fun o ho => H.2.1 o (po.mem_iff.mpr ho), fun a ha => H.2.2.1 a (pa.mem_iff.mpr ha), ((po.map _).append (pa.map _)).nodup_iff.mp H.2.2.2⟩
theorem own_front {α : Type} {L : List α} {x : α} : ∀ {i : Nat}, L[i]? = some x → L.Perm (x :: L.eraseIdx i) := by
  induction L with
  | nil => intro i hx; cases hx
  | cons y L ih =>
    intro i hx
    cases i with
    | zero => cases hx; exact List.Perm.refl _
    | succ i =>
      have q := ih (i := i) (by simpa using hx)
      exact ((q.cons y).trans (List.Perm.swap x y _))
theorem own_H.frontO (H : own_H Z h os as) (i : Nat) {x : own_O} (hx : os[i]? = some x) : own_H Z h (x :: os.eraseIdx i) as := H.perm (own_front hx) (List.Perm.refl _)
theorem own_H.frontA (H : own_H Z h os as) (i : Nat) {x : own_A} (hx : as[i]? = some x) : own_H Z h os (x :: as.eraseIdx i) := H.perm (List.Perm.refl _) (own_front hx)
end OwnKit
end Jvm.RoadKit
namespace Jvm.RoadKit
open Sem ClassFile Op Lib Jvm.Stand Jvm.Free Jvm.LawKit
section OwnSta
variable {w : Bool} {p : Program} {l : Launch} {e : Env} {R : Room} {s : State} {m : MethodId} {args : Array Value} {below : List Frame} {meth : Method} {c : Code} {Z : State} {a0 : Array Value} {own nm : String} {bytes : ByteArray} {maxL : Nat} {ret : Option FieldType} {Q : Option Value → Heap → Prop} {h h' : Heap} {k n k' n' : Nat} {pc pc' pcT : Nat} {Ls Ls' : Array Slot} {st rest : List Value} {os os' : List own_O} {as as' : List own_A} {g g' : JFrame} {tyR : FieldType}
theorem own_ldcF (K : own_Cx p s m meth c Z own nm bytes maxL ret) {i : Nat} {v : UInt32} (hd : own_D bytes pc (.ldc i) 2 pc') (wc : (Cond.constantFloat own i v).before a0 Z = true) (hr : own_G w p l e R s m args below meth c Z Q h k n (mkF m pc' Ls (.float v :: st))) : own_G w p l e R s m args below meth c Z Q h k n (mkF m pc Ls st) := by
  obtain ⟨hd, rfl⟩ := hd
  exact own_pure K (fun X hZ ho _ _ q => X.ldcFloatC K.1 ho (mvT hZ wc) (g := mkF m pc Ls st) rfl (hb K.2.1 hd) _ q) hr
theorem own_getstatic (K : own_Cx p s m meth c Z own nm bytes maxL ret) {i : Nat} {R0 O f d : String} {v : Value} (hd : own_D bytes pc (.getstatic i) 3 pc') (wl : (Cond.fieldLink own i R0 f d).before a0 Z = true) (via : Via Z R0 O f d) (F : Sta Z h O f d v) (hr : own_G w p l e R s m args below meth c Z Q h k n (mkF m pc' Ls (v :: st))) : own_G w p l e R s m args below meth c Z Q h k n (mkF m pc Ls st) := by
  obtain ⟨hd, rfl⟩ := hd
  refine own_step K (P := fun h' => h' = h) (fun X hZ hw eT N => ?_) (fun h' e => by subst e; exact hr)
  obtain ⟨T', X', e', st⟩ := getS X K.1 hZ hw wl via eT F (host := "") (g := mkF m pc Ls st) rfl (hb K.2.1 hd)
  exact ⟨T', _, _, X', N, e', Nat.le_refl _, rfl, st⟩
theorem own_ialoadZ (K : own_Cx p s m meth c Z own nm bytes maxL ret) {q : Nat} {a : Addr} {cl : Cell} {v : Value} {j : Int32} (hd : own_D bytes pc .iaload 1 pc') (A : Arr Z h a cl .int) (hj : j.toInt = (q : Int)) (hv : cl.slots[q]? = some v) (hr : own_G w p l e R s m args below meth c Z Q h k n (mkF m pc' Ls (v :: st))) : own_G w p l e R s m args below meth c Z Q h k n (mkF m pc Ls (.int j :: .ref a :: st)) := by
  obtain ⟨hd, rfl⟩ := hd
  have hq := (Array.getElem?_eq_some_iff.mp hv).1
  exact own_pure K (fun X hZ _ eT _ r => X.iaload K.1 (by rw [eT]; exact A.1) (State.isArrayOf_alike hZ.alike A.2.1) A.2.2 (own_in hj hq) (by rw [own_idx hj]; exact hv) (g := mkF m pc Ls (.int j :: .ref a :: st)) rfl rfl (hb K.2.1 hd) _ r) hr
theorem own_private (K : own_Cx p s m meth c Z own nm bytes maxL ret) {i ml W : Nat} {y : MethodName} {C : String} {b : ByteArray} {rt : Option FieldType} {rm : Room} {a : Addr} {argsL : List Value} {Qc : Option Value → Heap → Prop} {ps : List FieldType} {r : Option FieldType} (hd : own_D bytes pc (.invokevirtual i) 3 pc') (w1 : (Cond.methodLink own i y).before a0 Z = true) (w2 : (Cond.privateMethod y).before a0 Z = true) (w5 : (Cond.selects y.cls y y).before a0 Z = true) (w6 : (Cond.instanceMethod y).before a0 Z = true) (w3 : (Cond.initialized y.cls).before a0 Z = true) (w4 : (Cond.code y b ml rt).before a0 Z = true)
    (E : Exa Z h a C) (hM : own_Met false l Z y b ml rt [] rm (.ref a :: argsL).toArray h Qc) (hp : parseMethodDescriptor y.desc = some ⟨ps, r⟩) (hlen : argsL.length = ps.length) (hst : st = argsL.reverse ++ .ref a :: rest) (hsz : Ls.size = maxL) (hy : y.cls ≠ "java/lang/invoke/MethodHandle" ∧ y.cls ≠ "java/lang/invoke/VarHandle") (hW : (rest.map fun v => v.category).sum ≤ W) (hf : rm.frames + 1 ≤ R.frames) (hl : W + (ml + 11) + rm.locals ≤ R.locals) (hc : k + rm.cells ≤ R.cells) (hs : n + rm.slots ≤ R.slots)
    (hr : ∀ v h', Qc v h' → own_G w p l e R s m args below meth c Z Q h' (k + rm.cells) (n + rm.slots) (mkF m (pc') Ls (v.toList ++ rest))) : own_G w p l e R s m args below meth c Z Q h k n (mkF m pc Ls st) := by
  obtain ⟨hd, rfl⟩ := hd
  intro T hX
  obtain ⟨L, vm, X, N, eT, hw, hS⟩ := hX
  have hZ := own_zw K.2.2.2.2.2.1 hS
  have hown : (s.setVm vm).vm.findClass own = some m.cls := by rw [show (s.setVm vm).vm = vm from rfl, hS.1.alike.findClass]; exact K.2.2.2.2.2.2.1
  obtain ⟨cell, kc, x1, x2, x3, x4, x5⟩ := E
  obtain ⟨v, vm1, ⟨T1, L1, k1, n1⟩, -, X1, ⟨Lc, ⟨hQ, N1, z1⟩, l1, y1, x1⟩, st1⟩ := X.privateBack K.1 (y := y) hown (mvT hZ w1) (mvT hZ w6) (mvT hZ w5) (Cond.privateMethod_at (args := args) (mvT hZ w2)) (mvT hZ w4) hy (backOf (W := W) (Q := fun v h'' L => Qc v h'' ∧ Fr Z.heap.size L ∧ h.size ≤ h''.size) (show MetFree _ _ _ _ _ _ from hM) hZ w4 w3 hf hl) (g := mkF m pc Ls st) rfl (hsz.trans K.2.2.1.symm) (Steps.refl _) (a := a) (cell := cell) (by rw [eT]; exact x1) (fun q z => by rw [z] at x4; cases x4) (argsL := argsL) (rest := rest) (lenOf hp hlen) hst (by show 2 * 0 + _ ≤ W; simpa using hW) (hb K.2.1 hd) (fun _ _ => ⟨rfl, eT, hc, hs⟩)
  dsimp only [Pt.U, Pt.locs, Pt.cells, Pt.slots] at X1 l1 y1 x1 st1 hQ z1
  subst l1 y1 x1
  obtain ⟨T', v', h', k', n', hX', r1, r2, r3, r4, r5⟩ := hr v T1.heap hQ T1 ⟨_, vm, X1, N.app N1, rfl, hw, own_since hS z1⟩
  exact ⟨T', v', h', k', n', hX', r1, r2, r3, r4, fun fs q => st1.trans (r5 fs q)⟩
end OwnSta
end Jvm.RoadKit
namespace Jvm.Pilot.@@N@@
open Jvm Jvm.ClassFile Sem Op Lib Jvm.Free Jvm.Stand Jvm.LawKit Jvm.RoadKit Bundle Jvm.Pilot.@@N@@.Jvm.D
def own_Z (Z : State) (a0 : Array Value) : Prop := ∀ d ∈ tables_1, d.before a0 Z = true
theorem own_w0 {Z : State} {a0 : Array Value} (hw : own_Z Z a0) : (Jvm.Cond.classLink "com/example/cistern/cistern/config/SettingNotBlankPinLaw" (12 : Nat) "com/example/cistern/cistern/config/SettingsDraft").before a0 Z = true := hw _ (List.mem_of_getElem? (i := 0) rfl)
theorem own_w1 {Z : State} {a0 : Array Value} (hw : own_Z Z a0) : (Jvm.Cond.instantiable "com/example/cistern/cistern/config/SettingsDraft" (1 : Nat)).before a0 Z = true := hw _ (List.mem_of_getElem? (i := 1) rfl)
theorem own_w2 {Z : State} {a0 : Array Value} (hw : own_Z Z a0) : (Jvm.Cond.initialized "com/example/cistern/cistern/config/SettingsDraft").before a0 Z = true := hw _ (List.mem_of_getElem? (i := 2) rfl)
theorem own_w3 {Z : State} {a0 : Array Value} (hw : own_Z Z a0) : (Jvm.Cond.methodLink "com/example/cistern/cistern/config/SettingNotBlankPinLaw" (14 : Nat) ({ cls := "com/example/cistern/cistern/config/SettingsDraft", name := "<init>", desc := "()V" } : Jvm.MethodName)).before a0 Z = true := hw _ (List.mem_of_getElem? (i := 3) rfl)
theorem own_w4 {Z : State} {a0 : Array Value} (hw : own_Z Z a0) : (Jvm.Cond.instanceMethod ({ cls := "com/example/cistern/cistern/config/SettingsDraft", name := "<init>", desc := "()V" } : Jvm.MethodName)).before a0 Z = true := hw _ (List.mem_of_getElem? (i := 4) rfl)
theorem own_w5 {Z : State} {a0 : Array Value} (hw : own_Z Z a0) : (Jvm.Cond.code ({ cls := "com/example/cistern/cistern/config/SettingsDraft", name := "<init>", desc := "()V" } : Jvm.MethodName) prog_10_method_1_code (1 : Nat) (Option.none : Option Jvm.ClassFile.FieldType)).before a0 Z = true := hw _ (List.mem_of_getElem? (i := 5) rfl)
theorem own_w6 {Z : State} {a0 : Array Value} (hw : own_Z Z a0) : (Jvm.Cond.methodLink "com/example/cistern/cistern/config/SettingsDraft" (1 : Nat) ({ cls := "java/lang/Object", name := "<init>", desc := "()V" } : Jvm.MethodName)).before a0 Z = true := hw _ (List.mem_of_getElem? (i := 6) rfl)
theorem own_w7 {Z : State} {a0 : Array Value} (hw : own_Z Z a0) : (Jvm.Cond.instanceMethod ({ cls := "java/lang/Object", name := "<init>", desc := "()V" } : Jvm.MethodName)).before a0 Z = true := hw _ (List.mem_of_getElem? (i := 7) rfl)
theorem own_w8 {Z : State} {a0 : Array Value} (hw : own_Z Z a0) : (Jvm.Cond.code ({ cls := "java/lang/Object", name := "<init>", desc := "()V" } : Jvm.MethodName) object_method_1_code (1 : Nat) (Option.none : Option Jvm.ClassFile.FieldType)).before a0 Z = true := hw _ (List.mem_of_getElem? (i := 8) rfl)
theorem own_w9 {Z : State} {a0 : Array Value} (hw : own_Z Z a0) : (Jvm.Cond.classLink "com/example/cistern/cistern/config/SettingsDraft" (7 : Nat) "java/util/HashMap").before a0 Z = true := hw _ (List.mem_of_getElem? (i := 9) rfl)
theorem own_w10 {Z : State} {a0 : Array Value} (hw : own_Z Z a0) : (Jvm.Cond.instantiable "java/util/HashMap" (8 : Nat)).before a0 Z = true := hw _ (List.mem_of_getElem? (i := 10) rfl)
theorem own_w11 {Z : State} {a0 : Array Value} (hw : own_Z Z a0) : (Jvm.Cond.initialized "java/util/HashMap").before a0 Z = true := hw _ (List.mem_of_getElem? (i := 11) rfl)
theorem own_w12 {Z : State} {a0 : Array Value} (hw : own_Z Z a0) : (Jvm.Cond.methodLink "com/example/cistern/cistern/config/SettingsDraft" (9 : Nat) ({ cls := "java/util/HashMap", name := "<init>", desc := "()V" } : Jvm.MethodName)).before a0 Z = true := hw _ (List.mem_of_getElem? (i := 12) rfl)
theorem own_w13 {Z : State} {a0 : Array Value} (hw : own_Z Z a0) : (Jvm.Cond.instanceMethod ({ cls := "java/util/HashMap", name := "<init>", desc := "()V" } : Jvm.MethodName)).before a0 Z = true := hw _ (List.mem_of_getElem? (i := 13) rfl)
theorem own_w14 {Z : State} {a0 : Array Value} (hw : own_Z Z a0) : (Jvm.Cond.code ({ cls := "java/util/HashMap", name := "<init>", desc := "()V" } : Jvm.MethodName) jdk_69_method_7_code (1 : Nat) (Option.none : Option Jvm.ClassFile.FieldType)).before a0 Z = true := hw _ (List.mem_of_getElem? (i := 14) rfl)
theorem own_w15 {Z : State} {a0 : Array Value} (hw : own_Z Z a0) : (Jvm.Cond.methodLink "java/util/HashMap" (43 : Nat) ({ cls := "java/util/AbstractMap", name := "<init>", desc := "()V" } : Jvm.MethodName)).before a0 Z = true := hw _ (List.mem_of_getElem? (i := 15) rfl)
theorem own_w16 {Z : State} {a0 : Array Value} (hw : own_Z Z a0) : (Jvm.Cond.instanceMethod ({ cls := "java/util/AbstractMap", name := "<init>", desc := "()V" } : Jvm.MethodName)).before a0 Z = true := hw _ (List.mem_of_getElem? (i := 16) rfl)
theorem own_w19 {Z : State} {a0 : Array Value} (hw : own_Z Z a0) : (Jvm.Cond.initialized "java/util/AbstractMap").before a0 Z = true := hw _ (List.mem_of_getElem? (i := 19) rfl)
theorem own_w20 {Z : State} {a0 : Array Value} (hw : own_Z Z a0) : (Jvm.Cond.code ({ cls := "java/util/AbstractMap", name := "<init>", desc := "()V" } : Jvm.MethodName) jdk_71_method_1_code (1 : Nat) (Option.none : Option Jvm.ClassFile.FieldType)).before a0 Z = true := hw _ (List.mem_of_getElem? (i := 20) rfl)
theorem own_w21 {Z : State} {a0 : Array Value} (hw : own_Z Z a0) : (Jvm.Cond.methodLink "java/util/AbstractMap" (1 : Nat) ({ cls := "java/lang/Object", name := "<init>", desc := "()V" } : Jvm.MethodName)).before a0 Z = true := hw _ (List.mem_of_getElem? (i := 21) rfl)
theorem own_w22 {Z : State} {a0 : Array Value} (hw : own_Z Z a0) : (Jvm.Cond.constantFloat "java/util/HashMap" (92 : Nat) (1061158912 : UInt32)).before a0 Z = true := hw _ (List.mem_of_getElem? (i := 22) rfl)
theorem own_w23 {Z : State} {a0 : Array Value} (hw : own_Z Z a0) : (Jvm.Cond.fieldLink "java/util/HashMap" (81 : Nat) "java/util/HashMap" "loadFactor" "F").before a0 Z = true := hw _ (List.mem_of_getElem? (i := 23) rfl)
theorem own_w24 {Z : State} {a0 : Array Value} (hw : own_Z Z a0) : (Jvm.Cond.laysFinal "java/util/HashMap" "java/util/HashMap" "loadFactor" "F").before a0 Z = true := hw _ (List.mem_of_getElem? (i := 24) rfl)
theorem own_w25 {Z : State} {a0 : Array Value} (hw : own_Z Z a0) : (Jvm.Cond.fieldLink "com/example/cistern/cistern/config/SettingsDraft" (10 : Nat) "com/example/cistern/cistern/config/SettingsDraft" "values" "Ljava/util/Map;").before a0 Z = true := hw _ (List.mem_of_getElem? (i := 25) rfl)
theorem own_w26 {Z : State} {a0 : Array Value} (hw : own_Z Z a0) : (Jvm.Cond.laysFinal "com/example/cistern/cistern/config/SettingsDraft" "com/example/cistern/cistern/config/SettingsDraft" "values" "Ljava/util/Map;").before a0 Z = true := hw _ (List.mem_of_getElem? (i := 26) rfl)
theorem own_w27 {Z : State} {a0 : Array Value} (hw : own_Z Z a0) : (Jvm.Cond.methodLink "com/example/cistern/cistern/config/SettingNotBlankPinLaw" (15 : Nat) ({ cls := "com/example/cistern/cistern/config/Setting", name := "notBlank", desc := "(Ljava/lang/String;Lcom/example/cistern/cistern/config/SettingsDraft;)V" } : Jvm.MethodName)).before a0 Z = true := hw _ (List.mem_of_getElem? (i := 27) rfl)
theorem own_w28 {Z : State} {a0 : Array Value} (hw : own_Z Z a0) : (Jvm.Cond.static ({ cls := "com/example/cistern/cistern/config/Setting", name := "notBlank", desc := "(Ljava/lang/String;Lcom/example/cistern/cistern/config/SettingsDraft;)V" } : Jvm.MethodName)).before a0 Z = true := hw _ (List.mem_of_getElem? (i := 28) rfl)
theorem own_w29 {Z : State} {a0 : Array Value} (hw : own_Z Z a0) : (Jvm.Cond.initialized "com/example/cistern/cistern/config/Setting").before a0 Z = true := hw _ (List.mem_of_getElem? (i := 29) rfl)
theorem own_w30 {Z : State} {a0 : Array Value} (hw : own_Z Z a0) : (Jvm.Cond.code ({ cls := "com/example/cistern/cistern/config/Setting", name := "notBlank", desc := "(Ljava/lang/String;Lcom/example/cistern/cistern/config/SettingsDraft;)V" } : Jvm.MethodName) prog_7_method_18_code (2 : Nat) (Option.none : Option Jvm.ClassFile.FieldType)).before a0 Z = true := hw _ (List.mem_of_getElem? (i := 30) rfl)
theorem own_w31 {Z : State} {a0 : Array Value} (hw : own_Z Z a0) : (Jvm.Cond.methodLink "com/example/cistern/cistern/config/SettingNotBlankPinLaw" (21 : Nat) ({ cls := "com/example/cistern/cistern/config/SettingNotBlankPinLaw", name := "ws", desc := "(C)Z" } : Jvm.MethodName)).before a0 Z = true := hw _ (List.mem_of_getElem? (i := 31) rfl)
theorem own_w32 {Z : State} {a0 : Array Value} (hw : own_Z Z a0) : (Jvm.Cond.static ({ cls := "com/example/cistern/cistern/config/SettingNotBlankPinLaw", name := "ws", desc := "(C)Z" } : Jvm.MethodName)).before a0 Z = true := hw _ (List.mem_of_getElem? (i := 32) rfl)
theorem own_w33 {Z : State} {a0 : Array Value} (hw : own_Z Z a0) : (Jvm.Cond.initialized "com/example/cistern/cistern/config/SettingNotBlankPinLaw").before a0 Z = true := hw _ (List.mem_of_getElem? (i := 33) rfl)
theorem own_w34 {Z : State} {a0 : Array Value} (hw : own_Z Z a0) : (Jvm.Cond.code ({ cls := "com/example/cistern/cistern/config/SettingNotBlankPinLaw", name := "ws", desc := "(C)Z" } : Jvm.MethodName) method_2_code (1 : Nat) (Option.some Jvm.ClassFile.FieldType.boolean)).before a0 Z = true := hw _ (List.mem_of_getElem? (i := 34) rfl)
theorem own_w35 {Z : State} {a0 : Array Value} (hw : own_Z Z a0) : (Jvm.Cond.methodLink "com/example/cistern/cistern/config/SettingNotBlankPinLaw" (27 : Nat) ({ cls := "com/example/cistern/cistern/config/SettingNotBlankPinLaw", name := "make", desc := "(ICCC)Ljava/lang/String;" } : Jvm.MethodName)).before a0 Z = true := hw _ (List.mem_of_getElem? (i := 35) rfl)
theorem own_w36 {Z : State} {a0 : Array Value} (hw : own_Z Z a0) : (Jvm.Cond.static ({ cls := "com/example/cistern/cistern/config/SettingNotBlankPinLaw", name := "make", desc := "(ICCC)Ljava/lang/String;" } : Jvm.MethodName)).before a0 Z = true := hw _ (List.mem_of_getElem? (i := 36) rfl)
theorem own_w37 {Z : State} {a0 : Array Value} (hw : own_Z Z a0) : (Jvm.Cond.code ({ cls := "com/example/cistern/cistern/config/SettingNotBlankPinLaw", name := "make", desc := "(ICCC)Ljava/lang/String;" } : Jvm.MethodName) method_3_code (5 : Nat) (Option.some (Jvm.ClassFile.FieldType.object "java/lang/String"))).before a0 Z = true := hw _ (List.mem_of_getElem? (i := 37) rfl)
theorem own_w38 {Z : State} {a0 : Array Value} (hw : own_Z Z a0) : (Jvm.Cond.arrayClass Jvm.ClassFile.FieldType.char).before a0 Z = true := hw _ (List.mem_of_getElem? (i := 38) rfl)
theorem own_w39 {Z : State} {a0 : Array Value} (hw : own_Z Z a0) : (Jvm.Cond.classLink "com/example/cistern/cistern/config/SettingNotBlankPinLaw" (7 : Nat) "java/lang/String").before a0 Z = true := hw _ (List.mem_of_getElem? (i := 39) rfl)
theorem own_w40 {Z : State} {a0 : Array Value} (hw : own_Z Z a0) : (Jvm.Cond.instantiable "java/lang/String" (4 : Nat)).before a0 Z = true := hw _ (List.mem_of_getElem? (i := 40) rfl)
theorem own_w41 {Z : State} {a0 : Array Value} (hw : own_Z Z a0) : (Jvm.Cond.initialized "java/lang/String").before a0 Z = true := hw _ (List.mem_of_getElem? (i := 41) rfl)
theorem own_w42 {Z : State} {a0 : Array Value} (hw : own_Z Z a0) : (Jvm.Cond.methodLink "com/example/cistern/cistern/config/SettingNotBlankPinLaw" (9 : Nat) ({ cls := "java/lang/String", name := "<init>", desc := "([C)V" } : Jvm.MethodName)).before a0 Z = true := hw _ (List.mem_of_getElem? (i := 42) rfl)
theorem own_w43 {Z : State} {a0 : Array Value} (hw : own_Z Z a0) : (Jvm.Cond.instanceMethod ({ cls := "java/lang/String", name := "<init>", desc := "([C)V" } : Jvm.MethodName)).before a0 Z = true := hw _ (List.mem_of_getElem? (i := 43) rfl)
theorem own_w44 {Z : State} {a0 : Array Value} (hw : own_Z Z a0) : (Jvm.Cond.code ({ cls := "java/lang/String", name := "<init>", desc := "([C)V" } : Jvm.MethodName) jdk_42_method_3_code (2 : Nat) (Option.none : Option Jvm.ClassFile.FieldType)).before a0 Z = true := hw _ (List.mem_of_getElem? (i := 44) rfl)
theorem own_w45 {Z : State} {a0 : Array Value} (hw : own_Z Z a0) : (Jvm.Cond.methodLink "java/lang/String" (27 : Nat) ({ cls := "java/lang/String", name := "<init>", desc := "([CIILjava/lang/Void;)V" } : Jvm.MethodName)).before a0 Z = true := hw _ (List.mem_of_getElem? (i := 45) rfl)
theorem own_w46 {Z : State} {a0 : Array Value} (hw : own_Z Z a0) : (Jvm.Cond.instanceMethod ({ cls := "java/lang/String", name := "<init>", desc := "([CIILjava/lang/Void;)V" } : Jvm.MethodName)).before a0 Z = true := hw _ (List.mem_of_getElem? (i := 46) rfl)
theorem own_w48 {Z : State} {a0 : Array Value} (hw : own_Z Z a0) : (Jvm.Cond.code ({ cls := "java/lang/String", name := "<init>", desc := "([CIILjava/lang/Void;)V" } : Jvm.MethodName) jdk_42_method_149_code (6 : Nat) (Option.none : Option Jvm.ClassFile.FieldType)).before a0 Z = true := hw _ (List.mem_of_getElem? (i := 48) rfl)
theorem own_w49 {Z : State} {a0 : Array Value} (hw : own_Z Z a0) : (Jvm.Cond.methodLink "java/lang/String" (1 : Nat) ({ cls := "java/lang/Object", name := "<init>", desc := "()V" } : Jvm.MethodName)).before a0 Z = true := hw _ (List.mem_of_getElem? (i := 49) rfl)
theorem own_w50 {Z : State} {a0 : Array Value} (hw : own_Z Z a0) : (Jvm.Cond.fieldLink "java/lang/String" (38 : Nat) "java/lang/String" "COMPACT_STRINGS" "Z").before a0 Z = true := hw _ (List.mem_of_getElem? (i := 50) rfl)
theorem own_w51 {Z : State} {a0 : Array Value} (hw : own_Z Z a0) : (Jvm.Cond.methodLink "java/lang/String" (177 : Nat) ({ cls := "java/lang/StringUTF16", name := "compress", desc := "([CII)[B" } : Jvm.MethodName)).before a0 Z = true := hw _ (List.mem_of_getElem? (i := 51) rfl)
theorem own_w52 {Z : State} {a0 : Array Value} (hw : own_Z Z a0) : (Jvm.Cond.static ({ cls := "java/lang/StringUTF16", name := "compress", desc := "([CII)[B" } : Jvm.MethodName)).before a0 Z = true := hw _ (List.mem_of_getElem? (i := 52) rfl)
theorem own_w53 {Z : State} {a0 : Array Value} (hw : own_Z Z a0) : (Jvm.Cond.initialized "java/lang/StringUTF16").before a0 Z = true := hw _ (List.mem_of_getElem? (i := 53) rfl)
theorem own_w54 {Z : State} {a0 : Array Value} (hw : own_Z Z a0) : (Jvm.Cond.code ({ cls := "java/lang/StringUTF16", name := "compress", desc := "([CII)[B" } : Jvm.MethodName) jdk_52_method_16_code (6 : Nat) (Option.some (Jvm.ClassFile.FieldType.array Jvm.ClassFile.FieldType.byte))).before a0 Z = true := hw _ (List.mem_of_getElem? (i := 54) rfl)
theorem own_w55 {Z : State} {a0 : Array Value} (hw : own_Z Z a0) : (Jvm.Cond.arrayClass Jvm.ClassFile.FieldType.byte).before a0 Z = true := hw _ (List.mem_of_getElem? (i := 55) rfl)
theorem own_w56 {Z : State} {a0 : Array Value} (hw : own_Z Z a0) : (Jvm.Cond.methodLink "java/lang/StringUTF16" (115 : Nat) ({ cls := "java/lang/StringUTF16", name := "compress", desc := "([CI[BII)I" } : Jvm.MethodName)).before a0 Z = true := hw _ (List.mem_of_getElem? (i := 56) rfl)
theorem own_w57 {Z : State} {a0 : Array Value} (hw : own_Z Z a0) : (Jvm.Cond.static ({ cls := "java/lang/StringUTF16", name := "compress", desc := "([CI[BII)I" } : Jvm.MethodName)).before a0 Z = true := hw _ (List.mem_of_getElem? (i := 57) rfl)
theorem own_w58 {Z : State} {a0 : Array Value} (hw : own_Z Z a0) : (Jvm.Cond.code ({ cls := "java/lang/StringUTF16", name := "compress", desc := "([CI[BII)I" } : Jvm.MethodName) jdk_52_method_21_code (7 : Nat) (Option.some Jvm.ClassFile.FieldType.int)).before a0 Z = true := hw _ (List.mem_of_getElem? (i := 58) rfl)
theorem own_w59 {Z : State} {a0 : Array Value} (hw : own_Z Z a0) : (Jvm.Cond.methodLink "java/lang/String" (47 : Nat) ({ cls := "java/lang/StringUTF16", name := "coderFromArrayLen", desc := "([BI)B" } : Jvm.MethodName)).before a0 Z = true := hw _ (List.mem_of_getElem? (i := 59) rfl)
theorem own_w60 {Z : State} {a0 : Array Value} (hw : own_Z Z a0) : (Jvm.Cond.static ({ cls := "java/lang/StringUTF16", name := "coderFromArrayLen", desc := "([BI)B" } : Jvm.MethodName)).before a0 Z = true := hw _ (List.mem_of_getElem? (i := 60) rfl)
theorem own_w61 {Z : State} {a0 : Array Value} (hw : own_Z Z a0) : (Jvm.Cond.code ({ cls := "java/lang/StringUTF16", name := "coderFromArrayLen", desc := "([BI)B" } : Jvm.MethodName) jdk_52_method_15_code (2 : Nat) (Option.some Jvm.ClassFile.FieldType.byte)).before a0 Z = true := hw _ (List.mem_of_getElem? (i := 61) rfl)
theorem own_w62 {Z : State} {a0 : Array Value} (hw : own_Z Z a0) : (Jvm.Cond.fieldLink "java/lang/String" (15 : Nat) "java/lang/String" "coder" "B").before a0 Z = true := hw _ (List.mem_of_getElem? (i := 62) rfl)
theorem own_w63 {Z : State} {a0 : Array Value} (hw : own_Z Z a0) : (Jvm.Cond.laysFinal "java/lang/String" "java/lang/String" "coder" "B").before a0 Z = true := hw _ (List.mem_of_getElem? (i := 63) rfl)
theorem own_w64 {Z : State} {a0 : Array Value} (hw : own_Z Z a0) : (Jvm.Cond.fieldLink "java/lang/String" (9 : Nat) "java/lang/String" "value" "[B").before a0 Z = true := hw _ (List.mem_of_getElem? (i := 64) rfl)
theorem own_w65 {Z : State} {a0 : Array Value} (hw : own_Z Z a0) : (Jvm.Cond.laysFinal "java/lang/String" "java/lang/String" "value" "[B").before a0 Z = true := hw _ (List.mem_of_getElem? (i := 65) rfl)
theorem own_w66 {Z : State} {a0 : Array Value} (hw : own_Z Z a0) : (Jvm.Cond.methodLink "com/example/cistern/cistern/config/Setting" (91 : Nat) ({ cls := "java/lang/String", name := "isBlank", desc := "()Z" } : Jvm.MethodName)).before a0 Z = true := hw _ (List.mem_of_getElem? (i := 66) rfl)
theorem own_w67 {Z : State} {a0 : Array Value} (hw : own_Z Z a0) : (Jvm.Cond.declares ({ cls := "java/lang/String", name := "isBlank", desc := "()Z" } : Jvm.MethodName)).before a0 Z = true := hw _ (List.mem_of_getElem? (i := 67) rfl)
theorem own_w68 {Z : State} {a0 : Array Value} (hw : own_Z Z a0) : (Jvm.Cond.instanceMethod ({ cls := "java/lang/String", name := "isBlank", desc := "()Z" } : Jvm.MethodName)).before a0 Z = true := hw _ (List.mem_of_getElem? (i := 68) rfl)
theorem own_w69 {Z : State} {a0 : Array Value} (hw : own_Z Z a0) : (Jvm.Cond.selects "java/lang/String" ({ cls := "java/lang/String", name := "isBlank", desc := "()Z" } : Jvm.MethodName) ({ cls := "java/lang/String", name := "isBlank", desc := "()Z" } : Jvm.MethodName)).before a0 Z = true := hw _ (List.mem_of_getElem? (i := 69) rfl)
theorem own_w70 {Z : State} {a0 : Array Value} (hw : own_Z Z a0) : (Jvm.Cond.code ({ cls := "java/lang/String", name := "isBlank", desc := "()Z" } : Jvm.MethodName) jdk_42_method_117_code (1 : Nat) (Option.some Jvm.ClassFile.FieldType.boolean)).before a0 Z = true := hw _ (List.mem_of_getElem? (i := 70) rfl)
theorem own_w71 {Z : State} {a0 : Array Value} (hw : own_Z Z a0) : (Jvm.Cond.methodLink "java/lang/String" (876 : Nat) ({ cls := "java/lang/String", name := "indexOfNonWhitespace", desc := "()I" } : Jvm.MethodName)).before a0 Z = true := hw _ (List.mem_of_getElem? (i := 71) rfl)
theorem own_w72 {Z : State} {a0 : Array Value} (hw : own_Z Z a0) : (Jvm.Cond.instanceMethod ({ cls := "java/lang/String", name := "indexOfNonWhitespace", desc := "()I" } : Jvm.MethodName)).before a0 Z = true := hw _ (List.mem_of_getElem? (i := 72) rfl)
theorem own_w73 {Z : State} {a0 : Array Value} (hw : own_Z Z a0) : (Jvm.Cond.privateMethod ({ cls := "java/lang/String", name := "indexOfNonWhitespace", desc := "()I" } : Jvm.MethodName)).before a0 Z = true := hw _ (List.mem_of_getElem? (i := 73) rfl)
theorem own_w74 {Z : State} {a0 : Array Value} (hw : own_Z Z a0) : (Jvm.Cond.selects "java/lang/String" ({ cls := "java/lang/String", name := "indexOfNonWhitespace", desc := "()I" } : Jvm.MethodName) ({ cls := "java/lang/String", name := "indexOfNonWhitespace", desc := "()I" } : Jvm.MethodName)).before a0 Z = true := hw _ (List.mem_of_getElem? (i := 74) rfl)
theorem own_w75 {Z : State} {a0 : Array Value} (hw : own_Z Z a0) : (Jvm.Cond.code ({ cls := "java/lang/String", name := "indexOfNonWhitespace", desc := "()I" } : Jvm.MethodName) jdk_42_method_120_code (1 : Nat) (Option.some Jvm.ClassFile.FieldType.int)).before a0 Z = true := hw _ (List.mem_of_getElem? (i := 75) rfl)
theorem own_w76 {Z : State} {a0 : Array Value} (hw : own_Z Z a0) : (Jvm.Cond.methodLink "java/lang/String" (492 : Nat) ({ cls := "java/lang/String", name := "isLatin1", desc := "()Z" } : Jvm.MethodName)).before a0 Z = true := hw _ (List.mem_of_getElem? (i := 76) rfl)
theorem own_w77 {Z : State} {a0 : Array Value} (hw : own_Z Z a0) : (Jvm.Cond.declares ({ cls := "java/lang/String", name := "isLatin1", desc := "()Z" } : Jvm.MethodName)).before a0 Z = true := hw _ (List.mem_of_getElem? (i := 77) rfl)
theorem own_w78 {Z : State} {a0 : Array Value} (hw : own_Z Z a0) : (Jvm.Cond.instanceMethod ({ cls := "java/lang/String", name := "isLatin1", desc := "()Z" } : Jvm.MethodName)).before a0 Z = true := hw _ (List.mem_of_getElem? (i := 78) rfl)
theorem own_w79 {Z : State} {a0 : Array Value} (hw : own_Z Z a0) : (Jvm.Cond.selects "java/lang/String" ({ cls := "java/lang/String", name := "isLatin1", desc := "()Z" } : Jvm.MethodName) ({ cls := "java/lang/String", name := "isLatin1", desc := "()Z" } : Jvm.MethodName)).before a0 Z = true := hw _ (List.mem_of_getElem? (i := 79) rfl)
theorem own_w80 {Z : State} {a0 : Array Value} (hw : own_Z Z a0) : (Jvm.Cond.code ({ cls := "java/lang/String", name := "isLatin1", desc := "()Z" } : Jvm.MethodName) jdk_42_method_154_code (1 : Nat) (Option.some Jvm.ClassFile.FieldType.boolean)).before a0 Z = true := hw _ (List.mem_of_getElem? (i := 80) rfl)
theorem own_w81 {Z : State} {a0 : Array Value} (hw : own_Z Z a0) : (Jvm.Cond.methodLink "java/lang/String" (924 : Nat) ({ cls := "java/lang/StringLatin1", name := "indexOfNonWhitespace", desc := "([B)I" } : Jvm.MethodName)).before a0 Z = true := hw _ (List.mem_of_getElem? (i := 81) rfl)
theorem own_w82 {Z : State} {a0 : Array Value} (hw : own_Z Z a0) : (Jvm.Cond.static ({ cls := "java/lang/StringLatin1", name := "indexOfNonWhitespace", desc := "([B)I" } : Jvm.MethodName)).before a0 Z = true := hw _ (List.mem_of_getElem? (i := 82) rfl)
theorem own_w83 {Z : State} {a0 : Array Value} (hw : own_Z Z a0) : (Jvm.Cond.initialized "java/lang/StringLatin1").before a0 Z = true := hw _ (List.mem_of_getElem? (i := 83) rfl)
theorem own_w84 {Z : State} {a0 : Array Value} (hw : own_Z Z a0) : (Jvm.Cond.code ({ cls := "java/lang/StringLatin1", name := "indexOfNonWhitespace", desc := "([B)I" } : Jvm.MethodName) jdk_43_method_37_code (4 : Nat) (Option.some Jvm.ClassFile.FieldType.int)).before a0 Z = true := hw _ (List.mem_of_getElem? (i := 84) rfl)
theorem own_w85 {Z : State} {a0 : Array Value} (hw : own_Z Z a0) : (Jvm.Cond.methodLink "java/lang/StringLatin1" (50 : Nat) ({ cls := "java/lang/StringLatin1", name := "getChar", desc := "([BI)C" } : Jvm.MethodName)).before a0 Z = true := hw _ (List.mem_of_getElem? (i := 85) rfl)
theorem own_w86 {Z : State} {a0 : Array Value} (hw : own_Z Z a0) : (Jvm.Cond.static ({ cls := "java/lang/StringLatin1", name := "getChar", desc := "([BI)C" } : Jvm.MethodName)).before a0 Z = true := hw _ (List.mem_of_getElem? (i := 86) rfl)
theorem own_w87 {Z : State} {a0 : Array Value} (hw : own_Z Z a0) : (Jvm.Cond.code ({ cls := "java/lang/StringLatin1", name := "getChar", desc := "([BI)C" } : Jvm.MethodName) jdk_43_method_44_code (2 : Nat) (Option.some Jvm.ClassFile.FieldType.char)).before a0 Z = true := hw _ (List.mem_of_getElem? (i := 87) rfl)
theorem own_w88 {Z : State} {a0 : Array Value} (hw : own_Z Z a0) : (Jvm.Cond.fieldLink "java/lang/StringLatin1" (66 : Nat) "java/lang/CharacterDataLatin1" "instance" "Ljava/lang/CharacterDataLatin1;").before a0 Z = true := hw _ (List.mem_of_getElem? (i := 88) rfl)
theorem own_w89 {Z : State} {a0 : Array Value} (hw : own_Z Z a0) : (Jvm.Cond.initialized "java/lang/CharacterDataLatin1").before a0 Z = true := hw _ (List.mem_of_getElem? (i := 89) rfl)
theorem own_w90 {Z : State} {a0 : Array Value} (hw : own_Z Z a0) : (Jvm.Cond.methodLink "java/lang/StringLatin1" (211 : Nat) ({ cls := "java/lang/CharacterDataLatin1", name := "isWhitespace", desc := "(I)Z" } : Jvm.MethodName)).before a0 Z = true := hw _ (List.mem_of_getElem? (i := 90) rfl)
theorem own_w91 {Z : State} {a0 : Array Value} (hw : own_Z Z a0) : (Jvm.Cond.declares ({ cls := "java/lang/CharacterDataLatin1", name := "isWhitespace", desc := "(I)Z" } : Jvm.MethodName)).before a0 Z = true := hw _ (List.mem_of_getElem? (i := 91) rfl)
theorem own_w92 {Z : State} {a0 : Array Value} (hw : own_Z Z a0) : (Jvm.Cond.instanceMethod ({ cls := "java/lang/CharacterDataLatin1", name := "isWhitespace", desc := "(I)Z" } : Jvm.MethodName)).before a0 Z = true := hw _ (List.mem_of_getElem? (i := 92) rfl)
theorem own_w93 {Z : State} {a0 : Array Value} (hw : own_Z Z a0) : (Jvm.Cond.selects "java/lang/CharacterDataLatin1" ({ cls := "java/lang/CharacterDataLatin1", name := "isWhitespace", desc := "(I)Z" } : Jvm.MethodName) ({ cls := "java/lang/CharacterDataLatin1", name := "isWhitespace", desc := "(I)Z" } : Jvm.MethodName)).before a0 Z = true := hw _ (List.mem_of_getElem? (i := 93) rfl)
theorem own_w94 {Z : State} {a0 : Array Value} (hw : own_Z Z a0) : (Jvm.Cond.code ({ cls := "java/lang/CharacterDataLatin1", name := "isWhitespace", desc := "(I)Z" } : Jvm.MethodName) jdk_116_method_26_code (3 : Nat) (Option.some Jvm.ClassFile.FieldType.boolean)).before a0 Z = true := hw _ (List.mem_of_getElem? (i := 94) rfl)
theorem own_w95 {Z : State} {a0 : Array Value} (hw : own_Z Z a0) : (Jvm.Cond.methodLink "java/lang/CharacterDataLatin1" (15 : Nat) ({ cls := "java/lang/CharacterDataLatin1", name := "getProperties", desc := "(I)I" } : Jvm.MethodName)).before a0 Z = true := hw _ (List.mem_of_getElem? (i := 95) rfl)
theorem own_w96 {Z : State} {a0 : Array Value} (hw : own_Z Z a0) : (Jvm.Cond.declares ({ cls := "java/lang/CharacterDataLatin1", name := "getProperties", desc := "(I)I" } : Jvm.MethodName)).before a0 Z = true := hw _ (List.mem_of_getElem? (i := 96) rfl)
theorem own_w97 {Z : State} {a0 : Array Value} (hw : own_Z Z a0) : (Jvm.Cond.instanceMethod ({ cls := "java/lang/CharacterDataLatin1", name := "getProperties", desc := "(I)I" } : Jvm.MethodName)).before a0 Z = true := hw _ (List.mem_of_getElem? (i := 97) rfl)
theorem own_w98 {Z : State} {a0 : Array Value} (hw : own_Z Z a0) : (Jvm.Cond.selects "java/lang/CharacterDataLatin1" ({ cls := "java/lang/CharacterDataLatin1", name := "getProperties", desc := "(I)I" } : Jvm.MethodName) ({ cls := "java/lang/CharacterDataLatin1", name := "getProperties", desc := "(I)I" } : Jvm.MethodName)).before a0 Z = true := hw _ (List.mem_of_getElem? (i := 98) rfl)
theorem own_w99 {Z : State} {a0 : Array Value} (hw : own_Z Z a0) : (Jvm.Cond.code ({ cls := "java/lang/CharacterDataLatin1", name := "getProperties", desc := "(I)I" } : Jvm.MethodName) jdk_116_method_1_code (4 : Nat) (Option.some Jvm.ClassFile.FieldType.int)).before a0 Z = true := hw _ (List.mem_of_getElem? (i := 99) rfl)
theorem own_w100 {Z : State} {a0 : Array Value} (hw : own_Z Z a0) : (Jvm.Cond.fieldLink "java/lang/CharacterDataLatin1" (1 : Nat) "java/lang/CharacterDataLatin1" "A" "[I").before a0 Z = true := hw _ (List.mem_of_getElem? (i := 100) rfl)
theorem own_w101 {Z : State} {a0 : Array Value} (hw : own_Z Z a0) : (Jvm.Cond.methodLink "java/lang/String" (505 : Nat) ({ cls := "java/lang/String", name := "length", desc := "()I" } : Jvm.MethodName)).before a0 Z = true := hw _ (List.mem_of_getElem? (i := 101) rfl)
theorem own_w102 {Z : State} {a0 : Array Value} (hw : own_Z Z a0) : (Jvm.Cond.declares ({ cls := "java/lang/String", name := "length", desc := "()I" } : Jvm.MethodName)).before a0 Z = true := hw _ (List.mem_of_getElem? (i := 102) rfl)
theorem own_w103 {Z : State} {a0 : Array Value} (hw : own_Z Z a0) : (Jvm.Cond.instanceMethod ({ cls := "java/lang/String", name := "length", desc := "()I" } : Jvm.MethodName)).before a0 Z = true := hw _ (List.mem_of_getElem? (i := 103) rfl)
theorem own_w104 {Z : State} {a0 : Array Value} (hw : own_Z Z a0) : (Jvm.Cond.selects "java/lang/String" ({ cls := "java/lang/String", name := "length", desc := "()I" } : Jvm.MethodName) ({ cls := "java/lang/String", name := "length", desc := "()I" } : Jvm.MethodName)).before a0 Z = true := hw _ (List.mem_of_getElem? (i := 104) rfl)
theorem own_w105 {Z : State} {a0 : Array Value} (hw : own_Z Z a0) : (Jvm.Cond.code ({ cls := "java/lang/String", name := "length", desc := "()I" } : Jvm.MethodName) jdk_42_method_54_code (1 : Nat) (Option.some Jvm.ClassFile.FieldType.int)).before a0 Z = true := hw _ (List.mem_of_getElem? (i := 105) rfl)
theorem own_w106 {Z : State} {a0 : Array Value} (hw : own_Z Z a0) : (Jvm.Cond.methodLink "java/lang/String" (335 : Nat) ({ cls := "java/lang/String", name := "coder", desc := "()B" } : Jvm.MethodName)).before a0 Z = true := hw _ (List.mem_of_getElem? (i := 106) rfl)
theorem own_w107 {Z : State} {a0 : Array Value} (hw : own_Z Z a0) : (Jvm.Cond.declares ({ cls := "java/lang/String", name := "coder", desc := "()B" } : Jvm.MethodName)).before a0 Z = true := hw _ (List.mem_of_getElem? (i := 107) rfl)
theorem own_w108 {Z : State} {a0 : Array Value} (hw : own_Z Z a0) : (Jvm.Cond.instanceMethod ({ cls := "java/lang/String", name := "coder", desc := "()B" } : Jvm.MethodName)).before a0 Z = true := hw _ (List.mem_of_getElem? (i := 108) rfl)
theorem own_w109 {Z : State} {a0 : Array Value} (hw : own_Z Z a0) : (Jvm.Cond.selects "java/lang/String" ({ cls := "java/lang/String", name := "coder", desc := "()B" } : Jvm.MethodName) ({ cls := "java/lang/String", name := "coder", desc := "()B" } : Jvm.MethodName)).before a0 Z = true := hw _ (List.mem_of_getElem? (i := 109) rfl)
theorem own_w110 {Z : State} {a0 : Array Value} (hw : own_Z Z a0) : (Jvm.Cond.code ({ cls := "java/lang/String", name := "coder", desc := "()B" } : Jvm.MethodName) jdk_42_method_152_code (1 : Nat) (Option.some Jvm.ClassFile.FieldType.byte)).before a0 Z = true := hw _ (List.mem_of_getElem? (i := 110) rfl)
theorem own_d0_0 : own_D jdk_71_method_1_code 0 (.aload_n 0) 1 1 := ⟨by decide +kernel, rfl⟩
theorem own_d0_1 : own_D jdk_71_method_1_code 1 (.invokespecial 1) 3 4 := ⟨by decide +kernel, rfl⟩
theorem own_d0_4 : own_D jdk_71_method_1_code 4 (.return_) 1 5 := ⟨by decide +kernel, rfl⟩
theorem own_d1_0 : own_D jdk_69_method_7_code 0 (.aload_n 0) 1 1 := ⟨by decide +kernel, rfl⟩
theorem own_d1_1 : own_D jdk_69_method_7_code 1 (.invokespecial 43) 3 4 := ⟨by decide +kernel, rfl⟩
theorem own_d1_4 : own_D jdk_69_method_7_code 4 (.aload_n 0) 1 5 := ⟨by decide +kernel, rfl⟩
theorem own_d1_5 : own_D jdk_69_method_7_code 5 (.ldc 92) 2 7 := ⟨by decide +kernel, rfl⟩
theorem own_d1_7 : own_D jdk_69_method_7_code 7 (.putfield 81) 3 10 := ⟨by decide +kernel, rfl⟩
theorem own_d1_10 : own_D jdk_69_method_7_code 10 (.return_) 1 11 := ⟨by decide +kernel, rfl⟩
theorem own_d2_0 : own_D prog_10_method_1_code 0 (.aload_n 0) 1 1 := ⟨by decide +kernel, rfl⟩
theorem own_d2_1 : own_D prog_10_method_1_code 1 (.invokespecial 1) 3 4 := ⟨by decide +kernel, rfl⟩
theorem own_d2_4 : own_D prog_10_method_1_code 4 (.aload_n 0) 1 5 := ⟨by decide +kernel, rfl⟩
theorem own_d2_5 : own_D prog_10_method_1_code 5 (.new 7) 3 8 := ⟨by decide +kernel, rfl⟩
theorem own_d2_8 : own_D prog_10_method_1_code 8 (.dup) 1 9 := ⟨by decide +kernel, rfl⟩
theorem own_d2_9 : own_D prog_10_method_1_code 9 (.invokespecial 9) 3 12 := ⟨by decide +kernel, rfl⟩
theorem own_d2_12 : own_D prog_10_method_1_code 12 (.putfield 10) 3 15 := ⟨by decide +kernel, rfl⟩
theorem own_d2_15 : own_D prog_10_method_1_code 15 (.return_) 1 16 := ⟨by decide +kernel, rfl⟩
theorem own_d3_0 : own_D jdk_116_method_1_code 0 (.iload_n 1) 1 1 := ⟨by decide +kernel, rfl⟩
theorem own_d3_1 : own_D jdk_116_method_1_code 1 (.i2c) 1 2 := ⟨by decide +kernel, rfl⟩
theorem own_d3_2 : own_D jdk_116_method_1_code 2 (.istore_n 2) 1 3 := ⟨by decide +kernel, rfl⟩
theorem own_d3_3 : own_D jdk_116_method_1_code 3 (.getstatic 1) 3 6 := ⟨by decide +kernel, rfl⟩
theorem own_d3_6 : own_D jdk_116_method_1_code 6 (.iload_n 2) 1 7 := ⟨by decide +kernel, rfl⟩
theorem own_d3_7 : own_D jdk_116_method_1_code 7 (.iaload) 1 8 := ⟨by decide +kernel, rfl⟩
theorem own_d3_8 : own_D jdk_116_method_1_code 8 (.istore_n 3) 1 9 := ⟨by decide +kernel, rfl⟩
theorem own_d3_9 : own_D jdk_116_method_1_code 9 (.iload_n 3) 1 10 := ⟨by decide +kernel, rfl⟩
theorem own_d3_10 : own_D jdk_116_method_1_code 10 (.ireturn) 1 11 := ⟨by decide +kernel, rfl⟩
theorem own_d4_0 : own_D jdk_116_method_26_code 0 (.aload_n 0) 1 1 := ⟨by decide +kernel, rfl⟩
theorem own_d4_1 : own_D jdk_116_method_26_code 1 (.iload_n 1) 1 2 := ⟨by decide +kernel, rfl⟩
theorem own_d4_2 : own_D jdk_116_method_26_code 2 (.invokevirtual 15) 3 5 := ⟨by decide +kernel, rfl⟩
theorem own_d4_5 : own_D jdk_116_method_26_code 5 (.istore_n 2) 1 6 := ⟨by decide +kernel, rfl⟩
theorem own_d4_6 : own_D jdk_116_method_26_code 6 (.iload_n 2) 1 7 := ⟨by decide +kernel, rfl⟩
theorem own_d4_7 : own_D jdk_116_method_26_code 7 (.sipush 28672) 3 10 := ⟨by decide +kernel, rfl⟩
theorem own_d4_10 : own_D jdk_116_method_26_code 10 (.iand) 1 11 := ⟨by decide +kernel, rfl⟩
theorem own_d4_11 : own_D jdk_116_method_26_code 11 (.sipush 16384) 3 14 := ⟨by decide +kernel, rfl⟩
theorem own_d4_14 : own_B jdk_116_method_26_code 14 (.if_icmp .ne 7) 7 17 21 := ⟨by decide +kernel, rfl, by decide, by decide⟩
theorem own_d4_21 : own_D jdk_116_method_26_code 21 (.iconst 0) 1 22 := ⟨by decide +kernel, rfl⟩
theorem own_d4_22 : own_D jdk_116_method_26_code 22 (.ireturn) 1 23 := ⟨by decide +kernel, rfl⟩
theorem own_d4_17 : own_D jdk_116_method_26_code 17 (.iconst 1) 1 18 := ⟨by decide +kernel, rfl⟩
theorem own_d4_18 : own_B jdk_116_method_26_code 18 (.goto 4) 4 21 22 := ⟨by decide +kernel, rfl, by decide, by decide⟩
theorem own_d5_0 : own_D jdk_43_method_44_code 0 (.aload_n 0) 1 1 := ⟨by decide +kernel, rfl⟩
theorem own_d5_1 : own_D jdk_43_method_44_code 1 (.iload_n 1) 1 2 := ⟨by decide +kernel, rfl⟩
theorem own_d5_2 : own_D jdk_43_method_44_code 2 (.baload) 1 3 := ⟨by decide +kernel, rfl⟩
theorem own_d5_3 : own_D jdk_43_method_44_code 3 (.sipush 255) 3 6 := ⟨by decide +kernel, rfl⟩
theorem own_d5_6 : own_D jdk_43_method_44_code 6 (.iand) 1 7 := ⟨by decide +kernel, rfl⟩
theorem own_d5_7 : own_D jdk_43_method_44_code 7 (.i2c) 1 8 := ⟨by decide +kernel, rfl⟩
theorem own_d5_8 : own_D jdk_43_method_44_code 8 (.ireturn) 1 9 := ⟨by decide +kernel, rfl⟩
theorem own_d6_0 : own_D jdk_52_method_21_code 0 (.iconst 0) 1 1 := ⟨by decide +kernel, rfl⟩
theorem own_d6_1 : own_D jdk_52_method_21_code 1 (.istore 5) 2 3 := ⟨by decide +kernel, rfl⟩
theorem own_d6_3 : own_D jdk_52_method_21_code 3 (.iload 5) 2 5 := ⟨by decide +kernel, rfl⟩
theorem own_d6_5 : own_D jdk_52_method_21_code 5 (.iload 4) 2 7 := ⟨by decide +kernel, rfl⟩
theorem own_d6_7 : own_B jdk_52_method_21_code 7 (.if_icmp .ge 37) 37 10 44 := ⟨by decide +kernel, rfl, by decide, by decide⟩
theorem own_d6_10 : own_D jdk_52_method_21_code 10 (.aload_n 0) 1 11 := ⟨by decide +kernel, rfl⟩
theorem own_d6_11 : own_D jdk_52_method_21_code 11 (.iload_n 1) 1 12 := ⟨by decide +kernel, rfl⟩
theorem own_d6_12 : own_D jdk_52_method_21_code 12 (.caload) 1 13 := ⟨by decide +kernel, rfl⟩
theorem own_d6_13 : own_D jdk_52_method_21_code 13 (.istore 6) 2 15 := ⟨by decide +kernel, rfl⟩
theorem own_d6_15 : own_D jdk_52_method_21_code 15 (.iload 6) 2 17 := ⟨by decide +kernel, rfl⟩
theorem own_d6_17 : own_D jdk_52_method_21_code 17 (.sipush 255) 3 20 := ⟨by decide +kernel, rfl⟩
theorem own_d6_20 : own_B jdk_52_method_21_code 20 (.if_icmp .le 6) 6 23 26 := ⟨by decide +kernel, rfl, by decide, by decide⟩
theorem own_d6_26 : own_D jdk_52_method_21_code 26 (.aload_n 2) 1 27 := ⟨by decide +kernel, rfl⟩
theorem own_d6_27 : own_D jdk_52_method_21_code 27 (.iload_n 3) 1 28 := ⟨by decide +kernel, rfl⟩
theorem own_d6_28 : own_D jdk_52_method_21_code 28 (.iload 6) 2 30 := ⟨by decide +kernel, rfl⟩
theorem own_d6_30 : own_D jdk_52_method_21_code 30 (.i2b) 1 31 := ⟨by decide +kernel, rfl⟩
theorem own_d6_31 : own_D jdk_52_method_21_code 31 (.bastore) 1 32 := ⟨by decide +kernel, rfl⟩
theorem own_d6_32 : own_D jdk_52_method_21_code 32 (.iinc 1 1) 3 35 := ⟨by decide +kernel, rfl⟩
theorem own_d6_35 : own_D jdk_52_method_21_code 35 (.iinc 3 1) 3 38 := ⟨by decide +kernel, rfl⟩
theorem own_d6_38 : own_D jdk_52_method_21_code 38 (.iinc 5 1) 3 41 := ⟨by decide +kernel, rfl⟩
theorem own_d6_41 : own_B jdk_52_method_21_code 41 (.goto (-38)) (-38) 44 3 := ⟨by decide +kernel, rfl, by decide, by decide⟩
theorem own_d6_44 : own_D jdk_52_method_21_code 44 (.iload 4) 2 46 := ⟨by decide +kernel, rfl⟩
theorem own_d6_46 : own_D jdk_52_method_21_code 46 (.ireturn) 1 47 := ⟨by decide +kernel, rfl⟩
theorem own_d7_0 : own_D jdk_52_method_16_code 0 (.iload_n 2) 1 1 := ⟨by decide +kernel, rfl⟩
theorem own_d7_1 : own_D jdk_52_method_16_code 1 (.newarray .byte) 2 3 := ⟨by decide +kernel, rfl⟩
theorem own_d7_3 : own_D jdk_52_method_16_code 3 (.astore_n 3) 1 4 := ⟨by decide +kernel, rfl⟩
theorem own_d7_4 : own_D jdk_52_method_16_code 4 (.aload_n 0) 1 5 := ⟨by decide +kernel, rfl⟩
theorem own_d7_5 : own_D jdk_52_method_16_code 5 (.iload_n 1) 1 6 := ⟨by decide +kernel, rfl⟩
theorem own_d7_6 : own_D jdk_52_method_16_code 6 (.aload_n 3) 1 7 := ⟨by decide +kernel, rfl⟩
theorem own_d7_7 : own_D jdk_52_method_16_code 7 (.iconst 0) 1 8 := ⟨by decide +kernel, rfl⟩
theorem own_d7_8 : own_D jdk_52_method_16_code 8 (.iload_n 2) 1 9 := ⟨by decide +kernel, rfl⟩
theorem own_d7_9 : own_D jdk_52_method_16_code 9 (.invokestatic 115) 3 12 := ⟨by decide +kernel, rfl⟩
theorem own_d7_12 : own_D jdk_52_method_16_code 12 (.istore 4) 2 14 := ⟨by decide +kernel, rfl⟩
theorem own_d7_14 : own_D jdk_52_method_16_code 14 (.iload 4) 2 16 := ⟨by decide +kernel, rfl⟩
theorem own_d7_16 : own_D jdk_52_method_16_code 16 (.iload_n 2) 1 17 := ⟨by decide +kernel, rfl⟩
theorem own_d7_17 : own_B jdk_52_method_16_code 17 (.if_icmp .eq 40) 40 20 57 := ⟨by decide +kernel, rfl, by decide, by decide⟩
theorem own_d7_57 : own_D jdk_52_method_16_code 57 (.aload_n 3) 1 58 := ⟨by decide +kernel, rfl⟩
theorem own_d7_58 : own_D jdk_52_method_16_code 58 (.areturn) 1 59 := ⟨by decide +kernel, rfl⟩
theorem own_d8_0 : own_D jdk_52_method_15_code 0 (.iload_n 1) 1 1 := ⟨by decide +kernel, rfl⟩
theorem own_d8_1 : own_D jdk_52_method_15_code 1 (.aload_n 0) 1 2 := ⟨by decide +kernel, rfl⟩
theorem own_d8_2 : own_D jdk_52_method_15_code 2 (.arraylength) 1 3 := ⟨by decide +kernel, rfl⟩
theorem own_d8_3 : own_D jdk_52_method_15_code 3 (.isub) 1 4 := ⟨by decide +kernel, rfl⟩
theorem own_d8_4 : own_D jdk_52_method_15_code 4 (.bipush 31) 2 6 := ⟨by decide +kernel, rfl⟩
theorem own_d8_6 : own_D jdk_52_method_15_code 6 (.iushr) 1 7 := ⟨by decide +kernel, rfl⟩
theorem own_d8_7 : own_D jdk_52_method_15_code 7 (.i2b) 1 8 := ⟨by decide +kernel, rfl⟩
theorem own_d8_8 : own_D jdk_52_method_15_code 8 (.ireturn) 1 9 := ⟨by decide +kernel, rfl⟩
theorem own_d9_0 : own_D jdk_42_method_149_code 0 (.aload_n 0) 1 1 := ⟨by decide +kernel, rfl⟩
theorem own_d9_1 : own_D jdk_42_method_149_code 1 (.invokespecial 1) 3 4 := ⟨by decide +kernel, rfl⟩
theorem own_d9_4 : own_D jdk_42_method_149_code 4 (.iload_n 3) 1 5 := ⟨by decide +kernel, rfl⟩
theorem own_d9_5 : own_B jdk_42_method_149_code 5 (.ifCond .ne 22) 22 8 27 := ⟨by decide +kernel, rfl, by decide, by decide⟩
theorem own_d9_27 : own_D jdk_42_method_149_code 27 (.getstatic 38) 3 30 := ⟨by decide +kernel, rfl⟩
theorem own_d9_30 : own_B jdk_42_method_149_code 30 (.ifCond .eq 28) 28 33 58 := ⟨by decide +kernel, rfl, by decide, by decide⟩
theorem own_d9_33 : own_D jdk_42_method_149_code 33 (.aload_n 1) 1 34 := ⟨by decide +kernel, rfl⟩
theorem own_d9_34 : own_D jdk_42_method_149_code 34 (.iload_n 2) 1 35 := ⟨by decide +kernel, rfl⟩
theorem own_d9_35 : own_D jdk_42_method_149_code 35 (.iload_n 3) 1 36 := ⟨by decide +kernel, rfl⟩
theorem own_d9_36 : own_D jdk_42_method_149_code 36 (.invokestatic 177) 3 39 := ⟨by decide +kernel, rfl⟩
theorem own_d9_39 : own_D jdk_42_method_149_code 39 (.astore 5) 2 41 := ⟨by decide +kernel, rfl⟩
theorem own_d9_41 : own_D jdk_42_method_149_code 41 (.aload_n 0) 1 42 := ⟨by decide +kernel, rfl⟩
theorem own_d9_42 : own_D jdk_42_method_149_code 42 (.aload 5) 2 44 := ⟨by decide +kernel, rfl⟩
theorem own_d9_44 : own_D jdk_42_method_149_code 44 (.iload_n 3) 1 45 := ⟨by decide +kernel, rfl⟩
theorem own_d9_45 : own_D jdk_42_method_149_code 45 (.invokestatic 47) 3 48 := ⟨by decide +kernel, rfl⟩
theorem own_d9_48 : own_D jdk_42_method_149_code 48 (.putfield 15) 3 51 := ⟨by decide +kernel, rfl⟩
theorem own_d9_51 : own_D jdk_42_method_149_code 51 (.aload_n 0) 1 52 := ⟨by decide +kernel, rfl⟩
theorem own_d9_52 : own_D jdk_42_method_149_code 52 (.aload 5) 2 54 := ⟨by decide +kernel, rfl⟩
theorem own_d9_54 : own_D jdk_42_method_149_code 54 (.putfield 9) 3 57 := ⟨by decide +kernel, rfl⟩
theorem own_d9_57 : own_D jdk_42_method_149_code 57 (.return_) 1 58 := ⟨by decide +kernel, rfl⟩
theorem own_d10_0 : own_D jdk_42_method_3_code 0 (.aload_n 0) 1 1 := ⟨by decide +kernel, rfl⟩
theorem own_d10_1 : own_D jdk_42_method_3_code 1 (.aload_n 1) 1 2 := ⟨by decide +kernel, rfl⟩
theorem own_d10_2 : own_D jdk_42_method_3_code 2 (.iconst 0) 1 3 := ⟨by decide +kernel, rfl⟩
theorem own_d10_3 : own_D jdk_42_method_3_code 3 (.aload_n 1) 1 4 := ⟨by decide +kernel, rfl⟩
theorem own_d10_4 : own_D jdk_42_method_3_code 4 (.arraylength) 1 5 := ⟨by decide +kernel, rfl⟩
theorem own_d10_5 : own_D jdk_42_method_3_code 5 (.aconst_null) 1 6 := ⟨by decide +kernel, rfl⟩
theorem own_d10_6 : own_D jdk_42_method_3_code 6 (.invokespecial 27) 3 9 := ⟨by decide +kernel, rfl⟩
theorem own_d10_9 : own_D jdk_42_method_3_code 9 (.return_) 1 10 := ⟨by decide +kernel, rfl⟩
theorem own_d11_0 : own_D jdk_42_method_154_code 0 (.getstatic 38) 3 3 := ⟨by decide +kernel, rfl⟩
theorem own_d11_3 : own_B jdk_42_method_154_code 3 (.ifCond .eq 14) 14 6 17 := ⟨by decide +kernel, rfl, by decide, by decide⟩
theorem own_d11_6 : own_D jdk_42_method_154_code 6 (.aload_n 0) 1 7 := ⟨by decide +kernel, rfl⟩
theorem own_d11_7 : own_D jdk_42_method_154_code 7 (.getfield 15) 3 10 := ⟨by decide +kernel, rfl⟩
theorem own_d11_10 : own_B jdk_42_method_154_code 10 (.ifCond .ne 7) 7 13 17 := ⟨by decide +kernel, rfl, by decide, by decide⟩
theorem own_d11_13 : own_D jdk_42_method_154_code 13 (.iconst 1) 1 14 := ⟨by decide +kernel, rfl⟩
theorem own_d11_14 : own_B jdk_42_method_154_code 14 (.goto 4) 4 17 18 := ⟨by decide +kernel, rfl, by decide, by decide⟩
theorem own_d11_18 : own_D jdk_42_method_154_code 18 (.ireturn) 1 19 := ⟨by decide +kernel, rfl⟩
theorem own_d12_0 : own_D jdk_42_method_152_code 0 (.getstatic 38) 3 3 := ⟨by decide +kernel, rfl⟩
theorem own_d12_3 : own_B jdk_42_method_152_code 3 (.ifCond .eq 10) 10 6 13 := ⟨by decide +kernel, rfl, by decide, by decide⟩
theorem own_d12_6 : own_D jdk_42_method_152_code 6 (.aload_n 0) 1 7 := ⟨by decide +kernel, rfl⟩
theorem own_d12_7 : own_D jdk_42_method_152_code 7 (.getfield 15) 3 10 := ⟨by decide +kernel, rfl⟩
theorem own_d12_10 : own_B jdk_42_method_152_code 10 (.goto 4) 4 13 14 := ⟨by decide +kernel, rfl, by decide, by decide⟩
theorem own_d12_14 : own_D jdk_42_method_152_code 14 (.ireturn) 1 15 := ⟨by decide +kernel, rfl⟩
theorem own_d13_0 : own_D jdk_42_method_54_code 0 (.aload_n 0) 1 1 := ⟨by decide +kernel, rfl⟩
theorem own_d13_1 : own_D jdk_42_method_54_code 1 (.getfield 9) 3 4 := ⟨by decide +kernel, rfl⟩
theorem own_d13_4 : own_D jdk_42_method_54_code 4 (.arraylength) 1 5 := ⟨by decide +kernel, rfl⟩
theorem own_d13_5 : own_D jdk_42_method_54_code 5 (.aload_n 0) 1 6 := ⟨by decide +kernel, rfl⟩
theorem own_d13_6 : own_D jdk_42_method_54_code 6 (.invokevirtual 335) 3 9 := ⟨by decide +kernel, rfl⟩
theorem own_d13_9 : own_D jdk_42_method_54_code 9 (.ishr) 1 10 := ⟨by decide +kernel, rfl⟩
theorem own_d13_10 : own_D jdk_42_method_54_code 10 (.ireturn) 1 11 := ⟨by decide +kernel, rfl⟩
theorem own_d14_0 : own_D jdk_43_method_37_code 0 (.aload_n 0) 1 1 := ⟨by decide +kernel, rfl⟩
theorem own_d14_1 : own_D jdk_43_method_37_code 1 (.arraylength) 1 2 := ⟨by decide +kernel, rfl⟩
theorem own_d14_2 : own_D jdk_43_method_37_code 2 (.istore_n 1) 1 3 := ⟨by decide +kernel, rfl⟩
theorem own_d14_3 : own_D jdk_43_method_37_code 3 (.iconst 0) 1 4 := ⟨by decide +kernel, rfl⟩
theorem own_d14_4 : own_D jdk_43_method_37_code 4 (.istore_n 2) 1 5 := ⟨by decide +kernel, rfl⟩
theorem own_d14_5 : own_D jdk_43_method_37_code 5 (.iload_n 2) 1 6 := ⟨by decide +kernel, rfl⟩
theorem own_d14_6 : own_D jdk_43_method_37_code 6 (.iload_n 1) 1 7 := ⟨by decide +kernel, rfl⟩
theorem own_d14_7 : own_B jdk_43_method_37_code 7 (.if_icmp .ge 40) 40 10 47 := ⟨by decide +kernel, rfl, by decide, by decide⟩
theorem own_d14_10 : own_D jdk_43_method_37_code 10 (.aload_n 0) 1 11 := ⟨by decide +kernel, rfl⟩
theorem own_d14_11 : own_D jdk_43_method_37_code 11 (.iload_n 2) 1 12 := ⟨by decide +kernel, rfl⟩
theorem own_d14_12 : own_D jdk_43_method_37_code 12 (.invokestatic 50) 3 15 := ⟨by decide +kernel, rfl⟩
theorem own_d14_15 : own_D jdk_43_method_37_code 15 (.istore_n 3) 1 16 := ⟨by decide +kernel, rfl⟩
theorem own_d14_16 : own_D jdk_43_method_37_code 16 (.iload_n 3) 1 17 := ⟨by decide +kernel, rfl⟩
theorem own_d14_17 : own_D jdk_43_method_37_code 17 (.bipush 32) 2 19 := ⟨by decide +kernel, rfl⟩
theorem own_d14_19 : own_B jdk_43_method_37_code 19 (.if_icmp .eq 22) 22 22 41 := ⟨by decide +kernel, rfl, by decide, by decide⟩
theorem own_d14_41 : own_D jdk_43_method_37_code 41 (.iinc 2 1) 3 44 := ⟨by decide +kernel, rfl⟩
theorem own_d14_44 : own_B jdk_43_method_37_code 44 (.goto (-39)) (-39) 47 5 := ⟨by decide +kernel, rfl, by decide, by decide⟩
theorem own_d14_47 : own_D jdk_43_method_37_code 47 (.iload_n 2) 1 48 := ⟨by decide +kernel, rfl⟩
theorem own_d14_48 : own_D jdk_43_method_37_code 48 (.ireturn) 1 49 := ⟨by decide +kernel, rfl⟩
theorem own_d14_22 : own_D jdk_43_method_37_code 22 (.iload_n 3) 1 23 := ⟨by decide +kernel, rfl⟩
theorem own_d14_23 : own_D jdk_43_method_37_code 23 (.bipush 9) 2 25 := ⟨by decide +kernel, rfl⟩
theorem own_d14_25 : own_B jdk_43_method_37_code 25 (.if_icmp .eq 16) 16 28 41 := ⟨by decide +kernel, rfl, by decide, by decide⟩
theorem own_d14_28 : own_D jdk_43_method_37_code 28 (.getstatic 66) 3 31 := ⟨by decide +kernel, rfl⟩
theorem own_d14_31 : own_D jdk_43_method_37_code 31 (.iload_n 3) 1 32 := ⟨by decide +kernel, rfl⟩
theorem own_d14_32 : own_D jdk_43_method_37_code 32 (.invokevirtual 211) 3 35 := ⟨by decide +kernel, rfl⟩
theorem own_d14_35 : own_B jdk_43_method_37_code 35 (.ifCond .ne 6) 6 38 41 := ⟨by decide +kernel, rfl, by decide, by decide⟩
theorem own_d14_38 : own_B jdk_43_method_37_code 38 (.goto 9) 9 41 47 := ⟨by decide +kernel, rfl, by decide, by decide⟩
theorem own_d15_0 : own_D jdk_42_method_120_code 0 (.aload_n 0) 1 1 := ⟨by decide +kernel, rfl⟩
theorem own_d15_1 : own_D jdk_42_method_120_code 1 (.invokevirtual 492) 3 4 := ⟨by decide +kernel, rfl⟩
theorem own_d15_4 : own_B jdk_42_method_120_code 4 (.ifCond .eq 13) 13 7 17 := ⟨by decide +kernel, rfl, by decide, by decide⟩
theorem own_d15_7 : own_D jdk_42_method_120_code 7 (.aload_n 0) 1 8 := ⟨by decide +kernel, rfl⟩
theorem own_d15_8 : own_D jdk_42_method_120_code 8 (.getfield 9) 3 11 := ⟨by decide +kernel, rfl⟩
theorem own_d15_11 : own_D jdk_42_method_120_code 11 (.invokestatic 924) 3 14 := ⟨by decide +kernel, rfl⟩
theorem own_d15_14 : own_B jdk_42_method_120_code 14 (.goto 10) 10 17 24 := ⟨by decide +kernel, rfl, by decide, by decide⟩
theorem own_d15_24 : own_D jdk_42_method_120_code 24 (.ireturn) 1 25 := ⟨by decide +kernel, rfl⟩
theorem own_d16_0 : own_D jdk_42_method_117_code 0 (.aload_n 0) 1 1 := ⟨by decide +kernel, rfl⟩
theorem own_d16_1 : own_D jdk_42_method_117_code 1 (.invokevirtual 876) 3 4 := ⟨by decide +kernel, rfl⟩
theorem own_d16_4 : own_D jdk_42_method_117_code 4 (.aload_n 0) 1 5 := ⟨by decide +kernel, rfl⟩
theorem own_d16_5 : own_D jdk_42_method_117_code 5 (.invokevirtual 505) 3 8 := ⟨by decide +kernel, rfl⟩
theorem own_d16_8 : own_B jdk_42_method_117_code 8 (.if_icmp .ne 7) 7 11 15 := ⟨by decide +kernel, rfl, by decide, by decide⟩
theorem own_d16_15 : own_D jdk_42_method_117_code 15 (.iconst 0) 1 16 := ⟨by decide +kernel, rfl⟩
theorem own_d16_16 : own_D jdk_42_method_117_code 16 (.ireturn) 1 17 := ⟨by decide +kernel, rfl⟩
theorem own_d17_0 : own_D prog_7_method_18_code 0 (.aload_n 0) 1 1 := ⟨by decide +kernel, rfl⟩
theorem own_d17_1 : own_B prog_7_method_18_code 1 (.ifnull 20) 20 4 21 := ⟨by decide +kernel, rfl, by decide, by decide⟩
theorem own_d17_4 : own_D prog_7_method_18_code 4 (.aload_n 0) 1 5 := ⟨by decide +kernel, rfl⟩
theorem own_d17_5 : own_D prog_7_method_18_code 5 (.invokevirtual 91) 3 8 := ⟨by decide +kernel, rfl⟩
theorem own_d17_8 : own_B prog_7_method_18_code 8 (.ifCond .eq 13) 13 11 21 := ⟨by decide +kernel, rfl, by decide, by decide⟩
theorem own_d17_21 : own_D prog_7_method_18_code 21 (.return_) 1 22 := ⟨by decide +kernel, rfl⟩
theorem own_d18_0 : own_D method_3_code 0 (.iload_n 0) 1 1 := ⟨by decide +kernel, rfl⟩
theorem own_d18_1 : own_B method_3_code 1 (.ifCond .ne 14) 14 4 15 := ⟨by decide +kernel, rfl, by decide, by decide⟩
theorem own_d18_15 : own_D method_3_code 15 (.iload_n 0) 1 16 := ⟨by decide +kernel, rfl⟩
theorem own_d18_16 : own_D method_3_code 16 (.iconst 1) 1 17 := ⟨by decide +kernel, rfl⟩
theorem own_d18_17 : own_B method_3_code 17 (.if_icmp .ne 22) 22 20 39 := ⟨by decide +kernel, rfl, by decide, by decide⟩
theorem own_d18_20 : own_D method_3_code 20 (.iconst 1) 1 21 := ⟨by decide +kernel, rfl⟩
theorem own_d18_21 : own_D method_3_code 21 (.newarray .char) 2 23 := ⟨by decide +kernel, rfl⟩
theorem own_d18_23 : own_D method_3_code 23 (.dup) 1 24 := ⟨by decide +kernel, rfl⟩
theorem own_d18_24 : own_D method_3_code 24 (.iconst 0) 1 25 := ⟨by decide +kernel, rfl⟩
theorem own_d18_25 : own_D method_3_code 25 (.iload_n 1) 1 26 := ⟨by decide +kernel, rfl⟩
theorem own_d18_26 : own_D method_3_code 26 (.castore) 1 27 := ⟨by decide +kernel, rfl⟩
theorem own_d18_27 : own_D method_3_code 27 (.astore 4) 2 29 := ⟨by decide +kernel, rfl⟩
theorem own_d18_29 : own_D method_3_code 29 (.new 7) 3 32 := ⟨by decide +kernel, rfl⟩
theorem own_d18_32 : own_D method_3_code 32 (.dup) 1 33 := ⟨by decide +kernel, rfl⟩
theorem own_d18_33 : own_D method_3_code 33 (.aload 4) 2 35 := ⟨by decide +kernel, rfl⟩
theorem own_d18_35 : own_D method_3_code 35 (.invokespecial 9) 3 38 := ⟨by decide +kernel, rfl⟩
theorem own_d18_38 : own_D method_3_code 38 (.areturn) 1 39 := ⟨by decide +kernel, rfl⟩
theorem own_d18_39 : own_D method_3_code 39 (.iload_n 0) 1 40 := ⟨by decide +kernel, rfl⟩
theorem own_d18_40 : own_D method_3_code 40 (.iconst 2) 1 41 := ⟨by decide +kernel, rfl⟩
theorem own_d18_41 : own_B method_3_code 41 (.if_icmp .ne 26) 26 44 67 := ⟨by decide +kernel, rfl, by decide, by decide⟩
theorem own_d18_44 : own_D method_3_code 44 (.iconst 2) 1 45 := ⟨by decide +kernel, rfl⟩
theorem own_d18_45 : own_D method_3_code 45 (.newarray .char) 2 47 := ⟨by decide +kernel, rfl⟩
theorem own_d18_47 : own_D method_3_code 47 (.dup) 1 48 := ⟨by decide +kernel, rfl⟩
theorem own_d18_48 : own_D method_3_code 48 (.iconst 0) 1 49 := ⟨by decide +kernel, rfl⟩
theorem own_d18_49 : own_D method_3_code 49 (.iload_n 1) 1 50 := ⟨by decide +kernel, rfl⟩
theorem own_d18_50 : own_D method_3_code 50 (.castore) 1 51 := ⟨by decide +kernel, rfl⟩
theorem own_d18_51 : own_D method_3_code 51 (.dup) 1 52 := ⟨by decide +kernel, rfl⟩
theorem own_d18_52 : own_D method_3_code 52 (.iconst 1) 1 53 := ⟨by decide +kernel, rfl⟩
theorem own_d18_53 : own_D method_3_code 53 (.iload_n 2) 1 54 := ⟨by decide +kernel, rfl⟩
theorem own_d18_54 : own_D method_3_code 54 (.castore) 1 55 := ⟨by decide +kernel, rfl⟩
theorem own_d18_55 : own_D method_3_code 55 (.astore 4) 2 57 := ⟨by decide +kernel, rfl⟩
theorem own_d18_57 : own_D method_3_code 57 (.new 7) 3 60 := ⟨by decide +kernel, rfl⟩
theorem own_d18_60 : own_D method_3_code 60 (.dup) 1 61 := ⟨by decide +kernel, rfl⟩
theorem own_d18_61 : own_D method_3_code 61 (.aload 4) 2 63 := ⟨by decide +kernel, rfl⟩
theorem own_d18_63 : own_D method_3_code 63 (.invokespecial 9) 3 66 := ⟨by decide +kernel, rfl⟩
theorem own_d18_66 : own_D method_3_code 66 (.areturn) 1 67 := ⟨by decide +kernel, rfl⟩
theorem own_d18_67 : own_D method_3_code 67 (.iconst 3) 1 68 := ⟨by decide +kernel, rfl⟩
theorem own_d18_68 : own_D method_3_code 68 (.newarray .char) 2 70 := ⟨by decide +kernel, rfl⟩
theorem own_d18_70 : own_D method_3_code 70 (.dup) 1 71 := ⟨by decide +kernel, rfl⟩
theorem own_d18_71 : own_D method_3_code 71 (.iconst 0) 1 72 := ⟨by decide +kernel, rfl⟩
theorem own_d18_72 : own_D method_3_code 72 (.iload_n 1) 1 73 := ⟨by decide +kernel, rfl⟩
theorem own_d18_73 : own_D method_3_code 73 (.castore) 1 74 := ⟨by decide +kernel, rfl⟩
theorem own_d18_74 : own_D method_3_code 74 (.dup) 1 75 := ⟨by decide +kernel, rfl⟩
theorem own_d18_75 : own_D method_3_code 75 (.iconst 1) 1 76 := ⟨by decide +kernel, rfl⟩
theorem own_d18_76 : own_D method_3_code 76 (.iload_n 2) 1 77 := ⟨by decide +kernel, rfl⟩
theorem own_d18_77 : own_D method_3_code 77 (.castore) 1 78 := ⟨by decide +kernel, rfl⟩
theorem own_d18_78 : own_D method_3_code 78 (.dup) 1 79 := ⟨by decide +kernel, rfl⟩
theorem own_d18_79 : own_D method_3_code 79 (.iconst 2) 1 80 := ⟨by decide +kernel, rfl⟩
theorem own_d18_80 : own_D method_3_code 80 (.iload_n 3) 1 81 := ⟨by decide +kernel, rfl⟩
theorem own_d18_81 : own_D method_3_code 81 (.castore) 1 82 := ⟨by decide +kernel, rfl⟩
theorem own_d18_82 : own_D method_3_code 82 (.astore 4) 2 84 := ⟨by decide +kernel, rfl⟩
theorem own_d18_84 : own_D method_3_code 84 (.new 7) 3 87 := ⟨by decide +kernel, rfl⟩
theorem own_d18_87 : own_D method_3_code 87 (.dup) 1 88 := ⟨by decide +kernel, rfl⟩
theorem own_d18_88 : own_D method_3_code 88 (.aload 4) 2 90 := ⟨by decide +kernel, rfl⟩
theorem own_d18_90 : own_D method_3_code 90 (.invokespecial 9) 3 93 := ⟨by decide +kernel, rfl⟩
theorem own_d18_93 : own_D method_3_code 93 (.areturn) 1 94 := ⟨by decide +kernel, rfl⟩
theorem own_d19_0 : own_D method_2_code 0 (.iload_n 0) 1 1 := ⟨by decide +kernel, rfl⟩
theorem own_d19_1 : own_D method_2_code 1 (.bipush 32) 2 3 := ⟨by decide +kernel, rfl⟩
theorem own_d19_3 : own_B method_2_code 3 (.if_icmp .eq 27) 27 6 30 := ⟨by decide +kernel, rfl, by decide, by decide⟩
theorem own_d19_30 : own_D method_2_code 30 (.iconst 1) 1 31 := ⟨by decide +kernel, rfl⟩
theorem own_d19_31 : own_B method_2_code 31 (.goto 4) 4 34 35 := ⟨by decide +kernel, rfl, by decide, by decide⟩
theorem own_d19_35 : own_D method_2_code 35 (.ireturn) 1 36 := ⟨by decide +kernel, rfl⟩
theorem own_d19_6 : own_D method_2_code 6 (.iload_n 0) 1 7 := ⟨by decide +kernel, rfl⟩
theorem own_d19_7 : own_D method_2_code 7 (.bipush 9) 2 9 := ⟨by decide +kernel, rfl⟩
theorem own_d19_9 : own_B method_2_code 9 (.if_icmp .lt 9) 9 12 18 := ⟨by decide +kernel, rfl, by decide, by decide⟩
theorem own_d19_18 : own_D method_2_code 18 (.iload_n 0) 1 19 := ⟨by decide +kernel, rfl⟩
theorem own_d19_19 : own_D method_2_code 19 (.bipush 28) 2 21 := ⟨by decide +kernel, rfl⟩
theorem own_d19_21 : own_B method_2_code 21 (.if_icmp .lt 13) 13 24 34 := ⟨by decide +kernel, rfl, by decide, by decide⟩
theorem own_d19_34 : own_D method_2_code 34 (.iconst 0) 1 35 := ⟨by decide +kernel, rfl⟩
theorem own_d19_24 : own_D method_2_code 24 (.iload_n 0) 1 25 := ⟨by decide +kernel, rfl⟩
theorem own_d19_25 : own_D method_2_code 25 (.bipush 31) 2 27 := ⟨by decide +kernel, rfl⟩
theorem own_d19_27 : own_B method_2_code 27 (.if_icmp .gt 7) 7 30 34 := ⟨by decide +kernel, rfl, by decide, by decide⟩
theorem own_d19_12 : own_D method_2_code 12 (.iload_n 0) 1 13 := ⟨by decide +kernel, rfl⟩
theorem own_d19_13 : own_D method_2_code 13 (.bipush 13) 2 15 := ⟨by decide +kernel, rfl⟩
theorem own_d19_15 : own_B method_2_code 15 (.if_icmp .le 15) 15 18 30 := ⟨by decide +kernel, rfl, by decide, by decide⟩
theorem own_d20_0 : own_D code 0 (.new 12) 3 3 := ⟨by decide +kernel, rfl⟩
theorem own_d20_3 : own_D code 3 (.dup) 1 4 := ⟨by decide +kernel, rfl⟩
theorem own_d20_4 : own_D code 4 (.invokespecial 14) 3 7 := ⟨by decide +kernel, rfl⟩
theorem own_d20_7 : own_D code 7 (.astore 4) 2 9 := ⟨by decide +kernel, rfl⟩
theorem own_d20_9 : own_D code 9 (.iload_n 0) 1 10 := ⟨by decide +kernel, rfl⟩
theorem own_d20_10 : own_D code 10 (.iconst 4) 1 11 := ⟨by decide +kernel, rfl⟩
theorem own_d20_11 : own_D code 11 (.iand) 1 12 := ⟨by decide +kernel, rfl⟩
theorem own_d20_12 : own_B code 12 (.ifCond .eq 11) 11 15 23 := ⟨by decide +kernel, rfl, by decide, by decide⟩
theorem own_d20_23 : own_D code 23 (.iload_n 0) 1 24 := ⟨by decide +kernel, rfl⟩
theorem own_d20_24 : own_D code 24 (.iconst 3) 1 25 := ⟨by decide +kernel, rfl⟩
theorem own_d20_25 : own_D code 25 (.iand) 1 26 := ⟨by decide +kernel, rfl⟩
theorem own_d20_26 : own_D code 26 (.istore 5) 2 28 := ⟨by decide +kernel, rfl⟩
theorem own_d20_28 : own_D code 28 (.iload_n 1) 1 29 := ⟨by decide +kernel, rfl⟩
theorem own_d20_29 : own_D code 29 (.sipush 255) 3 32 := ⟨by decide +kernel, rfl⟩
theorem own_d20_32 : own_D code 32 (.iand) 1 33 := ⟨by decide +kernel, rfl⟩
theorem own_d20_33 : own_D code 33 (.i2c) 1 34 := ⟨by decide +kernel, rfl⟩
theorem own_d20_34 : own_D code 34 (.istore 6) 2 36 := ⟨by decide +kernel, rfl⟩
theorem own_d20_36 : own_D code 36 (.iload_n 2) 1 37 := ⟨by decide +kernel, rfl⟩
theorem own_d20_37 : own_D code 37 (.sipush 255) 3 40 := ⟨by decide +kernel, rfl⟩
theorem own_d20_40 : own_D code 40 (.iand) 1 41 := ⟨by decide +kernel, rfl⟩
theorem own_d20_41 : own_D code 41 (.i2c) 1 42 := ⟨by decide +kernel, rfl⟩
theorem own_d20_42 : own_D code 42 (.istore 7) 2 44 := ⟨by decide +kernel, rfl⟩
theorem own_d20_44 : own_D code 44 (.iload_n 3) 1 45 := ⟨by decide +kernel, rfl⟩
theorem own_d20_45 : own_D code 45 (.sipush 255) 3 48 := ⟨by decide +kernel, rfl⟩
theorem own_d20_48 : own_D code 48 (.iand) 1 49 := ⟨by decide +kernel, rfl⟩
theorem own_d20_49 : own_D code 49 (.i2c) 1 50 := ⟨by decide +kernel, rfl⟩
theorem own_d20_50 : own_D code 50 (.istore 8) 2 52 := ⟨by decide +kernel, rfl⟩
theorem own_d20_52 : own_D code 52 (.iload 5) 2 54 := ⟨by decide +kernel, rfl⟩
theorem own_d20_54 : own_B code 54 (.ifCond .eq 39) 39 57 93 := ⟨by decide +kernel, rfl, by decide, by decide⟩
theorem own_d20_93 : own_D code 93 (.iconst 1) 1 94 := ⟨by decide +kernel, rfl⟩
theorem own_d20_94 : own_B code 94 (.goto 4) 4 97 98 := ⟨by decide +kernel, rfl, by decide, by decide⟩
theorem own_d20_98 : own_D code 98 (.istore 9) 2 100 := ⟨by decide +kernel, rfl⟩
theorem own_d20_100 : own_D code 100 (.iload 9) 2 102 := ⟨by decide +kernel, rfl⟩
theorem own_d20_102 : own_B code 102 (.ifCond .eq 5) 5 105 107 := ⟨by decide +kernel, rfl, by decide, by decide⟩
theorem own_d20_105 : own_D code 105 (.iconst 1) 1 106 := ⟨by decide +kernel, rfl⟩
theorem own_d20_106 : own_D code 106 (.ireturn) 1 107 := ⟨by decide +kernel, rfl⟩
theorem own_d20_15 : own_D code 15 (.aconst_null) 1 16 := ⟨by decide +kernel, rfl⟩
theorem own_d20_16 : own_D code 16 (.aload 4) 2 18 := ⟨by decide +kernel, rfl⟩
theorem own_d20_18 : own_D code 18 (.invokestatic 15) 3 21 := ⟨by decide +kernel, rfl⟩
theorem own_d20_21 : own_D code 21 (.iconst 1) 1 22 := ⟨by decide +kernel, rfl⟩
theorem own_d20_22 : own_D code 22 (.ireturn) 1 23 := ⟨by decide +kernel, rfl⟩
theorem own_d20_57 : own_D code 57 (.iload 6) 2 59 := ⟨by decide +kernel, rfl⟩
theorem own_d20_59 : own_D code 59 (.invokestatic 21) 3 62 := ⟨by decide +kernel, rfl⟩
theorem own_d20_62 : own_B code 62 (.ifCond .eq 35) 35 65 97 := ⟨by decide +kernel, rfl, by decide, by decide⟩
theorem own_d20_97 : own_D code 97 (.iconst 0) 1 98 := ⟨by decide +kernel, rfl⟩
theorem own_d20_107 : own_D code 107 (.iload 5) 2 109 := ⟨by decide +kernel, rfl⟩
theorem own_d20_109 : own_D code 109 (.iload 6) 2 111 := ⟨by decide +kernel, rfl⟩
theorem own_d20_111 : own_D code 111 (.iload 7) 2 113 := ⟨by decide +kernel, rfl⟩
theorem own_d20_113 : own_D code 113 (.iload 8) 2 115 := ⟨by decide +kernel, rfl⟩
theorem own_d20_115 : own_D code 115 (.invokestatic 27) 3 118 := ⟨by decide +kernel, rfl⟩
theorem own_d20_118 : own_D code 118 (.astore 10) 2 120 := ⟨by decide +kernel, rfl⟩
theorem own_d20_120 : own_D code 120 (.aload 10) 2 122 := ⟨by decide +kernel, rfl⟩
theorem own_d20_122 : own_D code 122 (.aload 4) 2 124 := ⟨by decide +kernel, rfl⟩
theorem own_d20_124 : own_D code 124 (.invokestatic 15) 3 127 := ⟨by decide +kernel, rfl⟩
theorem own_d20_127 : own_D code 127 (.iconst 1) 1 128 := ⟨by decide +kernel, rfl⟩
theorem own_d20_128 : own_D code 128 (.ireturn) 1 129 := ⟨by decide +kernel, rfl⟩
theorem own_d20_65 : own_D code 65 (.iload 5) 2 67 := ⟨by decide +kernel, rfl⟩
theorem own_d20_67 : own_D code 67 (.iconst 2) 1 68 := ⟨by decide +kernel, rfl⟩
theorem own_d20_68 : own_B code 68 (.if_icmp .lt 11) 11 71 79 := ⟨by decide +kernel, rfl, by decide, by decide⟩
theorem own_d20_79 : own_D code 79 (.iload 5) 2 81 := ⟨by decide +kernel, rfl⟩
theorem own_d20_81 : own_D code 81 (.iconst 3) 1 82 := ⟨by decide +kernel, rfl⟩
theorem own_d20_82 : own_B code 82 (.if_icmp .lt 11) 11 85 93 := ⟨by decide +kernel, rfl, by decide, by decide⟩
theorem own_d20_71 : own_D code 71 (.iload 7) 2 73 := ⟨by decide +kernel, rfl⟩
theorem own_d20_73 : own_D code 73 (.invokestatic 21) 3 76 := ⟨by decide +kernel, rfl⟩
theorem own_d20_76 : own_B code 76 (.ifCond .eq 21) 21 79 97 := ⟨by decide +kernel, rfl, by decide, by decide⟩
theorem own_d20_85 : own_D code 85 (.iload 8) 2 87 := ⟨by decide +kernel, rfl⟩
theorem own_d20_87 : own_D code 87 (.invokestatic 21) 3 90 := ⟨by decide +kernel, rfl⟩
theorem own_d20_90 : own_B code 90 (.ifCond .eq 7) 7 93 97 := ⟨by decide +kernel, rfl, by decide, by decide⟩
theorem own_pd0 : parseMethodDescriptor "()V" = some ⟨[], none⟩ := by decide +kernel
theorem own_pd1 : parseMethodDescriptor "(I)I" = some ⟨[.int], some .int⟩ := by decide +kernel
theorem own_pd2 : parseMethodDescriptor "([CI[BII)I" = some ⟨[(.array .char), .int, (.array .byte), .int, .int], some .int⟩ := by decide +kernel
theorem own_pd3 : parseMethodDescriptor "([CII)[B" = some ⟨[(.array .char), .int, .int], some (.array .byte)⟩ := by decide +kernel
theorem own_pd4 : parseMethodDescriptor "([BI)B" = some ⟨[(.array .byte), .int], some .byte⟩ := by decide +kernel
theorem own_pd5 : parseMethodDescriptor "([CIILjava/lang/Void;)V" = some ⟨[(.array .char), .int, .int, (.object "java/lang/Void")], none⟩ := by decide +kernel
theorem own_pd6 : parseMethodDescriptor "()B" = some ⟨[], some .byte⟩ := by decide +kernel
theorem own_pd7 : parseMethodDescriptor "([BI)C" = some ⟨[(.array .byte), .int], some .char⟩ := by decide +kernel
theorem own_pd8 : parseMethodDescriptor "(I)Z" = some ⟨[.int], some .boolean⟩ := by decide +kernel
theorem own_pd9 : parseMethodDescriptor "()Z" = some ⟨[], some .boolean⟩ := by decide +kernel
theorem own_pd10 : parseMethodDescriptor "([B)I" = some ⟨[(.array .byte)], some .int⟩ := by decide +kernel
theorem own_pd11 : parseMethodDescriptor "()I" = some ⟨[], some .int⟩ := by decide +kernel
theorem own_pd12 : parseMethodDescriptor "([C)V" = some ⟨[(.array .char)], none⟩ := by decide +kernel
theorem own_pd13 : parseMethodDescriptor "(Ljava/lang/String;Lcom/example/cistern/cistern/config/SettingsDraft;)V" = some ⟨[(.object "java/lang/String"), (.object "com/example/cistern/cistern/config/SettingsDraft")], none⟩ := by decide +kernel
theorem own_pd14 : parseMethodDescriptor "(C)Z" = some ⟨[.char], some .boolean⟩ := by decide +kernel
theorem own_pd15 : parseMethodDescriptor "(ICCC)Ljava/lang/String;" = some ⟨[.int, .char, .char, .char], some (.object "java/lang/String")⟩ := by decide +kernel
abbrev own_HM (a : Addr) (f0 : Value) : own_O := (a, "java/util/HashMap", [("java/util/HashMap", "loadFactor", "F", f0)])
theorem own_HM_F {Z : State} {a0 : Array Value} (hw : own_Z Z a0) : ∀ f ∈ ([("java/util/HashMap", "loadFactor", "F", (.float (0 : UInt32)))] : List (String × String × String × Value)), Laid Z a0 "java/util/HashMap" f.1 f.2.1 f.2.2.1 ∧ ∃ ty, parseFieldDescriptor f.2.2.1 = some ty ∧ f.2.2.2 = defaultValue ty := by
  intro f hf
  simp only [List.mem_cons, List.not_mem_nil, or_false] at hf
  rcases hf with rfl
  · exact ⟨Or.inr (own_w24 hw), .float, by decide +kernel, rfl⟩
theorem own_HM_P {Z : State} {a0 : Array Value} (hw : own_Z Z a0) : ([("java/util/HashMap", "loadFactor", "F", (.float (0 : UInt32)))] : List (String × String × String × Value)).Pairwise (fun f g => Jvm.RoadKit.slotOf Z f.1 f.2.1 f.2.2.1 ≠ Jvm.RoadKit.slotOf Z g.1 g.2.1 g.2.2.1) := by
  simp only [List.pairwise_cons, List.mem_cons, List.not_mem_nil, or_false, forall_eq_or_imp, forall_eq, List.Pairwise.nil, and_true, false_implies, implies_true]

abbrev own_SD (a : Addr) (f0 : Value) : own_O := (a, "com/example/cistern/cistern/config/SettingsDraft", [("com/example/cistern/cistern/config/SettingsDraft", "values", "Ljava/util/Map;", f0)])
theorem own_SD_F {Z : State} {a0 : Array Value} (hw : own_Z Z a0) : ∀ f ∈ ([("com/example/cistern/cistern/config/SettingsDraft", "values", "Ljava/util/Map;", .null)] : List (String × String × String × Value)), Laid Z a0 "com/example/cistern/cistern/config/SettingsDraft" f.1 f.2.1 f.2.2.1 ∧ ∃ ty, parseFieldDescriptor f.2.2.1 = some ty ∧ f.2.2.2 = defaultValue ty := by
  intro f hf
  simp only [List.mem_cons, List.not_mem_nil, or_false] at hf
  rcases hf with rfl
  · exact ⟨Or.inr (own_w26 hw), (.object "java/util/Map"), by decide +kernel, rfl⟩
theorem own_SD_P {Z : State} {a0 : Array Value} (hw : own_Z Z a0) : ([("com/example/cistern/cistern/config/SettingsDraft", "values", "Ljava/util/Map;", .null)] : List (String × String × String × Value)).Pairwise (fun f g => Jvm.RoadKit.slotOf Z f.1 f.2.1 f.2.2.1 ≠ Jvm.RoadKit.slotOf Z g.1 g.2.1 g.2.2.1) := by
  simp only [List.pairwise_cons, List.mem_cons, List.not_mem_nil, or_false, forall_eq_or_imp, forall_eq, List.Pairwise.nil, and_true, false_implies, implies_true]

abbrev own_ST (a : Addr) (f0 f1 : Value) : own_O := (a, "java/lang/String", [("java/lang/String", "value", "[B", f0), ("java/lang/String", "coder", "B", f1)])
theorem own_ST_F {Z : State} {a0 : Array Value} (hw : own_Z Z a0) : ∀ f ∈ ([("java/lang/String", "value", "[B", .null), ("java/lang/String", "coder", "B", (.int (0 : Int32)))] : List (String × String × String × Value)), Laid Z a0 "java/lang/String" f.1 f.2.1 f.2.2.1 ∧ ∃ ty, parseFieldDescriptor f.2.2.1 = some ty ∧ f.2.2.2 = defaultValue ty := by
  intro f hf
  simp only [List.mem_cons, List.not_mem_nil, or_false] at hf
  rcases hf with rfl | rfl
  · exact ⟨Or.inr (own_w65 hw), (.array .byte), by decide +kernel, rfl⟩
  · exact ⟨Or.inr (own_w63 hw), .byte, by decide +kernel, rfl⟩
theorem own_ST_P {Z : State} {a0 : Array Value} (hw : own_Z Z a0) : ([("java/lang/String", "value", "[B", .null), ("java/lang/String", "coder", "B", (.int (0 : Int32)))] : List (String × String × String × Value)).Pairwise (fun f g => Jvm.RoadKit.slotOf Z f.1 f.2.1 f.2.2.1 ≠ Jvm.RoadKit.slotOf Z g.1 g.2.1 g.2.2.1) := by
  simp only [List.pairwise_cons, List.mem_cons, List.not_mem_nil, or_false, forall_eq_or_imp, forall_eq, List.Pairwise.nil, and_true, false_implies, implies_true]
  exact slot_ne (C := "java/lang/String") (Or.inr (own_w65 hw)) (Or.inr (own_w63 hw)) (by decide) (t := (.array .byte)) (by decide +kernel) (t' := .byte) (by decide +kernel)

theorem own_and3 (k : Int32) : k &&& 3 = 0 ∨ k &&& 3 = 1 ∨ k &&& 3 = 2 ∨ k &&& 3 = 3 := by
  have h : ∀ b : BitVec 32, b &&& 3#32 = 0#32 ∨ b &&& 3#32 = 1#32 ∨ b &&& 3#32 = 2#32 ∨ b &&& 3#32 = 3#32 := by
    intro b
    have q : (b &&& 3#32).toNat ≤ 3 := by rw [BitVec.toNat_and]; exact Nat.and_le_right
    bv_omega
  rcases h k.toBitVec with q | q | q | q
  · exact Or.inl (Int32.toBitVec_inj.mp q)
  · exact Or.inr (Or.inl (Int32.toBitVec_inj.mp q))
  · exact Or.inr (Or.inr (Or.inl (Int32.toBitVec_inj.mp q)))
  · exact Or.inr (Or.inr (Or.inr (Int32.toBitVec_inj.mp q)))
theorem own_and_bound (a b : Int32) (hb : 0 ≤ b.toInt) : 0 ≤ (a &&& b).toInt ∧ (a &&& b).toInt ≤ b.toInt := by
  have q : (a &&& b).toBitVec.toNat ≤ b.toBitVec.toNat := by
    show (a.toBitVec &&& b.toBitVec).toNat ≤ _
    rw [BitVec.toNat_and]; exact Nat.and_le_right
  have hb' : b.toInt = (b.toBitVec.toNat : Int) := by
    have : b.toInt = b.toBitVec.toInt := rfl
    rw [this] at hb ⊢
    rw [BitVec.toInt_eq_toNat_cond] at hb ⊢
    have := b.toBitVec.isLt
    split at hb <;> split <;> omega
  have hlt : 2 * b.toBitVec.toNat < 2 ^ 32 := by have := Int32.toInt_lt b; omega
  have : (a &&& b).toInt = (a &&& b).toBitVec.toInt := rfl
  rw [this, BitVec.toInt_eq_toNat_cond]
  split <;> omega
theorem own_add32 {a b : Int32} (h1 : -2147483648 ≤ a.toInt + b.toInt) (h2 : a.toInt + b.toInt ≤ 2147483647) : (a + b).toInt = a.toInt + b.toInt := by
  rw [Int32.toInt_add]; exact Int.bmod_eq_of_le (by omega) (by omega)
theorem own_sub32 {a b : Int32} (h1 : -2147483648 ≤ a.toInt - b.toInt) (h2 : a.toInt - b.toInt ≤ 2147483647) : (a - b).toInt = a.toInt - b.toInt := by
  rw [Int32.toInt_sub]; exact Int.bmod_eq_of_le (by omega) (by omega)
theorem own_mul32 {a b : Int32} (h1 : -2147483648 ≤ a.toInt * b.toInt) (h2 : a.toInt * b.toInt ≤ 2147483647) : (a * b).toInt = a.toInt * b.toInt := by
  rw [Int32.toInt_mul]; exact Int.bmod_eq_of_le (by omega) (by omega)
theorem own_rem32 {a b : Int32} (ha : 0 ≤ a.toInt) (hb : 0 < b.toInt) : 0 ≤ (a % b).toInt ∧ (a % b).toInt < b.toInt := by
  rw [Int32.toInt_mod]
  have h1 := Int.tmod_nonneg b.toInt ha
  have h2 := Int.tmod_lt_of_pos a.toInt hb
  omega
theorem own_i64 (a : Int32) : a.toInt64.toInt = a.toInt := by simp

def own_by (z : Int32) : Int32 := z.toInt8.toInt32
theorem own_k256 {z : Int32} (h0 : 0 ≤ z.toInt) (h1 : z.toInt ≤ 255) : ∃ i : Fin 256, z = Int32.ofNat i.val := by
  refine ⟨⟨z.toInt.toNat, by omega⟩, ?_⟩
  apply Int32.toInt_inj.mp
  show z.toInt = (Int32.ofNat z.toInt.toNat).toInt
  rw [Int32.toInt_ofNat_of_lt (by omega)]; omega
theorem own_byc {z : Int32} (h0 : 0 ≤ z.toInt) (h1 : z.toInt ≤ 255) : (own_by z &&& (255 : Int32)).toUInt32.toUInt16.toUInt32.toInt32 = z := by
  obtain ⟨i, rfl⟩ := own_k256 h0 h1
  clear h0 h1; revert i; unfold own_by; decide +kernel
theorem own_byc' {z : Int32} (h0 : 0 ≤ z.toInt) (h1 : z.toInt ≤ 255) : (own_by z &&& (255 : Int32)) = z := by
  obtain ⟨i, rfl⟩ := own_k256 h0 h1
  clear h0 h1; revert i; unfold own_by; decide +kernel
theorem own_i2cc {z : Int32} (h0 : 0 ≤ z.toInt) (h1 : z.toInt ≤ 255) : z.toUInt32.toUInt16.toUInt32.toInt32 = z := by
  obtain ⟨i, rfl⟩ := own_k256 h0 h1
  clear h0 h1; revert i; decide +kernel
theorem own_nch {z : Int32} (h0 : 0 ≤ z.toInt) (h1 : z.toInt ≤ 255) : nar .char z = z := own_i2cc h0 h1
theorem own_nrc {z : Int32} (h0 : 0 ≤ z.toInt) (h1 : z.toInt ≤ 255) : narrow .char (.int z) = .int z := congrArg Value.int (own_i2cc h0 h1)
theorem own_nby (z : Int32) : nar .byte (own_by z) = own_by z := by
  show (z.toInt8.toInt32).toInt8.toInt32 = z.toInt8.toInt32
  simp
theorem own_m8 (z : Int32) : ∃ y : Int32, (z &&& (255 : Int32)).toUInt32.toUInt16.toUInt32.toInt32 = y ∧ 0 ≤ y.toInt ∧ y.toInt ≤ 255 := by
  have h := own_and_bound z 255 (by decide)
  have e : (255 : Int32).toInt = 255 := rfl
  exact ⟨z &&& 255, own_i2cc h.1 (by omega), h.1, by omega⟩
theorem own_le255 {z : Int32} (h1 : z.toInt ≤ 255) : z.toInt ≤ (255 : Int32).toInt := h1

def own_tabL : List Int32 := [1207963663, 1207963663, 1207963663, 1207963663, 1207963663, 1207963663, 1207963663, 1207963663, 1207963663, 1476411407, 1342193679, 1476411407, 1610629135, 1342193679, 1207963663, 1207963663, 1207963663, 1207963663, 1207963663, 1207963663, 1207963663, 1207963663, 1207963663, 1207963663, 1207963663, 1207963663, 1207963663, 1207963663, 1342193679, 1342193679, 1342193679, 1476411407, 1610629132, 1744830488, 1744830488, 671088664, 671113242, 671088664, 1744830488, 1744830488, (-402653163), (-402653162), 1744830488, 536870937, 939524120, 536870932, 939524120, 939524120, 402667017, 402667017, 402667017, 402667017, 402667017, 402667017, 402667017, 402667017, 402667017, 402667017, 939524120, 1744830488, (-402653159), 1744830489, (-402653159), 1744830488, 1744830488, 8552417, 8552417, 8552417, 8552417, 8552417, 8552417, 8552417, 8552417, 8552417, 8552417, 8552417, 8552417, 8552417, 8552417, 8552417, 8552417, 8552417, 8552417, 8552417, 8552417, 8552417, 8552417, 8552417, 8552417, 8552417, 8552417, (-402653163), 1744830488, (-402653162), 1744830491, 1744850967, 1744830491, 8486882, 8486882, 8486882, 8486882, 8486882, 8486882, 8486882, 8486882, 8486882, 8486882, 8486882, 8486882, 8486882, 8486882, 8486882, 8486882, 8486882, 8486882, 8486882, 8486882, 8486882, 8486882, 8486882, 8486882, 8486882, 8486882, (-402653163), 1744830489, (-402653162), 1744830489, 1207963663, 1207963663, 1207963663, 1207963663, 1207963663, 1207963663, 1342181391, 1207963663, 1207963663, 1207963663, 1207963663, 1207963663, 1207963663, 1207963663, 1207963663, 1207963663, 1207963663, 1207963663, 1207963663, 1207963663, 1207963663, 1207963663, 1207963663, 1207963663, 1207963663, 1207963663, 1207963663, 1207963663, 1207963663, 1207963663, 1207963663, 1207963663, 1207963663, 939524108, 1744830488, 671113242, 671113242, 671113242, 671113242, 1744830492, 1744830488, 1744830491, 1744830492, 28677, (-402653155), 1744830489, 1207963664, 1744830492, 1744830491, 671088668, 671088665, 402654731, 402654731, 1744830491, 134049794, 1744830488, 1744830488, 1744830491, 402654475, 28677, (-402653154), 1744832523, 1744832523, 1744832523, 1744830488, 8548353, 8548353, 8548353, 8548353, 8548353, 8548353, 8548353, 8548353, 8548353, 8548353, 8548353, 8548353, 8548353, 8548353, 8548353, 8548353, 8548353, 8548353, 8548353, 8548353, 8548353, 8548353, 8548353, 1744830489, 8548353, 8548353, 8548353, 8548353, 8548353, 8548353, 8548353, 134049794, 8482818, 8482818, 8482818, 8482818, 8482818, 8482818, 8482818, 8482818, 8482818, 8482818, 8482818, 8482818, 8482818, 8482818, 8482818, 8482818, 8482818, 8482818, 8482818, 8482818, 8482818, 8482818, 8482818, 1744830489, 8482818, 8482818, 8482818, 8482818, 8482818, 8482818, 8482818, 102592514]
def own_tab (i : Nat) : Int32 := own_tabL.getD i 0
def own_ws (z : Int32) : Bool := decide (z.toInt = 32 ∨ (9 ≤ z.toInt ∧ z.toInt ≤ 13) ∨ (28 ≤ z.toInt ∧ z.toInt ≤ 31))
def own_wsI (z : Int32) : Int32 := if own_ws z then 1 else 0
theorem own_wsY {z : Int32} (h : z.toInt = 32 ∨ (9 ≤ z.toInt ∧ z.toInt ≤ 13) ∨ (28 ≤ z.toInt ∧ z.toInt ≤ 31)) : own_wsI z = 1 := by
  unfold own_wsI own_ws; rw [decide_eq_true h]; rfl
theorem own_wsN {z : Int32} (h : ¬ (z.toInt = 32 ∨ (9 ≤ z.toInt ∧ z.toInt ≤ 13) ∨ (28 ≤ z.toInt ∧ z.toInt ≤ 31))) : own_wsI z = 0 := by
  unfold own_wsI own_ws; rw [decide_eq_false h]; rfl
theorem own_wn32 {z : Int32} (h : z = (32 : Int32)) : own_wsI z ≠ 0 := by subst h; decide
theorem own_wn9 {z : Int32} (h : z = (9 : Int32)) : own_wsI z ≠ 0 := by subst h; decide
theorem own_wc (z : Int32) : own_wsI z = 0 ∨ own_wsI z = 1 := by unfold own_wsI; cases own_ws z <;> simp
set_option maxRecDepth 65536 in
theorem own_tabF : ∀ i : Fin 256, (own_tab i.val &&& (28672 : Int32) = (16384 : Int32) → own_wsI (Int32.ofNat i.val) = 1) ∧ (¬ own_tab i.val &&& (28672 : Int32) = (16384 : Int32) → own_wsI (Int32.ofNat i.val) = 0) := by decide +kernel
theorem own_tabws {z : Int32} {q : Nat} (hz : z.toInt = (q : Int)) (hq : q < 256) : (own_tab q &&& (28672 : Int32) = (16384 : Int32) → own_wsI z = 1) ∧ (¬ own_tab q &&& (28672 : Int32) = (16384 : Int32) → own_wsI z = 0) := by
  have e : z = Int32.ofNat q := by
    apply Int32.toInt_inj.mp
    rw [Int32.toInt_ofNat_of_lt (by omega)]; exact hz
  rw [e]; exact own_tabF ⟨q, hq⟩
def own_St (Z : State) (cs : Int32) (ia ta : Addr) (cl : Cell) : Prop := (cs ≠ 0 ∧ Sta Z Z.heap "java/lang/String" "COMPACT_STRINGS" "Z" (.int cs)) ∧ Sta Z Z.heap "java/lang/CharacterDataLatin1" "instance" "Ljava/lang/CharacterDataLatin1;" (.ref ia) ∧ Exa Z Z.heap ia "java/lang/CharacterDataLatin1" ∧ Sta Z Z.heap "java/lang/CharacterDataLatin1" "A" "[I" (.ref ta) ∧ Arr Z Z.heap ta cl .int ∧ ∀ i : Nat, i < 256 → cl.slots[i]? = some (.int (own_tab i))
set_option maxRecDepth 65536 in
theorem own_tabW : jdkStatics_1.drop 17 = own_tabL.zipIdx.map (fun ti => Jvm.Cond.eq (Jvm.Term.elem (Jvm.Term.static "java/lang/CharacterDataLatin1" "A" "[I") (Jvm.Term.int (Int32.ofNat ti.2))) (Jvm.Term.int ti.1)) := rfl
theorem own_tabLen : own_tabL.length = 256 := by decide +kernel
theorem own_stof {Z : State} {a0 : Array Value} (hs : ∀ d ∈ jdkStatics_1, d.before a0 Z = true) : ∃ cs ia ta cl, own_St Z cs ia ta cl := by
  have n2 := not_v (Cond.before_iff.mp (hs _ (List.mem_of_getElem? (i := 2) rfl)))
  obtain ⟨cs, e1⟩ := is_v (Cond.before_iff.mp (hs _ (List.mem_of_getElem? (i := 1) rfl)))
  have S1 : Sta Z Z.heap "java/lang/String" "COMPACT_STRINGS" "Z" (.int cs) := Sta.start e1 (Or.inl (hs _ (List.mem_of_getElem? (i := 0) rfl)))
  have c1 : ¬ (cs = (0 : Int32)) := gotF (Cond.eq_ints e1 (Term.int_eval (0))) n2
  obtain ⟨ia, e2⟩ := exa_v (Cond.before_iff.mp (hs _ (List.mem_of_getElem? (i := 11) rfl)))
  have S2 : Sta Z Z.heap "java/lang/CharacterDataLatin1" "instance" "Ljava/lang/CharacterDataLatin1;" (.ref ia) := Sta.start e2 (Or.inl (hs _ (List.mem_of_getElem? (i := 10) rfl)))
  have E2 : Exa Z Z.heap ia "java/lang/CharacterDataLatin1" := Exa.start e2 (Cond.before_iff.mp (hs _ (List.mem_of_getElem? (i := 11) rfl)))
  obtain ⟨ta, e3⟩ := arr_v (Cond.before_iff.mp (hs _ (List.mem_of_getElem? (i := 14) rfl)))
  have S3 : Sta Z Z.heap "java/lang/CharacterDataLatin1" "A" "[I" (.ref ta) := Sta.start e3 (Or.inl (hs _ (List.mem_of_getElem? (i := 13) rfl)))
  obtain ⟨cl, A3⟩ := Arr.start e3 (Cond.before_iff.mp (hs _ (List.mem_of_getElem? (i := 14) rfl)))
  refine ⟨cs, ia, ta, cl, ⟨c1, S1⟩, S2, E2, S3, A3, fun i hi => ?_⟩
  have hm : (own_tab i, i) ∈ own_tabL.zipIdx := by
    rw [List.mem_zipIdx_iff_getElem?]
    unfold own_tab
    rw [List.getD_eq_getElem?_getD, List.getElem?_eq_getElem (by rw [own_tabLen]; exact hi)]; rfl
  have hmem : Jvm.Cond.eq (Jvm.Term.elem (Jvm.Term.static "java/lang/CharacterDataLatin1" "A" "[I") (Jvm.Term.int (Int32.ofNat i))) (Jvm.Term.int (own_tab i)) ∈ jdkStatics_1 := by
    refine List.mem_of_mem_drop (i := 17) ?_
    rw [own_tabW]
    exact List.mem_map.mpr ⟨_, hm, rfl⟩
  have hv := Cond.before_iff.mp (hs _ hmem)
  have e4 : (Jvm.Term.elem (Jvm.Term.static "java/lang/CharacterDataLatin1" "A" "[I") (Jvm.Term.int (Int32.ofNat i))).eval a0 Z none [] Z = some (.int (own_tab i)) := by
    simp only [Cond.value] at hv
    rw [show (Jvm.Term.int (own_tab i)).eval a0 Z none [] Z = some (.int (own_tab i)) from Term.int_eval _] at hv
    generalize (Jvm.Term.elem (Jvm.Term.static "java/lang/CharacterDataLatin1" "A" "[I") (Jvm.Term.int (Int32.ofNat i))).eval a0 Z none [] Z = o at hv ⊢
    cases o with
    | none => simp at hv
    | some x => cases x <;> simp at hv ⊢; exact hv
  have q := (elem_in e4 e3 (Term.int_eval _) A3.1).2
  have ej : (Int32.ofNat i).toNatClampNeg = i := by
    have : (Int32.ofNat i).toInt = (i : Int) := Int32.toInt_ofNat_of_lt (by omega)
    simp only [Int32.toNatClampNeg, this]; rfl
  rw [ej] at q; exact q
set_option maxRecDepth 65536 in
set_option maxHeartbeats 40000000 in
theorem own_am_ef (m : MethodId) (x0 : Addr) : entryFrame m #[(.ref x0)] 1 = mkF m 0 #[.val (.ref x0)] [] := by first | (simp [entryFrame, mkF, argsToLocals, Value.category]; done) | rfl
set_option maxRecDepth 65536 in
set_option maxHeartbeats 40000000 in
theorem own_am {l : Launch} {Z : State} {a0 : Array Value} (hw : own_Z Z a0) {h : Heap} {a : Addr} : own_Met false l Z (⟨"java/util/AbstractMap", "<init>", "()V"⟩ : MethodName) jdk_71_method_1_code 1 none [] ({ frames := 1, cells := 0, slots := 0, locals := 12 } : Room) #[(.ref a)] h (fun v h' => v = none ∧ h = h') := by
  refine own_met (by first | exact plainFor_of_name (by decide +kernel) | decide +kernel) ?_
  intro p e s m below meth c K
  refine own_cast (own_am_ef m _) ?_
  refine own_aloadN K own_d0_0 rfl rfl ?_
  refine own_initO K own_d0_1 (own_w21 hw) (own_w7 hw) (own_w8 hw) rfl (by decide) (W := 0) (Nat.le_of_eq rfl) (by decide) ?_
  exact own_retV K own_d0_4 (by decide) (by decide) (⟨rfl, rfl⟩)
set_option maxRecDepth 65536 in
set_option maxHeartbeats 40000000 in
theorem own_hm_ef (m : MethodId) (x0 : Addr) : entryFrame m #[(.ref x0)] 1 = mkF m 0 #[.val (.ref x0)] [] := by first | (simp [entryFrame, mkF, argsToLocals, Value.category]; done) | rfl
set_option maxRecDepth 65536 in
set_option maxHeartbeats 40000000 in
theorem own_hm {l : Launch} {Z : State} {a0 : Array Value} (hw : own_Z Z a0) {h : Heap} {os : List own_O} {as : List own_A} {a : Addr} (H : own_H Z h (own_HM a (.float (0 : UInt32)) :: os) as) : own_Met false l Z (⟨"java/util/HashMap", "<init>", "()V"⟩ : MethodName) jdk_69_method_7_code 1 none [] ({ frames := 2, cells := 0, slots := 0, locals := 24 } : Room) #[(.ref a)] h (fun v h' => v = none ∧ own_H Z h' (own_HM a (.float (1061158912 : UInt32)) :: os) as) := by
  refine own_met (by first | exact plainFor_of_name (by decide +kernel) | decide +kernel) ?_
  intro p e s m below meth c K
  refine own_cast (own_hm_ef m _) ?_
  refine own_aloadN K own_d1_0 rfl rfl ?_
  refine own_special K own_d1_1 rfl (own_w15 hw) (own_w16 hw) (own_w19 hw) (own_w20 hw) (a := a) (argsL := []) (rest := []) (own_am hw) own_pd0 rfl rfl rfl (by decide) (W := 0) (Nat.le_of_eq rfl) (by decide) (by decide) (by decide) (by decide) ?_
  intro v3 h1 q2
  obtain ⟨rfl, rfl⟩ := q2
  refine own_aloadN K own_d1_4 rfl rfl ?_
  refine own_ldcF K own_d1_5 (v := (1061158912 : UInt32)) (own_w22 hw) ?_
  refine own_putfield K own_d1_7 (host := "") (Or.inl (own_w23 hw)) Via.refl H (j := 0) rfl (q := 0) rfl (Or.inr ⟨(own_w24 hw), rfl, rfl⟩) (own_w10 hw) (ty := .float) (by decide +kernel) (rfl) rfl ?_
  intro h4 H5
  replace H5 : own_H Z h4 (own_HM a (.float (1061158912 : UInt32)) :: os) (as) := H5
  exact own_retV K own_d1_10 (by decide) (by decide) (⟨rfl, H5⟩)
set_option maxRecDepth 65536 in
set_option maxHeartbeats 40000000 in
theorem own_sd_ef (m : MethodId) (x0 : Addr) : entryFrame m #[(.ref x0)] 1 = mkF m 0 #[.val (.ref x0)] [] := by first | (simp [entryFrame, mkF, argsToLocals, Value.category]; done) | rfl
set_option maxRecDepth 65536 in
set_option maxHeartbeats 40000000 in
theorem own_sd {l : Launch} {Z : State} {a0 : Array Value} (hw : own_Z Z a0) {h : Heap} {os : List own_O} {as : List own_A} {a : Addr} (H : own_H Z h (own_SD a .null :: os) as) : own_Met false l Z (⟨"com/example/cistern/cistern/config/SettingsDraft", "<init>", "()V"⟩ : MethodName) prog_10_method_1_code 1 none [] ({ frames := 3, cells := 1, slots := 8, locals := 40 } : Room) #[(.ref a)] h (fun v h' => v = none ∧ ∃ os' b, own_H Z h' (own_HM b (.float (1061158912 : UInt32)) :: own_SD a (.ref b) :: os') as) := by
  refine own_met (by first | exact plainFor_of_name (by decide +kernel) | decide +kernel) ?_
  intro p e s m below meth c K
  refine own_cast (own_sd_ef m _) ?_
  refine own_aloadN K own_d2_0 rfl rfl ?_
  refine own_initO K own_d2_1 (own_w6 hw) (own_w7 hw) (own_w8 hw) rfl (by decide) (W := 0) (Nat.le_of_eq rfl) (by decide) ?_
  refine own_aloadN K own_d2_4 rfl rfl ?_
  refine own_new K own_d2_5 (own_w9 hw) (own_w10 hw) (own_w11 hw) H (own_HM_F hw) (own_HM_P hw) (by decide) (by decide) ?_
  intro h1 a3 H2
  replace H2 : own_H Z h1 (own_HM a3 (.float (0 : UInt32)) :: own_SD a .null :: os) (as) := H2
  refine own_dup K own_d2_8 rfl ?_
  refine own_special K own_d2_9 rfl (own_w12 hw) (own_w13 hw) (own_w11 hw) (own_w14 hw) (a := a3) (argsL := []) (rest := [(.ref a3), (.ref a)]) (own_hm hw H2) own_pd0 rfl rfl rfl (by decide) (W := 2) (Nat.le_of_eq rfl) (by decide) (by decide) (by decide) (by decide) ?_
  intro v6 h4 q5
  obtain ⟨rfl, H7⟩ := q5
  replace H7 : own_H Z h4 (own_HM a3 (.float (1061158912 : UInt32)) :: own_SD a .null :: os) (as) := H7
  refine own_putfield K own_d2_12 (host := "") (Or.inl (own_w25 hw)) Via.refl H7 (j := 1) rfl (q := 0) rfl (Or.inr ⟨(own_w26 hw), rfl, rfl⟩) (own_w1 hw) (ty := (.object "java/util/Map")) (by decide +kernel) (rfl) rfl ?_
  intro h8 H9
  replace H9 : own_H Z h8 (own_HM a3 (.float (1061158912 : UInt32)) :: own_SD a (.ref a3) :: os) (as) := H9
  exact own_retV K own_d2_15 (by decide) (by decide) (⟨rfl, _, _, H9⟩)
set_option maxRecDepth 65536 in
set_option maxHeartbeats 40000000 in
theorem own_gp_ef (m : MethodId) (x0 : Addr) (x1 : Int32) : entryFrame m #[(.ref x0), (.int x1)] 4 = mkF m 0 #[.val (.ref x0), .val (.int x1), .unset, .unset] [] := by first | (simp [entryFrame, mkF, argsToLocals, Value.category]; done) | rfl
set_option maxRecDepth 65536 in
set_option maxHeartbeats 40000000 in
theorem own_gp {l : Launch} {Z : State} {a0 : Array Value} (hw : own_Z Z a0) {h : Heap} {os : List own_O} {as : List own_A} {z : Int32} {q : Nat} {ia ta : Addr} {cl : Cell} {cs : Int32}  (hS : own_St Z cs ia ta cl) (H : own_H Z h os as) (hz : z.toInt = (q : Int)) (hq : q < 256) : own_Met false l Z (⟨"java/lang/CharacterDataLatin1", "getProperties", "(I)I"⟩ : MethodName) jdk_116_method_1_code 4 (some .int) [] ({ frames := 0, cells := 0, slots := 0, locals := 0 } : Room) #[(.ref ia), (.int z)] h (fun v h' => v = some (.int (own_tab q)) ∧ h = h') := by
  refine own_met (by first | exact plainFor_of_name (by decide +kernel) | decide +kernel) ?_
  intro p e s m below meth c K
  refine own_cast (own_gp_ef m _ _) ?_
  refine own_iloadN K own_d3_0 rfl ?_
  refine own_i2c K own_d3_1 ?_
  refine own_topI (x' := z) (own_i2cc (by omega) (by omega)) ?_
  refine own_istoreN K own_d3_2 (Ls' := #[.val (.ref ia), .val (.int z), .val (.int z), .unset]) rfl ?_
  refine own_getstatic K own_d3_3 (own_w100 hw) Via.refl (v := (.ref ta)) (Sta.ext H.1 hS.2.2.2.1) ?_
  refine own_iloadN K own_d3_6 rfl ?_
  refine own_ialoadZ K own_d3_7 (Arr.ext H.1 hS.2.2.2.2.1) (q := q) (hz) (hS.2.2.2.2.2 q hq) ?_
  refine own_istoreN K own_d3_8 (Ls' := #[.val (.ref ia), .val (.int z), .val (.int z), .val (.int (own_tab q))]) rfl ?_
  refine own_iloadN K own_d3_9 rfl ?_
  exact own_retI K own_d3_10 (by decide) (by decide) (⟨rfl, rfl⟩)
set_option maxRecDepth 65536 in
set_option maxHeartbeats 40000000 in
theorem own_iw_ef (m : MethodId) (x0 : Addr) (x1 : Int32) : entryFrame m #[(.ref x0), (.int x1)] 3 = mkF m 0 #[.val (.ref x0), .val (.int x1), .unset] [] := by first | (simp [entryFrame, mkF, argsToLocals, Value.category]; done) | rfl
set_option maxRecDepth 65536 in
set_option maxHeartbeats 40000000 in
theorem own_iw {l : Launch} {Z : State} {a0 : Array Value} (hw : own_Z Z a0) {h : Heap} {os : List own_O} {as : List own_A} {z : Int32} {q : Nat} {ia ta : Addr} {cl : Cell} {cs : Int32}  (hS : own_St Z cs ia ta cl) (H : own_H Z h os as) (hz : z.toInt = (q : Int)) (hq : q < 256) : own_Met false l Z (⟨"java/lang/CharacterDataLatin1", "isWhitespace", "(I)Z"⟩ : MethodName) jdk_116_method_26_code 3 (some .boolean) [] ({ frames := 1, cells := 0, slots := 0, locals := 15 } : Room) #[(.ref ia), (.int z)] h (fun v h' => v = some (.int (own_wsI z)) ∧ h = h') := by
  refine own_met (by first | exact plainFor_of_name (by decide +kernel) | decide +kernel) ?_
  intro p e s m below meth c K
  refine own_cast (own_iw_ef m _ _) ?_
  refine own_aloadN K own_d4_0 rfl rfl ?_
  refine own_iloadN K own_d4_1 rfl ?_
  refine own_virtual K own_d4_2 (own_w95 hw) (own_w96 hw) (own_w98 hw) (own_w97 hw) (own_w89 hw) (own_w99 hw) (Exa.ext H.1 hS.2.2.1) (a := ia) (argsL := [(.int z)]) (rest := []) (own_gp hw hS H hz hq) own_pd1 rfl rfl rfl (by decide) (W := 0) (Nat.le_of_eq rfl) (by decide) (by decide) (by decide) (by decide) ?_
  intro v3 h1 q2
  obtain ⟨rfl, rfl⟩ := q2
  refine own_istoreN K own_d4_5 (Ls' := #[.val (.ref ia), .val (.int z), .val (.int (own_tab q))]) rfl ?_
  refine own_iloadN K own_d4_6 rfl ?_
  refine own_sipush K own_d4_7 (v := (28672 : Int32)) rfl ?_
  refine own_iand K own_d4_10 ?_
  refine own_sipush K own_d4_11 (v := (16384 : Int32)) rfl ?_
  refine own_icmpne K own_d4_14 (fun g => ?_) (fun g => ?_)
  · refine own_iconst K own_d4_21 (v := (0 : Int32)) rfl ?_
    exact own_retZ K (by first | exact Or.inl rfl | exact Or.inr rfl | decide) own_d4_22 (by decide) (by decide) (⟨congrArg (fun y => some (Value.int y)) ((own_tabws hz hq).2 g).symm, rfl⟩)
  · refine own_iconst K own_d4_17 (v := (1 : Int32)) rfl ?_
    refine own_goto K own_d4_18 ?_
    exact own_retZ K (by first | exact Or.inl rfl | exact Or.inr rfl | decide) own_d4_22 (by decide) (by decide) (⟨congrArg (fun y => some (Value.int y)) ((own_tabws hz hq).1 (Classical.not_not.mp g)).symm, rfl⟩)
set_option maxRecDepth 65536 in
set_option maxHeartbeats 40000000 in
theorem own_gc_ef (m : MethodId) (x0 : Addr) (x1 : Int32) : entryFrame m #[(.ref x0), (.int x1)] 2 = mkF m 0 #[.val (.ref x0), .val (.int x1)] [] := by first | (simp [entryFrame, mkF, argsToLocals, Value.category]; done) | rfl
set_option maxRecDepth 65536 in
set_option maxHeartbeats 40000000 in
theorem own_gc {l : Launch} {Z : State} {a0 : Array Value} (hw : own_Z Z a0) {h : Heap} {os : List own_O} {as : List own_A} {y : Addr} {i z : Int32} {vs : List Value} {q : Nat} (H : own_H Z h os ((y, .byte, "[B", vs) :: as)) (hi : i.toInt = (q : Int)) (hv : vs[q]? = some (.int (own_by z))) (h0 : 0 ≤ z.toInt) (h1 : z.toInt ≤ 255) : own_Met false l Z (⟨"java/lang/StringLatin1", "getChar", "([BI)C"⟩ : MethodName) jdk_43_method_44_code 2 (some .char) [] ({ frames := 0, cells := 0, slots := 0, locals := 0 } : Room) #[(.ref y), (.int i)] h (fun v h' => v = some (.int z) ∧ h = h') := by
  refine own_met (by first | exact plainFor_of_name (by decide +kernel) | decide +kernel) ?_
  intro p e s m below meth c K
  refine own_cast (own_gc_ef m _ _) ?_
  refine own_aloadN K own_d5_0 rfl rfl ?_
  refine own_iloadN K own_d5_1 rfl ?_
  refine own_baload K own_d5_2 H (i := 0) rfl (q := q) (hi) (hv) ?_
  refine own_sipush K own_d5_3 (v := (255 : Int32)) rfl ?_
  refine own_iand K own_d5_6 ?_
  refine own_i2c K own_d5_7 ?_
  refine own_topI (x' := z) (own_byc h0 h1) ?_
  exact own_retC K (own_nrc h0 h1) own_d5_8 (by decide) (by decide) (⟨rfl, rfl⟩)
set_option maxRecDepth 65536 in
set_option maxHeartbeats 40000000 in
theorem own_cmpB1_ef (m : MethodId) (x0 : Addr) (x1 : Int32) (x2 : Addr) (x3 : Int32) (x4 : Int32) : entryFrame m #[(.ref x0), (.int x1), (.ref x2), (.int x3), (.int x4)] 7 = mkF m 0 #[.val (.ref x0), .val (.int x1), .val (.ref x2), .val (.int x3), .val (.int x4), .unset, .unset] [] := by first | (simp [entryFrame, mkF, argsToLocals, Value.category]; done) | rfl
set_option maxRecDepth 65536 in
set_option maxHeartbeats 40000000 in
theorem own_cmpB1 {l : Launch} {Z : State} {a0 : Array Value} (hw : own_Z Z a0) {h : Heap} {os : List own_O} {as : List own_A} {x y : Addr} {c0 : Int32} (H : own_H Z h os ((y, .byte, "[B", [(.int (0 : Int32))]) :: (x, .char, "[C", [(.int c0)]) :: as)) (l0 : 0 ≤ c0.toInt) (u0 : c0.toInt ≤ 255) : own_Met false l Z (⟨"java/lang/StringUTF16", "compress", "([CI[BII)I"⟩ : MethodName) jdk_52_method_21_code 7 (some .int) [] ({ frames := 0, cells := 0, slots := 0, locals := 0 } : Room) #[(.ref x), (.int (0 : Int32)), (.ref y), (.int (0 : Int32)), (.int (1 : Int32))] h (fun v h' => v = some (.int (1 : Int32)) ∧ own_H Z h' os ((y, .byte, "[B", [(.int (own_by c0))]) :: (x, .char, "[C", [(.int c0)]) :: as)) := by
  refine own_met (by first | exact plainFor_of_name (by decide +kernel) | decide +kernel) ?_
  intro p e s m below meth c K
  refine own_cast (own_cmpB1_ef m _ _ _ _ _) ?_
  refine own_iconst K own_d6_0 (v := (0 : Int32)) rfl ?_
  refine own_istore K own_d6_1 (Ls' := #[.val (.ref x), .val (.int (0 : Int32)), .val (.ref y), .val (.int (0 : Int32)), .val (.int (1 : Int32)), .val (.int (0 : Int32)), .unset]) rfl ?_
  refine own_iload K own_d6_3 rfl ?_
  refine own_iload K own_d6_5 rfl ?_
  refine own_icmpge K own_d6_7 (fun q => absurd q (by decide)) (fun _ => ?_)
  refine own_aloadN K own_d6_10 rfl rfl ?_
  refine own_iloadN K own_d6_11 rfl ?_
  refine own_caload K own_d6_12 H (i := 1) rfl (q := 0) (by decide) (rfl) ?_
  refine own_istore K own_d6_13 (Ls' := #[.val (.ref x), .val (.int (0 : Int32)), .val (.ref y), .val (.int (0 : Int32)), .val (.int (1 : Int32)), .val (.int (0 : Int32)), .val (.int c0)]) rfl ?_
  refine own_iload K own_d6_15 rfl ?_
  refine own_sipush K own_d6_17 (v := (255 : Int32)) rfl ?_
  refine own_icmple K own_d6_20 (fun _ => ?_) (fun q => absurd (own_le255 u0) q)
  refine own_aloadN K own_d6_26 rfl rfl ?_
  refine own_iloadN K own_d6_27 rfl ?_
  refine own_iload K own_d6_28 rfl ?_
  refine own_i2b K own_d6_30 ?_
  refine own_topI (x' := (own_by c0)) (rfl) ?_
  refine own_bastore K own_d6_31 H (i := 0) rfl (q := 0) (by decide) (own_le rfl) ?_
  intro h1 H2
  rw [own_nby] at H2
  replace H2 : own_H Z h1 (os) ((y, .byte, "[B", [(.int (own_by c0))]) :: (x, .char, "[C", [(.int c0)]) :: as) := H2
  refine own_iinc K own_d6_32 rfl (y := (1 : Int32)) (by decide) (Ls' := #[.val (.ref x), .val (.int (1 : Int32)), .val (.ref y), .val (.int (0 : Int32)), .val (.int (1 : Int32)), .val (.int (0 : Int32)), .val (.int c0)]) rfl ?_
  refine own_iinc K own_d6_35 rfl (y := (1 : Int32)) (by decide) (Ls' := #[.val (.ref x), .val (.int (1 : Int32)), .val (.ref y), .val (.int (1 : Int32)), .val (.int (1 : Int32)), .val (.int (0 : Int32)), .val (.int c0)]) rfl ?_
  refine own_iinc K own_d6_38 rfl (y := (1 : Int32)) (by decide) (Ls' := #[.val (.ref x), .val (.int (1 : Int32)), .val (.ref y), .val (.int (1 : Int32)), .val (.int (1 : Int32)), .val (.int (1 : Int32)), .val (.int c0)]) rfl ?_
  refine own_goto K own_d6_41 ?_
  refine own_iload K own_d6_3 rfl ?_
  refine own_iload K own_d6_5 rfl ?_
  refine own_icmpge K own_d6_7 (fun _ => ?_) (fun q => absurd (by decide) q)
  refine own_iload K own_d6_44 rfl ?_
  exact own_retI K own_d6_46 (by decide) (by decide) (⟨rfl, H2⟩)
set_option maxRecDepth 65536 in
set_option maxHeartbeats 40000000 in
theorem own_cmpA1_ef (m : MethodId) (x0 : Addr) (x1 : Int32) (x2 : Int32) : entryFrame m #[(.ref x0), (.int x1), (.int x2)] 6 = mkF m 0 #[.val (.ref x0), .val (.int x1), .val (.int x2), .unset, .unset, .unset] [] := by first | (simp [entryFrame, mkF, argsToLocals, Value.category]; done) | rfl
set_option maxRecDepth 65536 in
set_option maxHeartbeats 40000000 in
theorem own_cmpA1 {l : Launch} {Z : State} {a0 : Array Value} (hw : own_Z Z a0) {h : Heap} {os : List own_O} {as : List own_A} {x : Addr} {c0 : Int32} (H : own_H Z h os ((x, .char, "[C", [(.int c0)]) :: as)) (l0 : 0 ≤ c0.toInt) (u0 : c0.toInt ≤ 255) : own_Met false l Z (⟨"java/lang/StringUTF16", "compress", "([CII)[B"⟩ : MethodName) jdk_52_method_16_code 6 (some (.array .byte)) [] ({ frames := 1, cells := 1, slots := 1, locals := 18 } : Room) #[(.ref x), (.int (0 : Int32)), (.int (1 : Int32))] h (fun v h' => ∃ y, v = some (.ref y) ∧ own_H Z h' os ((y, .byte, "[B", [(.int (own_by c0))]) :: (x, .char, "[C", [(.int c0)]) :: as)) := by
  refine own_met (by first | exact plainFor_of_name (by decide +kernel) | decide +kernel) ?_
  intro p e s m below meth c K
  refine own_cast (own_cmpA1_ef m _ _ _) ?_
  refine own_iloadN K own_d7_0 rfl ?_
  refine own_newarray K own_d7_1 (ty := .byte) rfl (own_w55 hw) H (q := 1) (by decide) (ad := "[B") (by decide +kernel) (vs := [(.int (0 : Int32))]) rfl (by decide) (by decide) (by decide) ?_
  intro h1 a3 H2
  replace H2 : own_H Z h1 (os) ((a3, .byte, "[B", [(.int (0 : Int32))]) :: (x, .char, "[C", [(.int c0)]) :: as) := H2
  refine own_astoreN K own_d7_3 rfl (Ls' := #[.val (.ref x), .val (.int (0 : Int32)), .val (.int (1 : Int32)), .val (.ref a3), .unset, .unset]) rfl ?_
  refine own_aloadN K own_d7_4 rfl rfl ?_
  refine own_iloadN K own_d7_5 rfl ?_
  refine own_aloadN K own_d7_6 rfl rfl ?_
  refine own_iconst K own_d7_7 (v := (0 : Int32)) rfl ?_
  refine own_iloadN K own_d7_8 rfl ?_
  refine own_static K own_d7_9 (own_w56 hw) (own_w57 hw) (own_w53 hw) (own_w58 hw) (argsL := [(.ref x), (.int (0 : Int32)), (.ref a3), (.int (0 : Int32)), (.int (1 : Int32))]) (rest := []) (own_cmpB1 hw H2 l0 u0) own_pd2 rfl rfl rfl (by decide) (W := 0) (Nat.le_of_eq rfl) (by decide) (by decide) (by decide) (by decide) ?_
  intro v6 h4 q5
  obtain ⟨rfl, H7⟩ := q5
  replace H7 : own_H Z h4 (os) ((a3, .byte, "[B", [(.int (own_by c0))]) :: (x, .char, "[C", [(.int c0)]) :: as) := H7
  refine own_istore K own_d7_12 (Ls' := #[.val (.ref x), .val (.int (0 : Int32)), .val (.int (1 : Int32)), .val (.ref a3), .val (.int (1 : Int32)), .unset]) rfl ?_
  refine own_iload K own_d7_14 rfl ?_
  refine own_iloadN K own_d7_16 rfl ?_
  refine own_icmpeq K own_d7_17 (fun _ => ?_) (fun q => absurd (by decide) q)
  refine own_aloadN K own_d7_57 rfl rfl ?_
  exact own_retA K rfl rfl own_d7_58 (by decide) (by decide) (⟨_, rfl, H7⟩)
set_option maxRecDepth 65536 in
set_option maxHeartbeats 40000000 in
theorem own_cfa1_ef (m : MethodId) (x0 : Addr) (x1 : Int32) : entryFrame m #[(.ref x0), (.int x1)] 2 = mkF m 0 #[.val (.ref x0), .val (.int x1)] [] := by first | (simp [entryFrame, mkF, argsToLocals, Value.category]; done) | rfl
set_option maxRecDepth 65536 in
set_option maxHeartbeats 40000000 in
theorem own_cfa1 {l : Launch} {Z : State} {a0 : Array Value} (hw : own_Z Z a0) {h : Heap} {os : List own_O} {as : List own_A} {y : Addr} {c0 : Int32} (H : own_H Z h os ((y, .byte, "[B", [(.int (own_by c0))]) :: as)) : own_Met false l Z (⟨"java/lang/StringUTF16", "coderFromArrayLen", "([BI)B"⟩ : MethodName) jdk_52_method_15_code 2 (some .byte) [] ({ frames := 0, cells := 0, slots := 0, locals := 0 } : Room) #[(.ref y), (.int (1 : Int32))] h (fun v h' => v = some (.int (0 : Int32)) ∧ h = h') := by
  refine own_met (by first | exact plainFor_of_name (by decide +kernel) | decide +kernel) ?_
  intro p e s m below meth c K
  refine own_cast (own_cfa1_ef m _ _) ?_
  refine own_iloadN K own_d8_0 rfl ?_
  refine own_aloadN K own_d8_1 rfl rfl ?_
  refine own_arraylength K own_d8_2 H (i := 0) rfl (N := (1 : Int32)) (rfl) ?_
  refine own_isub K own_d8_3 ?_
  refine own_topI (x' := (0 : Int32)) (by decide) ?_
  refine own_bipush K own_d8_4 (v := (31 : Int32)) rfl ?_
  refine own_iushr K own_d8_6 ?_
  refine own_topI (x' := (0 : Int32)) (by decide) ?_
  refine own_i2b K own_d8_7 ?_
  refine own_topI (x' := (0 : Int32)) (by decide) ?_
  exact own_retBy K (rfl) own_d8_8 (by decide) (by decide) (⟨rfl, rfl⟩)
set_option maxRecDepth 65536 in
set_option maxHeartbeats 40000000 in
theorem own_initD1_ef (m : MethodId) (x0 : Addr) (x1 : Addr) (x2 : Int32) (x3 : Int32) : entryFrame m #[(.ref x0), (.ref x1), (.int x2), (.int x3), .null] 6 = mkF m 0 #[.val (.ref x0), .val (.ref x1), .val (.int x2), .val (.int x3), .val .null, .unset] [] := by first | (simp [entryFrame, mkF, argsToLocals, Value.category]; done) | rfl
set_option maxRecDepth 65536 in
set_option maxHeartbeats 40000000 in
theorem own_initD1 {l : Launch} {Z : State} {a0 : Array Value} (hw : own_Z Z a0) {h : Heap} {os : List own_O} {as : List own_A} {a x : Addr} {cs : Int32} {c0 : Int32} (hC : cs ≠ 0 ∧ Sta Z Z.heap "java/lang/String" "COMPACT_STRINGS" "Z" (.int cs)) (H : own_H Z h (own_ST a .null (.int (0 : Int32)) :: os) ((x, .char, "[C", [(.int c0)]) :: as)) (l0 : 0 ≤ c0.toInt) (u0 : c0.toInt ≤ 255) : own_Met false l Z (⟨"java/lang/String", "<init>", "([CIILjava/lang/Void;)V"⟩ : MethodName) jdk_42_method_149_code 6 none [] ({ frames := 2, cells := 1, slots := 1, locals := 35 } : Room) #[(.ref a), (.ref x), (.int (0 : Int32)), (.int (1 : Int32)), .null] h (fun v h' => v = none ∧ ∃ y, own_H Z h' (own_ST a (.ref y) (.int (0 : Int32)) :: os) ((y, .byte, "[B", [(.int (own_by c0))]) :: (x, .char, "[C", [(.int c0)]) :: as)) := by
  refine own_met (by first | exact plainFor_of_name (by decide +kernel) | decide +kernel) ?_
  intro p e s m below meth c K
  refine own_cast (own_initD1_ef m _ _ _ _) ?_
  refine own_aloadN K own_d9_0 rfl rfl ?_
  refine own_initO K own_d9_1 (own_w49 hw) (own_w7 hw) (own_w8 hw) rfl (by decide) (W := 0) (Nat.le_of_eq rfl) (by decide) ?_
  refine own_iloadN K own_d9_4 rfl ?_
  refine own_ifne K own_d9_5 (fun _ => ?_) (fun q => absurd (by decide) q)
  refine own_getstatic K own_d9_27 (own_w50 hw) Via.refl (v := (.int cs)) (Sta.ext H.1 hC.2) ?_
  refine own_ifeq K own_d9_30 (fun q => absurd q (hC.1)) (fun _ => ?_)
  refine own_aloadN K own_d9_33 rfl rfl ?_
  refine own_iloadN K own_d9_34 rfl ?_
  refine own_iloadN K own_d9_35 rfl ?_
  refine own_static K own_d9_36 (own_w51 hw) (own_w52 hw) (own_w53 hw) (own_w54 hw) (argsL := [(.ref x), (.int (0 : Int32)), (.int (1 : Int32))]) (rest := []) (own_cmpA1 hw H l0 u0) own_pd3 rfl rfl rfl (by decide) (W := 0) (Nat.le_of_eq rfl) (by decide) (by decide) (by decide) (by decide) ?_
  intro v3 h1 q2
  obtain ⟨y5, rfl, H4⟩ := q2
  replace H4 : own_H Z h1 (own_ST a .null (.int (0 : Int32)) :: os) ((y5, .byte, "[B", [(.int (own_by c0))]) :: (x, .char, "[C", [(.int c0)]) :: as) := H4
  refine own_astore K own_d9_39 rfl (Ls' := #[.val (.ref a), .val (.ref x), .val (.int (0 : Int32)), .val (.int (1 : Int32)), .val .null, .val (.ref y5)]) rfl ?_
  refine own_aloadN K own_d9_41 rfl rfl ?_
  refine own_aload K own_d9_42 rfl rfl ?_
  refine own_iloadN K own_d9_44 rfl ?_
  refine own_static K own_d9_45 (own_w59 hw) (own_w60 hw) (own_w53 hw) (own_w61 hw) (argsL := [(.ref y5), (.int (1 : Int32))]) (rest := [(.ref a)]) (own_cfa1 hw H4) own_pd4 rfl rfl rfl (by decide) (W := 1) (Nat.le_of_eq rfl) (by decide) (by decide) (by decide) (by decide) ?_
  intro v8 h6 q7
  obtain ⟨rfl, rfl⟩ := q7
  refine own_putfield K own_d9_48 (host := "") (Or.inl (own_w62 hw)) Via.refl H4 (j := 0) rfl (q := 1) rfl (Or.inr ⟨(own_w63 hw), rfl, rfl⟩) (own_w40 hw) (ty := .byte) (by decide +kernel) (rfl) rfl ?_
  intro h9 H10
  replace H10 : own_H Z h9 (own_ST a .null (.int (0 : Int32)) :: os) ((y5, .byte, "[B", [(.int (own_by c0))]) :: (x, .char, "[C", [(.int c0)]) :: as) := H10
  refine own_aloadN K own_d9_51 rfl rfl ?_
  refine own_aload K own_d9_52 rfl rfl ?_
  refine own_putfield K own_d9_54 (host := "") (Or.inl (own_w64 hw)) Via.refl H10 (j := 0) rfl (q := 0) rfl (Or.inr ⟨(own_w65 hw), rfl, rfl⟩) (own_w40 hw) (ty := (.array .byte)) (by decide +kernel) (rfl) rfl ?_
  intro h11 H12
  replace H12 : own_H Z h11 (own_ST a (.ref y5) (.int (0 : Int32)) :: os) ((y5, .byte, "[B", [(.int (own_by c0))]) :: (x, .char, "[C", [(.int c0)]) :: as) := H12
  exact own_retV K own_d9_57 (by decide) (by decide) (⟨rfl, _, H12⟩)
set_option maxRecDepth 65536 in
set_option maxHeartbeats 40000000 in
theorem own_initS1_ef (m : MethodId) (x0 : Addr) (x1 : Addr) : entryFrame m #[(.ref x0), (.ref x1)] 2 = mkF m 0 #[.val (.ref x0), .val (.ref x1)] [] := by first | (simp [entryFrame, mkF, argsToLocals, Value.category]; done) | rfl
set_option maxRecDepth 65536 in
set_option maxHeartbeats 40000000 in
theorem own_initS1 {l : Launch} {Z : State} {a0 : Array Value} (hw : own_Z Z a0) {h : Heap} {os : List own_O} {as : List own_A} {a x : Addr} {cs : Int32} {c0 : Int32} (hC : cs ≠ 0 ∧ Sta Z Z.heap "java/lang/String" "COMPACT_STRINGS" "Z" (.int cs)) (H : own_H Z h (own_ST a .null (.int (0 : Int32)) :: os) ((x, .char, "[C", [(.int c0)]) :: as)) (l0 : 0 ≤ c0.toInt) (u0 : c0.toInt ≤ 255) : own_Met false l Z (⟨"java/lang/String", "<init>", "([C)V"⟩ : MethodName) jdk_42_method_3_code 2 none [] ({ frames := 3, cells := 1, slots := 1, locals := 52 } : Room) #[(.ref a), (.ref x)] h (fun v h' => v = none ∧ ∃ y, own_H Z h' (own_ST a (.ref y) (.int (0 : Int32)) :: os) ((y, .byte, "[B", [(.int (own_by c0))]) :: (x, .char, "[C", [(.int c0)]) :: as)) := by
  refine own_met (by first | exact plainFor_of_name (by decide +kernel) | decide +kernel) ?_
  intro p e s m below meth c K
  refine own_cast (own_initS1_ef m _ _) ?_
  refine own_aloadN K own_d10_0 rfl rfl ?_
  refine own_aloadN K own_d10_1 rfl rfl ?_
  refine own_iconst K own_d10_2 (v := (0 : Int32)) rfl ?_
  refine own_aloadN K own_d10_3 rfl rfl ?_
  refine own_arraylength K own_d10_4 H (i := 0) rfl (N := (1 : Int32)) (rfl) ?_
  refine own_aconstNull K own_d10_5 ?_
  refine own_special K own_d10_6 rfl (own_w45 hw) (own_w46 hw) (own_w41 hw) (own_w48 hw) (a := a) (argsL := [(.ref x), (.int (0 : Int32)), (.int (1 : Int32)), .null]) (rest := []) (own_initD1 hw hC H l0 u0) own_pd5 rfl rfl rfl (by decide) (W := 0) (Nat.le_of_eq rfl) (by decide) (by decide) (by decide) (by decide) ?_
  intro v3 h1 q2
  obtain ⟨rfl, y5, H4⟩ := q2
  replace H4 : own_H Z h1 (own_ST a (.ref y5) (.int (0 : Int32)) :: os) ((y5, .byte, "[B", [(.int (own_by c0))]) :: (x, .char, "[C", [(.int c0)]) :: as) := H4
  exact own_retV K own_d10_9 (by decide) (by decide) (⟨rfl, _, H4⟩)
set_option maxRecDepth 65536 in
set_option maxHeartbeats 40000000 in
theorem own_cmpB2_ef (m : MethodId) (x0 : Addr) (x1 : Int32) (x2 : Addr) (x3 : Int32) (x4 : Int32) : entryFrame m #[(.ref x0), (.int x1), (.ref x2), (.int x3), (.int x4)] 7 = mkF m 0 #[.val (.ref x0), .val (.int x1), .val (.ref x2), .val (.int x3), .val (.int x4), .unset, .unset] [] := by first | (simp [entryFrame, mkF, argsToLocals, Value.category]; done) | rfl
set_option maxRecDepth 65536 in
set_option maxHeartbeats 40000000 in
theorem own_cmpB2 {l : Launch} {Z : State} {a0 : Array Value} (hw : own_Z Z a0) {h : Heap} {os : List own_O} {as : List own_A} {x y : Addr} {c0 c1 : Int32} (H : own_H Z h os ((y, .byte, "[B", [(.int (0 : Int32)), (.int (0 : Int32))]) :: (x, .char, "[C", [(.int c0), (.int c1)]) :: as)) (l0 : 0 ≤ c0.toInt) (u0 : c0.toInt ≤ 255) (l1 : 0 ≤ c1.toInt) (u1 : c1.toInt ≤ 255) : own_Met false l Z (⟨"java/lang/StringUTF16", "compress", "([CI[BII)I"⟩ : MethodName) jdk_52_method_21_code 7 (some .int) [] ({ frames := 0, cells := 0, slots := 0, locals := 0 } : Room) #[(.ref x), (.int (0 : Int32)), (.ref y), (.int (0 : Int32)), (.int (2 : Int32))] h (fun v h' => v = some (.int (2 : Int32)) ∧ own_H Z h' os ((y, .byte, "[B", [(.int (own_by c0)), (.int (own_by c1))]) :: (x, .char, "[C", [(.int c0), (.int c1)]) :: as)) := by
  refine own_met (by first | exact plainFor_of_name (by decide +kernel) | decide +kernel) ?_
  intro p e s m below meth c K
  refine own_cast (own_cmpB2_ef m _ _ _ _ _) ?_
  refine own_iconst K own_d6_0 (v := (0 : Int32)) rfl ?_
  refine own_istore K own_d6_1 (Ls' := #[.val (.ref x), .val (.int (0 : Int32)), .val (.ref y), .val (.int (0 : Int32)), .val (.int (2 : Int32)), .val (.int (0 : Int32)), .unset]) rfl ?_
  refine own_iload K own_d6_3 rfl ?_
  refine own_iload K own_d6_5 rfl ?_
  refine own_icmpge K own_d6_7 (fun q => absurd q (by decide)) (fun _ => ?_)
  refine own_aloadN K own_d6_10 rfl rfl ?_
  refine own_iloadN K own_d6_11 rfl ?_
  refine own_caload K own_d6_12 H (i := 1) rfl (q := 0) (by decide) (rfl) ?_
  refine own_istore K own_d6_13 (Ls' := #[.val (.ref x), .val (.int (0 : Int32)), .val (.ref y), .val (.int (0 : Int32)), .val (.int (2 : Int32)), .val (.int (0 : Int32)), .val (.int c0)]) rfl ?_
  refine own_iload K own_d6_15 rfl ?_
  refine own_sipush K own_d6_17 (v := (255 : Int32)) rfl ?_
  refine own_icmple K own_d6_20 (fun _ => ?_) (fun q => absurd (own_le255 u0) q)
  refine own_aloadN K own_d6_26 rfl rfl ?_
  refine own_iloadN K own_d6_27 rfl ?_
  refine own_iload K own_d6_28 rfl ?_
  refine own_i2b K own_d6_30 ?_
  refine own_topI (x' := (own_by c0)) (rfl) ?_
  refine own_bastore K own_d6_31 H (i := 0) rfl (q := 0) (by decide) (own_le rfl) ?_
  intro h1 H2
  rw [own_nby] at H2
  replace H2 : own_H Z h1 (os) ((y, .byte, "[B", [(.int (own_by c0)), (.int (0 : Int32))]) :: (x, .char, "[C", [(.int c0), (.int c1)]) :: as) := H2
  refine own_iinc K own_d6_32 rfl (y := (1 : Int32)) (by decide) (Ls' := #[.val (.ref x), .val (.int (1 : Int32)), .val (.ref y), .val (.int (0 : Int32)), .val (.int (2 : Int32)), .val (.int (0 : Int32)), .val (.int c0)]) rfl ?_
  refine own_iinc K own_d6_35 rfl (y := (1 : Int32)) (by decide) (Ls' := #[.val (.ref x), .val (.int (1 : Int32)), .val (.ref y), .val (.int (1 : Int32)), .val (.int (2 : Int32)), .val (.int (0 : Int32)), .val (.int c0)]) rfl ?_
  refine own_iinc K own_d6_38 rfl (y := (1 : Int32)) (by decide) (Ls' := #[.val (.ref x), .val (.int (1 : Int32)), .val (.ref y), .val (.int (1 : Int32)), .val (.int (2 : Int32)), .val (.int (1 : Int32)), .val (.int c0)]) rfl ?_
  refine own_goto K own_d6_41 ?_
  refine own_iload K own_d6_3 rfl ?_
  refine own_iload K own_d6_5 rfl ?_
  refine own_icmpge K own_d6_7 (fun q => absurd q (by decide)) (fun _ => ?_)
  refine own_aloadN K own_d6_10 rfl rfl ?_
  refine own_iloadN K own_d6_11 rfl ?_
  refine own_caload K own_d6_12 H2 (i := 1) rfl (q := 1) (by decide) (rfl) ?_
  refine own_istore K own_d6_13 (Ls' := #[.val (.ref x), .val (.int (1 : Int32)), .val (.ref y), .val (.int (1 : Int32)), .val (.int (2 : Int32)), .val (.int (1 : Int32)), .val (.int c1)]) rfl ?_
  refine own_iload K own_d6_15 rfl ?_
  refine own_sipush K own_d6_17 (v := (255 : Int32)) rfl ?_
  refine own_icmple K own_d6_20 (fun _ => ?_) (fun q => absurd (own_le255 u1) q)
  refine own_aloadN K own_d6_26 rfl rfl ?_
  refine own_iloadN K own_d6_27 rfl ?_
  refine own_iload K own_d6_28 rfl ?_
  refine own_i2b K own_d6_30 ?_
  refine own_topI (x' := (own_by c1)) (rfl) ?_
  refine own_bastore K own_d6_31 H2 (i := 0) rfl (q := 1) (by decide) (own_le rfl) ?_
  intro h3 H4
  rw [own_nby] at H4
  replace H4 : own_H Z h3 (os) ((y, .byte, "[B", [(.int (own_by c0)), (.int (own_by c1))]) :: (x, .char, "[C", [(.int c0), (.int c1)]) :: as) := H4
  refine own_iinc K own_d6_32 rfl (y := (2 : Int32)) (by decide) (Ls' := #[.val (.ref x), .val (.int (2 : Int32)), .val (.ref y), .val (.int (1 : Int32)), .val (.int (2 : Int32)), .val (.int (1 : Int32)), .val (.int c1)]) rfl ?_
  refine own_iinc K own_d6_35 rfl (y := (2 : Int32)) (by decide) (Ls' := #[.val (.ref x), .val (.int (2 : Int32)), .val (.ref y), .val (.int (2 : Int32)), .val (.int (2 : Int32)), .val (.int (1 : Int32)), .val (.int c1)]) rfl ?_
  refine own_iinc K own_d6_38 rfl (y := (2 : Int32)) (by decide) (Ls' := #[.val (.ref x), .val (.int (2 : Int32)), .val (.ref y), .val (.int (2 : Int32)), .val (.int (2 : Int32)), .val (.int (2 : Int32)), .val (.int c1)]) rfl ?_
  refine own_goto K own_d6_41 ?_
  refine own_iload K own_d6_3 rfl ?_
  refine own_iload K own_d6_5 rfl ?_
  refine own_icmpge K own_d6_7 (fun _ => ?_) (fun q => absurd (by decide) q)
  refine own_iload K own_d6_44 rfl ?_
  exact own_retI K own_d6_46 (by decide) (by decide) (⟨rfl, H4⟩)
set_option maxRecDepth 65536 in
set_option maxHeartbeats 40000000 in
theorem own_cmpA2_ef (m : MethodId) (x0 : Addr) (x1 : Int32) (x2 : Int32) : entryFrame m #[(.ref x0), (.int x1), (.int x2)] 6 = mkF m 0 #[.val (.ref x0), .val (.int x1), .val (.int x2), .unset, .unset, .unset] [] := by first | (simp [entryFrame, mkF, argsToLocals, Value.category]; done) | rfl
set_option maxRecDepth 65536 in
set_option maxHeartbeats 40000000 in
theorem own_cmpA2 {l : Launch} {Z : State} {a0 : Array Value} (hw : own_Z Z a0) {h : Heap} {os : List own_O} {as : List own_A} {x : Addr} {c0 c1 : Int32} (H : own_H Z h os ((x, .char, "[C", [(.int c0), (.int c1)]) :: as)) (l0 : 0 ≤ c0.toInt) (u0 : c0.toInt ≤ 255) (l1 : 0 ≤ c1.toInt) (u1 : c1.toInt ≤ 255) : own_Met false l Z (⟨"java/lang/StringUTF16", "compress", "([CII)[B"⟩ : MethodName) jdk_52_method_16_code 6 (some (.array .byte)) [] ({ frames := 1, cells := 1, slots := 2, locals := 18 } : Room) #[(.ref x), (.int (0 : Int32)), (.int (2 : Int32))] h (fun v h' => ∃ y, v = some (.ref y) ∧ own_H Z h' os ((y, .byte, "[B", [(.int (own_by c0)), (.int (own_by c1))]) :: (x, .char, "[C", [(.int c0), (.int c1)]) :: as)) := by
  refine own_met (by first | exact plainFor_of_name (by decide +kernel) | decide +kernel) ?_
  intro p e s m below meth c K
  refine own_cast (own_cmpA2_ef m _ _ _) ?_
  refine own_iloadN K own_d7_0 rfl ?_
  refine own_newarray K own_d7_1 (ty := .byte) rfl (own_w55 hw) H (q := 2) (by decide) (ad := "[B") (by decide +kernel) (vs := [(.int (0 : Int32)), (.int (0 : Int32))]) rfl (by decide) (by decide) (by decide) ?_
  intro h1 a3 H2
  replace H2 : own_H Z h1 (os) ((a3, .byte, "[B", [(.int (0 : Int32)), (.int (0 : Int32))]) :: (x, .char, "[C", [(.int c0), (.int c1)]) :: as) := H2
  refine own_astoreN K own_d7_3 rfl (Ls' := #[.val (.ref x), .val (.int (0 : Int32)), .val (.int (2 : Int32)), .val (.ref a3), .unset, .unset]) rfl ?_
  refine own_aloadN K own_d7_4 rfl rfl ?_
  refine own_iloadN K own_d7_5 rfl ?_
  refine own_aloadN K own_d7_6 rfl rfl ?_
  refine own_iconst K own_d7_7 (v := (0 : Int32)) rfl ?_
  refine own_iloadN K own_d7_8 rfl ?_
  refine own_static K own_d7_9 (own_w56 hw) (own_w57 hw) (own_w53 hw) (own_w58 hw) (argsL := [(.ref x), (.int (0 : Int32)), (.ref a3), (.int (0 : Int32)), (.int (2 : Int32))]) (rest := []) (own_cmpB2 hw H2 l0 u0 l1 u1) own_pd2 rfl rfl rfl (by decide) (W := 0) (Nat.le_of_eq rfl) (by decide) (by decide) (by decide) (by decide) ?_
  intro v6 h4 q5
  obtain ⟨rfl, H7⟩ := q5
  replace H7 : own_H Z h4 (os) ((a3, .byte, "[B", [(.int (own_by c0)), (.int (own_by c1))]) :: (x, .char, "[C", [(.int c0), (.int c1)]) :: as) := H7
  refine own_istore K own_d7_12 (Ls' := #[.val (.ref x), .val (.int (0 : Int32)), .val (.int (2 : Int32)), .val (.ref a3), .val (.int (2 : Int32)), .unset]) rfl ?_
  refine own_iload K own_d7_14 rfl ?_
  refine own_iloadN K own_d7_16 rfl ?_
  refine own_icmpeq K own_d7_17 (fun _ => ?_) (fun q => absurd (by decide) q)
  refine own_aloadN K own_d7_57 rfl rfl ?_
  exact own_retA K rfl rfl own_d7_58 (by decide) (by decide) (⟨_, rfl, H7⟩)
set_option maxRecDepth 65536 in
set_option maxHeartbeats 40000000 in
theorem own_cfa2_ef (m : MethodId) (x0 : Addr) (x1 : Int32) : entryFrame m #[(.ref x0), (.int x1)] 2 = mkF m 0 #[.val (.ref x0), .val (.int x1)] [] := by first | (simp [entryFrame, mkF, argsToLocals, Value.category]; done) | rfl
set_option maxRecDepth 65536 in
set_option maxHeartbeats 40000000 in
theorem own_cfa2 {l : Launch} {Z : State} {a0 : Array Value} (hw : own_Z Z a0) {h : Heap} {os : List own_O} {as : List own_A} {y : Addr} {c0 c1 : Int32} (H : own_H Z h os ((y, .byte, "[B", [(.int (own_by c0)), (.int (own_by c1))]) :: as)) : own_Met false l Z (⟨"java/lang/StringUTF16", "coderFromArrayLen", "([BI)B"⟩ : MethodName) jdk_52_method_15_code 2 (some .byte) [] ({ frames := 0, cells := 0, slots := 0, locals := 0 } : Room) #[(.ref y), (.int (2 : Int32))] h (fun v h' => v = some (.int (0 : Int32)) ∧ h = h') := by
  refine own_met (by first | exact plainFor_of_name (by decide +kernel) | decide +kernel) ?_
  intro p e s m below meth c K
  refine own_cast (own_cfa2_ef m _ _) ?_
  refine own_iloadN K own_d8_0 rfl ?_
  refine own_aloadN K own_d8_1 rfl rfl ?_
  refine own_arraylength K own_d8_2 H (i := 0) rfl (N := (2 : Int32)) (rfl) ?_
  refine own_isub K own_d8_3 ?_
  refine own_topI (x' := (0 : Int32)) (by decide) ?_
  refine own_bipush K own_d8_4 (v := (31 : Int32)) rfl ?_
  refine own_iushr K own_d8_6 ?_
  refine own_topI (x' := (0 : Int32)) (by decide) ?_
  refine own_i2b K own_d8_7 ?_
  refine own_topI (x' := (0 : Int32)) (by decide) ?_
  exact own_retBy K (rfl) own_d8_8 (by decide) (by decide) (⟨rfl, rfl⟩)
set_option maxRecDepth 65536 in
set_option maxHeartbeats 40000000 in
theorem own_initD2_ef (m : MethodId) (x0 : Addr) (x1 : Addr) (x2 : Int32) (x3 : Int32) : entryFrame m #[(.ref x0), (.ref x1), (.int x2), (.int x3), .null] 6 = mkF m 0 #[.val (.ref x0), .val (.ref x1), .val (.int x2), .val (.int x3), .val .null, .unset] [] := by first | (simp [entryFrame, mkF, argsToLocals, Value.category]; done) | rfl
set_option maxRecDepth 65536 in
set_option maxHeartbeats 40000000 in
theorem own_initD2 {l : Launch} {Z : State} {a0 : Array Value} (hw : own_Z Z a0) {h : Heap} {os : List own_O} {as : List own_A} {a x : Addr} {cs : Int32} {c0 c1 : Int32} (hC : cs ≠ 0 ∧ Sta Z Z.heap "java/lang/String" "COMPACT_STRINGS" "Z" (.int cs)) (H : own_H Z h (own_ST a .null (.int (0 : Int32)) :: os) ((x, .char, "[C", [(.int c0), (.int c1)]) :: as)) (l0 : 0 ≤ c0.toInt) (u0 : c0.toInt ≤ 255) (l1 : 0 ≤ c1.toInt) (u1 : c1.toInt ≤ 255) : own_Met false l Z (⟨"java/lang/String", "<init>", "([CIILjava/lang/Void;)V"⟩ : MethodName) jdk_42_method_149_code 6 none [] ({ frames := 2, cells := 1, slots := 2, locals := 35 } : Room) #[(.ref a), (.ref x), (.int (0 : Int32)), (.int (2 : Int32)), .null] h (fun v h' => v = none ∧ ∃ y, own_H Z h' (own_ST a (.ref y) (.int (0 : Int32)) :: os) ((y, .byte, "[B", [(.int (own_by c0)), (.int (own_by c1))]) :: (x, .char, "[C", [(.int c0), (.int c1)]) :: as)) := by
  refine own_met (by first | exact plainFor_of_name (by decide +kernel) | decide +kernel) ?_
  intro p e s m below meth c K
  refine own_cast (own_initD2_ef m _ _ _ _) ?_
  refine own_aloadN K own_d9_0 rfl rfl ?_
  refine own_initO K own_d9_1 (own_w49 hw) (own_w7 hw) (own_w8 hw) rfl (by decide) (W := 0) (Nat.le_of_eq rfl) (by decide) ?_
  refine own_iloadN K own_d9_4 rfl ?_
  refine own_ifne K own_d9_5 (fun _ => ?_) (fun q => absurd (by decide) q)
  refine own_getstatic K own_d9_27 (own_w50 hw) Via.refl (v := (.int cs)) (Sta.ext H.1 hC.2) ?_
  refine own_ifeq K own_d9_30 (fun q => absurd q (hC.1)) (fun _ => ?_)
  refine own_aloadN K own_d9_33 rfl rfl ?_
  refine own_iloadN K own_d9_34 rfl ?_
  refine own_iloadN K own_d9_35 rfl ?_
  refine own_static K own_d9_36 (own_w51 hw) (own_w52 hw) (own_w53 hw) (own_w54 hw) (argsL := [(.ref x), (.int (0 : Int32)), (.int (2 : Int32))]) (rest := []) (own_cmpA2 hw H l0 u0 l1 u1) own_pd3 rfl rfl rfl (by decide) (W := 0) (Nat.le_of_eq rfl) (by decide) (by decide) (by decide) (by decide) ?_
  intro v3 h1 q2
  obtain ⟨y5, rfl, H4⟩ := q2
  replace H4 : own_H Z h1 (own_ST a .null (.int (0 : Int32)) :: os) ((y5, .byte, "[B", [(.int (own_by c0)), (.int (own_by c1))]) :: (x, .char, "[C", [(.int c0), (.int c1)]) :: as) := H4
  refine own_astore K own_d9_39 rfl (Ls' := #[.val (.ref a), .val (.ref x), .val (.int (0 : Int32)), .val (.int (2 : Int32)), .val .null, .val (.ref y5)]) rfl ?_
  refine own_aloadN K own_d9_41 rfl rfl ?_
  refine own_aload K own_d9_42 rfl rfl ?_
  refine own_iloadN K own_d9_44 rfl ?_
  refine own_static K own_d9_45 (own_w59 hw) (own_w60 hw) (own_w53 hw) (own_w61 hw) (argsL := [(.ref y5), (.int (2 : Int32))]) (rest := [(.ref a)]) (own_cfa2 hw H4) own_pd4 rfl rfl rfl (by decide) (W := 1) (Nat.le_of_eq rfl) (by decide) (by decide) (by decide) (by decide) ?_
  intro v8 h6 q7
  obtain ⟨rfl, rfl⟩ := q7
  refine own_putfield K own_d9_48 (host := "") (Or.inl (own_w62 hw)) Via.refl H4 (j := 0) rfl (q := 1) rfl (Or.inr ⟨(own_w63 hw), rfl, rfl⟩) (own_w40 hw) (ty := .byte) (by decide +kernel) (rfl) rfl ?_
  intro h9 H10
  replace H10 : own_H Z h9 (own_ST a .null (.int (0 : Int32)) :: os) ((y5, .byte, "[B", [(.int (own_by c0)), (.int (own_by c1))]) :: (x, .char, "[C", [(.int c0), (.int c1)]) :: as) := H10
  refine own_aloadN K own_d9_51 rfl rfl ?_
  refine own_aload K own_d9_52 rfl rfl ?_
  refine own_putfield K own_d9_54 (host := "") (Or.inl (own_w64 hw)) Via.refl H10 (j := 0) rfl (q := 0) rfl (Or.inr ⟨(own_w65 hw), rfl, rfl⟩) (own_w40 hw) (ty := (.array .byte)) (by decide +kernel) (rfl) rfl ?_
  intro h11 H12
  replace H12 : own_H Z h11 (own_ST a (.ref y5) (.int (0 : Int32)) :: os) ((y5, .byte, "[B", [(.int (own_by c0)), (.int (own_by c1))]) :: (x, .char, "[C", [(.int c0), (.int c1)]) :: as) := H12
  exact own_retV K own_d9_57 (by decide) (by decide) (⟨rfl, _, H12⟩)
set_option maxRecDepth 65536 in
set_option maxHeartbeats 40000000 in
theorem own_initS2_ef (m : MethodId) (x0 : Addr) (x1 : Addr) : entryFrame m #[(.ref x0), (.ref x1)] 2 = mkF m 0 #[.val (.ref x0), .val (.ref x1)] [] := by first | (simp [entryFrame, mkF, argsToLocals, Value.category]; done) | rfl
set_option maxRecDepth 65536 in
set_option maxHeartbeats 40000000 in
theorem own_initS2 {l : Launch} {Z : State} {a0 : Array Value} (hw : own_Z Z a0) {h : Heap} {os : List own_O} {as : List own_A} {a x : Addr} {cs : Int32} {c0 c1 : Int32} (hC : cs ≠ 0 ∧ Sta Z Z.heap "java/lang/String" "COMPACT_STRINGS" "Z" (.int cs)) (H : own_H Z h (own_ST a .null (.int (0 : Int32)) :: os) ((x, .char, "[C", [(.int c0), (.int c1)]) :: as)) (l0 : 0 ≤ c0.toInt) (u0 : c0.toInt ≤ 255) (l1 : 0 ≤ c1.toInt) (u1 : c1.toInt ≤ 255) : own_Met false l Z (⟨"java/lang/String", "<init>", "([C)V"⟩ : MethodName) jdk_42_method_3_code 2 none [] ({ frames := 3, cells := 1, slots := 2, locals := 52 } : Room) #[(.ref a), (.ref x)] h (fun v h' => v = none ∧ ∃ y, own_H Z h' (own_ST a (.ref y) (.int (0 : Int32)) :: os) ((y, .byte, "[B", [(.int (own_by c0)), (.int (own_by c1))]) :: (x, .char, "[C", [(.int c0), (.int c1)]) :: as)) := by
  refine own_met (by first | exact plainFor_of_name (by decide +kernel) | decide +kernel) ?_
  intro p e s m below meth c K
  refine own_cast (own_initS2_ef m _ _) ?_
  refine own_aloadN K own_d10_0 rfl rfl ?_
  refine own_aloadN K own_d10_1 rfl rfl ?_
  refine own_iconst K own_d10_2 (v := (0 : Int32)) rfl ?_
  refine own_aloadN K own_d10_3 rfl rfl ?_
  refine own_arraylength K own_d10_4 H (i := 0) rfl (N := (2 : Int32)) (rfl) ?_
  refine own_aconstNull K own_d10_5 ?_
  refine own_special K own_d10_6 rfl (own_w45 hw) (own_w46 hw) (own_w41 hw) (own_w48 hw) (a := a) (argsL := [(.ref x), (.int (0 : Int32)), (.int (2 : Int32)), .null]) (rest := []) (own_initD2 hw hC H l0 u0 l1 u1) own_pd5 rfl rfl rfl (by decide) (W := 0) (Nat.le_of_eq rfl) (by decide) (by decide) (by decide) (by decide) ?_
  intro v3 h1 q2
  obtain ⟨rfl, y5, H4⟩ := q2
  replace H4 : own_H Z h1 (own_ST a (.ref y5) (.int (0 : Int32)) :: os) ((y5, .byte, "[B", [(.int (own_by c0)), (.int (own_by c1))]) :: (x, .char, "[C", [(.int c0), (.int c1)]) :: as) := H4
  exact own_retV K own_d10_9 (by decide) (by decide) (⟨rfl, _, H4⟩)
set_option maxRecDepth 65536 in
set_option maxHeartbeats 40000000 in
theorem own_cmpB3_ef (m : MethodId) (x0 : Addr) (x1 : Int32) (x2 : Addr) (x3 : Int32) (x4 : Int32) : entryFrame m #[(.ref x0), (.int x1), (.ref x2), (.int x3), (.int x4)] 7 = mkF m 0 #[.val (.ref x0), .val (.int x1), .val (.ref x2), .val (.int x3), .val (.int x4), .unset, .unset] [] := by first | (simp [entryFrame, mkF, argsToLocals, Value.category]; done) | rfl
set_option maxRecDepth 65536 in
set_option maxHeartbeats 40000000 in
theorem own_cmpB3 {l : Launch} {Z : State} {a0 : Array Value} (hw : own_Z Z a0) {h : Heap} {os : List own_O} {as : List own_A} {x y : Addr} {c0 c1 c2 : Int32} (H : own_H Z h os ((y, .byte, "[B", [(.int (0 : Int32)), (.int (0 : Int32)), (.int (0 : Int32))]) :: (x, .char, "[C", [(.int c0), (.int c1), (.int c2)]) :: as)) (l0 : 0 ≤ c0.toInt) (u0 : c0.toInt ≤ 255) (l1 : 0 ≤ c1.toInt) (u1 : c1.toInt ≤ 255) (l2 : 0 ≤ c2.toInt) (u2 : c2.toInt ≤ 255) : own_Met false l Z (⟨"java/lang/StringUTF16", "compress", "([CI[BII)I"⟩ : MethodName) jdk_52_method_21_code 7 (some .int) [] ({ frames := 0, cells := 0, slots := 0, locals := 0 } : Room) #[(.ref x), (.int (0 : Int32)), (.ref y), (.int (0 : Int32)), (.int (3 : Int32))] h (fun v h' => v = some (.int (3 : Int32)) ∧ own_H Z h' os ((y, .byte, "[B", [(.int (own_by c0)), (.int (own_by c1)), (.int (own_by c2))]) :: (x, .char, "[C", [(.int c0), (.int c1), (.int c2)]) :: as)) := by
  refine own_met (by first | exact plainFor_of_name (by decide +kernel) | decide +kernel) ?_
  intro p e s m below meth c K
  refine own_cast (own_cmpB3_ef m _ _ _ _ _) ?_
  refine own_iconst K own_d6_0 (v := (0 : Int32)) rfl ?_
  refine own_istore K own_d6_1 (Ls' := #[.val (.ref x), .val (.int (0 : Int32)), .val (.ref y), .val (.int (0 : Int32)), .val (.int (3 : Int32)), .val (.int (0 : Int32)), .unset]) rfl ?_
  refine own_iload K own_d6_3 rfl ?_
  refine own_iload K own_d6_5 rfl ?_
  refine own_icmpge K own_d6_7 (fun q => absurd q (by decide)) (fun _ => ?_)
  refine own_aloadN K own_d6_10 rfl rfl ?_
  refine own_iloadN K own_d6_11 rfl ?_
  refine own_caload K own_d6_12 H (i := 1) rfl (q := 0) (by decide) (rfl) ?_
  refine own_istore K own_d6_13 (Ls' := #[.val (.ref x), .val (.int (0 : Int32)), .val (.ref y), .val (.int (0 : Int32)), .val (.int (3 : Int32)), .val (.int (0 : Int32)), .val (.int c0)]) rfl ?_
  refine own_iload K own_d6_15 rfl ?_
  refine own_sipush K own_d6_17 (v := (255 : Int32)) rfl ?_
  refine own_icmple K own_d6_20 (fun _ => ?_) (fun q => absurd (own_le255 u0) q)
  refine own_aloadN K own_d6_26 rfl rfl ?_
  refine own_iloadN K own_d6_27 rfl ?_
  refine own_iload K own_d6_28 rfl ?_
  refine own_i2b K own_d6_30 ?_
  refine own_topI (x' := (own_by c0)) (rfl) ?_
  refine own_bastore K own_d6_31 H (i := 0) rfl (q := 0) (by decide) (own_le rfl) ?_
  intro h1 H2
  rw [own_nby] at H2
  replace H2 : own_H Z h1 (os) ((y, .byte, "[B", [(.int (own_by c0)), (.int (0 : Int32)), (.int (0 : Int32))]) :: (x, .char, "[C", [(.int c0), (.int c1), (.int c2)]) :: as) := H2
  refine own_iinc K own_d6_32 rfl (y := (1 : Int32)) (by decide) (Ls' := #[.val (.ref x), .val (.int (1 : Int32)), .val (.ref y), .val (.int (0 : Int32)), .val (.int (3 : Int32)), .val (.int (0 : Int32)), .val (.int c0)]) rfl ?_
  refine own_iinc K own_d6_35 rfl (y := (1 : Int32)) (by decide) (Ls' := #[.val (.ref x), .val (.int (1 : Int32)), .val (.ref y), .val (.int (1 : Int32)), .val (.int (3 : Int32)), .val (.int (0 : Int32)), .val (.int c0)]) rfl ?_
  refine own_iinc K own_d6_38 rfl (y := (1 : Int32)) (by decide) (Ls' := #[.val (.ref x), .val (.int (1 : Int32)), .val (.ref y), .val (.int (1 : Int32)), .val (.int (3 : Int32)), .val (.int (1 : Int32)), .val (.int c0)]) rfl ?_
  refine own_goto K own_d6_41 ?_
  refine own_iload K own_d6_3 rfl ?_
  refine own_iload K own_d6_5 rfl ?_
  refine own_icmpge K own_d6_7 (fun q => absurd q (by decide)) (fun _ => ?_)
  refine own_aloadN K own_d6_10 rfl rfl ?_
  refine own_iloadN K own_d6_11 rfl ?_
  refine own_caload K own_d6_12 H2 (i := 1) rfl (q := 1) (by decide) (rfl) ?_
  refine own_istore K own_d6_13 (Ls' := #[.val (.ref x), .val (.int (1 : Int32)), .val (.ref y), .val (.int (1 : Int32)), .val (.int (3 : Int32)), .val (.int (1 : Int32)), .val (.int c1)]) rfl ?_
  refine own_iload K own_d6_15 rfl ?_
  refine own_sipush K own_d6_17 (v := (255 : Int32)) rfl ?_
  refine own_icmple K own_d6_20 (fun _ => ?_) (fun q => absurd (own_le255 u1) q)
  refine own_aloadN K own_d6_26 rfl rfl ?_
  refine own_iloadN K own_d6_27 rfl ?_
  refine own_iload K own_d6_28 rfl ?_
  refine own_i2b K own_d6_30 ?_
  refine own_topI (x' := (own_by c1)) (rfl) ?_
  refine own_bastore K own_d6_31 H2 (i := 0) rfl (q := 1) (by decide) (own_le rfl) ?_
  intro h3 H4
  rw [own_nby] at H4
  replace H4 : own_H Z h3 (os) ((y, .byte, "[B", [(.int (own_by c0)), (.int (own_by c1)), (.int (0 : Int32))]) :: (x, .char, "[C", [(.int c0), (.int c1), (.int c2)]) :: as) := H4
  refine own_iinc K own_d6_32 rfl (y := (2 : Int32)) (by decide) (Ls' := #[.val (.ref x), .val (.int (2 : Int32)), .val (.ref y), .val (.int (1 : Int32)), .val (.int (3 : Int32)), .val (.int (1 : Int32)), .val (.int c1)]) rfl ?_
  refine own_iinc K own_d6_35 rfl (y := (2 : Int32)) (by decide) (Ls' := #[.val (.ref x), .val (.int (2 : Int32)), .val (.ref y), .val (.int (2 : Int32)), .val (.int (3 : Int32)), .val (.int (1 : Int32)), .val (.int c1)]) rfl ?_
  refine own_iinc K own_d6_38 rfl (y := (2 : Int32)) (by decide) (Ls' := #[.val (.ref x), .val (.int (2 : Int32)), .val (.ref y), .val (.int (2 : Int32)), .val (.int (3 : Int32)), .val (.int (2 : Int32)), .val (.int c1)]) rfl ?_
  refine own_goto K own_d6_41 ?_
  refine own_iload K own_d6_3 rfl ?_
  refine own_iload K own_d6_5 rfl ?_
  refine own_icmpge K own_d6_7 (fun q => absurd q (by decide)) (fun _ => ?_)
  refine own_aloadN K own_d6_10 rfl rfl ?_
  refine own_iloadN K own_d6_11 rfl ?_
  refine own_caload K own_d6_12 H4 (i := 1) rfl (q := 2) (by decide) (rfl) ?_
  refine own_istore K own_d6_13 (Ls' := #[.val (.ref x), .val (.int (2 : Int32)), .val (.ref y), .val (.int (2 : Int32)), .val (.int (3 : Int32)), .val (.int (2 : Int32)), .val (.int c2)]) rfl ?_
  refine own_iload K own_d6_15 rfl ?_
  refine own_sipush K own_d6_17 (v := (255 : Int32)) rfl ?_
  refine own_icmple K own_d6_20 (fun _ => ?_) (fun q => absurd (own_le255 u2) q)
  refine own_aloadN K own_d6_26 rfl rfl ?_
  refine own_iloadN K own_d6_27 rfl ?_
  refine own_iload K own_d6_28 rfl ?_
  refine own_i2b K own_d6_30 ?_
  refine own_topI (x' := (own_by c2)) (rfl) ?_
  refine own_bastore K own_d6_31 H4 (i := 0) rfl (q := 2) (by decide) (own_le rfl) ?_
  intro h5 H6
  rw [own_nby] at H6
  replace H6 : own_H Z h5 (os) ((y, .byte, "[B", [(.int (own_by c0)), (.int (own_by c1)), (.int (own_by c2))]) :: (x, .char, "[C", [(.int c0), (.int c1), (.int c2)]) :: as) := H6
  refine own_iinc K own_d6_32 rfl (y := (3 : Int32)) (by decide) (Ls' := #[.val (.ref x), .val (.int (3 : Int32)), .val (.ref y), .val (.int (2 : Int32)), .val (.int (3 : Int32)), .val (.int (2 : Int32)), .val (.int c2)]) rfl ?_
  refine own_iinc K own_d6_35 rfl (y := (3 : Int32)) (by decide) (Ls' := #[.val (.ref x), .val (.int (3 : Int32)), .val (.ref y), .val (.int (3 : Int32)), .val (.int (3 : Int32)), .val (.int (2 : Int32)), .val (.int c2)]) rfl ?_
  refine own_iinc K own_d6_38 rfl (y := (3 : Int32)) (by decide) (Ls' := #[.val (.ref x), .val (.int (3 : Int32)), .val (.ref y), .val (.int (3 : Int32)), .val (.int (3 : Int32)), .val (.int (3 : Int32)), .val (.int c2)]) rfl ?_
  refine own_goto K own_d6_41 ?_
  refine own_iload K own_d6_3 rfl ?_
  refine own_iload K own_d6_5 rfl ?_
  refine own_icmpge K own_d6_7 (fun _ => ?_) (fun q => absurd (by decide) q)
  refine own_iload K own_d6_44 rfl ?_
  exact own_retI K own_d6_46 (by decide) (by decide) (⟨rfl, H6⟩)
set_option maxRecDepth 65536 in
set_option maxHeartbeats 40000000 in
theorem own_cmpA3_ef (m : MethodId) (x0 : Addr) (x1 : Int32) (x2 : Int32) : entryFrame m #[(.ref x0), (.int x1), (.int x2)] 6 = mkF m 0 #[.val (.ref x0), .val (.int x1), .val (.int x2), .unset, .unset, .unset] [] := by first | (simp [entryFrame, mkF, argsToLocals, Value.category]; done) | rfl
set_option maxRecDepth 65536 in
set_option maxHeartbeats 40000000 in
theorem own_cmpA3 {l : Launch} {Z : State} {a0 : Array Value} (hw : own_Z Z a0) {h : Heap} {os : List own_O} {as : List own_A} {x : Addr} {c0 c1 c2 : Int32} (H : own_H Z h os ((x, .char, "[C", [(.int c0), (.int c1), (.int c2)]) :: as)) (l0 : 0 ≤ c0.toInt) (u0 : c0.toInt ≤ 255) (l1 : 0 ≤ c1.toInt) (u1 : c1.toInt ≤ 255) (l2 : 0 ≤ c2.toInt) (u2 : c2.toInt ≤ 255) : own_Met false l Z (⟨"java/lang/StringUTF16", "compress", "([CII)[B"⟩ : MethodName) jdk_52_method_16_code 6 (some (.array .byte)) [] ({ frames := 1, cells := 1, slots := 3, locals := 18 } : Room) #[(.ref x), (.int (0 : Int32)), (.int (3 : Int32))] h (fun v h' => ∃ y, v = some (.ref y) ∧ own_H Z h' os ((y, .byte, "[B", [(.int (own_by c0)), (.int (own_by c1)), (.int (own_by c2))]) :: (x, .char, "[C", [(.int c0), (.int c1), (.int c2)]) :: as)) := by
  refine own_met (by first | exact plainFor_of_name (by decide +kernel) | decide +kernel) ?_
  intro p e s m below meth c K
  refine own_cast (own_cmpA3_ef m _ _ _) ?_
  refine own_iloadN K own_d7_0 rfl ?_
  refine own_newarray K own_d7_1 (ty := .byte) rfl (own_w55 hw) H (q := 3) (by decide) (ad := "[B") (by decide +kernel) (vs := [(.int (0 : Int32)), (.int (0 : Int32)), (.int (0 : Int32))]) rfl (by decide) (by decide) (by decide) ?_
  intro h1 a3 H2
  replace H2 : own_H Z h1 (os) ((a3, .byte, "[B", [(.int (0 : Int32)), (.int (0 : Int32)), (.int (0 : Int32))]) :: (x, .char, "[C", [(.int c0), (.int c1), (.int c2)]) :: as) := H2
  refine own_astoreN K own_d7_3 rfl (Ls' := #[.val (.ref x), .val (.int (0 : Int32)), .val (.int (3 : Int32)), .val (.ref a3), .unset, .unset]) rfl ?_
  refine own_aloadN K own_d7_4 rfl rfl ?_
  refine own_iloadN K own_d7_5 rfl ?_
  refine own_aloadN K own_d7_6 rfl rfl ?_
  refine own_iconst K own_d7_7 (v := (0 : Int32)) rfl ?_
  refine own_iloadN K own_d7_8 rfl ?_
  refine own_static K own_d7_9 (own_w56 hw) (own_w57 hw) (own_w53 hw) (own_w58 hw) (argsL := [(.ref x), (.int (0 : Int32)), (.ref a3), (.int (0 : Int32)), (.int (3 : Int32))]) (rest := []) (own_cmpB3 hw H2 l0 u0 l1 u1 l2 u2) own_pd2 rfl rfl rfl (by decide) (W := 0) (Nat.le_of_eq rfl) (by decide) (by decide) (by decide) (by decide) ?_
  intro v6 h4 q5
  obtain ⟨rfl, H7⟩ := q5
  replace H7 : own_H Z h4 (os) ((a3, .byte, "[B", [(.int (own_by c0)), (.int (own_by c1)), (.int (own_by c2))]) :: (x, .char, "[C", [(.int c0), (.int c1), (.int c2)]) :: as) := H7
  refine own_istore K own_d7_12 (Ls' := #[.val (.ref x), .val (.int (0 : Int32)), .val (.int (3 : Int32)), .val (.ref a3), .val (.int (3 : Int32)), .unset]) rfl ?_
  refine own_iload K own_d7_14 rfl ?_
  refine own_iloadN K own_d7_16 rfl ?_
  refine own_icmpeq K own_d7_17 (fun _ => ?_) (fun q => absurd (by decide) q)
  refine own_aloadN K own_d7_57 rfl rfl ?_
  exact own_retA K rfl rfl own_d7_58 (by decide) (by decide) (⟨_, rfl, H7⟩)
set_option maxRecDepth 65536 in
set_option maxHeartbeats 40000000 in
theorem own_cfa3_ef (m : MethodId) (x0 : Addr) (x1 : Int32) : entryFrame m #[(.ref x0), (.int x1)] 2 = mkF m 0 #[.val (.ref x0), .val (.int x1)] [] := by first | (simp [entryFrame, mkF, argsToLocals, Value.category]; done) | rfl
set_option maxRecDepth 65536 in
set_option maxHeartbeats 40000000 in
theorem own_cfa3 {l : Launch} {Z : State} {a0 : Array Value} (hw : own_Z Z a0) {h : Heap} {os : List own_O} {as : List own_A} {y : Addr} {c0 c1 c2 : Int32} (H : own_H Z h os ((y, .byte, "[B", [(.int (own_by c0)), (.int (own_by c1)), (.int (own_by c2))]) :: as)) : own_Met false l Z (⟨"java/lang/StringUTF16", "coderFromArrayLen", "([BI)B"⟩ : MethodName) jdk_52_method_15_code 2 (some .byte) [] ({ frames := 0, cells := 0, slots := 0, locals := 0 } : Room) #[(.ref y), (.int (3 : Int32))] h (fun v h' => v = some (.int (0 : Int32)) ∧ h = h') := by
  refine own_met (by first | exact plainFor_of_name (by decide +kernel) | decide +kernel) ?_
  intro p e s m below meth c K
  refine own_cast (own_cfa3_ef m _ _) ?_
  refine own_iloadN K own_d8_0 rfl ?_
  refine own_aloadN K own_d8_1 rfl rfl ?_
  refine own_arraylength K own_d8_2 H (i := 0) rfl (N := (3 : Int32)) (rfl) ?_
  refine own_isub K own_d8_3 ?_
  refine own_topI (x' := (0 : Int32)) (by decide) ?_
  refine own_bipush K own_d8_4 (v := (31 : Int32)) rfl ?_
  refine own_iushr K own_d8_6 ?_
  refine own_topI (x' := (0 : Int32)) (by decide) ?_
  refine own_i2b K own_d8_7 ?_
  refine own_topI (x' := (0 : Int32)) (by decide) ?_
  exact own_retBy K (rfl) own_d8_8 (by decide) (by decide) (⟨rfl, rfl⟩)
set_option maxRecDepth 65536 in
set_option maxHeartbeats 40000000 in
theorem own_initD3_ef (m : MethodId) (x0 : Addr) (x1 : Addr) (x2 : Int32) (x3 : Int32) : entryFrame m #[(.ref x0), (.ref x1), (.int x2), (.int x3), .null] 6 = mkF m 0 #[.val (.ref x0), .val (.ref x1), .val (.int x2), .val (.int x3), .val .null, .unset] [] := by first | (simp [entryFrame, mkF, argsToLocals, Value.category]; done) | rfl
set_option maxRecDepth 65536 in
set_option maxHeartbeats 40000000 in
theorem own_initD3 {l : Launch} {Z : State} {a0 : Array Value} (hw : own_Z Z a0) {h : Heap} {os : List own_O} {as : List own_A} {a x : Addr} {cs : Int32} {c0 c1 c2 : Int32} (hC : cs ≠ 0 ∧ Sta Z Z.heap "java/lang/String" "COMPACT_STRINGS" "Z" (.int cs)) (H : own_H Z h (own_ST a .null (.int (0 : Int32)) :: os) ((x, .char, "[C", [(.int c0), (.int c1), (.int c2)]) :: as)) (l0 : 0 ≤ c0.toInt) (u0 : c0.toInt ≤ 255) (l1 : 0 ≤ c1.toInt) (u1 : c1.toInt ≤ 255) (l2 : 0 ≤ c2.toInt) (u2 : c2.toInt ≤ 255) : own_Met false l Z (⟨"java/lang/String", "<init>", "([CIILjava/lang/Void;)V"⟩ : MethodName) jdk_42_method_149_code 6 none [] ({ frames := 2, cells := 1, slots := 3, locals := 35 } : Room) #[(.ref a), (.ref x), (.int (0 : Int32)), (.int (3 : Int32)), .null] h (fun v h' => v = none ∧ ∃ y, own_H Z h' (own_ST a (.ref y) (.int (0 : Int32)) :: os) ((y, .byte, "[B", [(.int (own_by c0)), (.int (own_by c1)), (.int (own_by c2))]) :: (x, .char, "[C", [(.int c0), (.int c1), (.int c2)]) :: as)) := by
  refine own_met (by first | exact plainFor_of_name (by decide +kernel) | decide +kernel) ?_
  intro p e s m below meth c K
  refine own_cast (own_initD3_ef m _ _ _ _) ?_
  refine own_aloadN K own_d9_0 rfl rfl ?_
  refine own_initO K own_d9_1 (own_w49 hw) (own_w7 hw) (own_w8 hw) rfl (by decide) (W := 0) (Nat.le_of_eq rfl) (by decide) ?_
  refine own_iloadN K own_d9_4 rfl ?_
  refine own_ifne K own_d9_5 (fun _ => ?_) (fun q => absurd (by decide) q)
  refine own_getstatic K own_d9_27 (own_w50 hw) Via.refl (v := (.int cs)) (Sta.ext H.1 hC.2) ?_
  refine own_ifeq K own_d9_30 (fun q => absurd q (hC.1)) (fun _ => ?_)
  refine own_aloadN K own_d9_33 rfl rfl ?_
  refine own_iloadN K own_d9_34 rfl ?_
  refine own_iloadN K own_d9_35 rfl ?_
  refine own_static K own_d9_36 (own_w51 hw) (own_w52 hw) (own_w53 hw) (own_w54 hw) (argsL := [(.ref x), (.int (0 : Int32)), (.int (3 : Int32))]) (rest := []) (own_cmpA3 hw H l0 u0 l1 u1 l2 u2) own_pd3 rfl rfl rfl (by decide) (W := 0) (Nat.le_of_eq rfl) (by decide) (by decide) (by decide) (by decide) ?_
  intro v3 h1 q2
  obtain ⟨y5, rfl, H4⟩ := q2
  replace H4 : own_H Z h1 (own_ST a .null (.int (0 : Int32)) :: os) ((y5, .byte, "[B", [(.int (own_by c0)), (.int (own_by c1)), (.int (own_by c2))]) :: (x, .char, "[C", [(.int c0), (.int c1), (.int c2)]) :: as) := H4
  refine own_astore K own_d9_39 rfl (Ls' := #[.val (.ref a), .val (.ref x), .val (.int (0 : Int32)), .val (.int (3 : Int32)), .val .null, .val (.ref y5)]) rfl ?_
  refine own_aloadN K own_d9_41 rfl rfl ?_
  refine own_aload K own_d9_42 rfl rfl ?_
  refine own_iloadN K own_d9_44 rfl ?_
  refine own_static K own_d9_45 (own_w59 hw) (own_w60 hw) (own_w53 hw) (own_w61 hw) (argsL := [(.ref y5), (.int (3 : Int32))]) (rest := [(.ref a)]) (own_cfa3 hw H4) own_pd4 rfl rfl rfl (by decide) (W := 1) (Nat.le_of_eq rfl) (by decide) (by decide) (by decide) (by decide) ?_
  intro v8 h6 q7
  obtain ⟨rfl, rfl⟩ := q7
  refine own_putfield K own_d9_48 (host := "") (Or.inl (own_w62 hw)) Via.refl H4 (j := 0) rfl (q := 1) rfl (Or.inr ⟨(own_w63 hw), rfl, rfl⟩) (own_w40 hw) (ty := .byte) (by decide +kernel) (rfl) rfl ?_
  intro h9 H10
  replace H10 : own_H Z h9 (own_ST a .null (.int (0 : Int32)) :: os) ((y5, .byte, "[B", [(.int (own_by c0)), (.int (own_by c1)), (.int (own_by c2))]) :: (x, .char, "[C", [(.int c0), (.int c1), (.int c2)]) :: as) := H10
  refine own_aloadN K own_d9_51 rfl rfl ?_
  refine own_aload K own_d9_52 rfl rfl ?_
  refine own_putfield K own_d9_54 (host := "") (Or.inl (own_w64 hw)) Via.refl H10 (j := 0) rfl (q := 0) rfl (Or.inr ⟨(own_w65 hw), rfl, rfl⟩) (own_w40 hw) (ty := (.array .byte)) (by decide +kernel) (rfl) rfl ?_
  intro h11 H12
  replace H12 : own_H Z h11 (own_ST a (.ref y5) (.int (0 : Int32)) :: os) ((y5, .byte, "[B", [(.int (own_by c0)), (.int (own_by c1)), (.int (own_by c2))]) :: (x, .char, "[C", [(.int c0), (.int c1), (.int c2)]) :: as) := H12
  exact own_retV K own_d9_57 (by decide) (by decide) (⟨rfl, _, H12⟩)
set_option maxRecDepth 65536 in
set_option maxHeartbeats 40000000 in
theorem own_initS3_ef (m : MethodId) (x0 : Addr) (x1 : Addr) : entryFrame m #[(.ref x0), (.ref x1)] 2 = mkF m 0 #[.val (.ref x0), .val (.ref x1)] [] := by first | (simp [entryFrame, mkF, argsToLocals, Value.category]; done) | rfl
set_option maxRecDepth 65536 in
set_option maxHeartbeats 40000000 in
theorem own_initS3 {l : Launch} {Z : State} {a0 : Array Value} (hw : own_Z Z a0) {h : Heap} {os : List own_O} {as : List own_A} {a x : Addr} {cs : Int32} {c0 c1 c2 : Int32} (hC : cs ≠ 0 ∧ Sta Z Z.heap "java/lang/String" "COMPACT_STRINGS" "Z" (.int cs)) (H : own_H Z h (own_ST a .null (.int (0 : Int32)) :: os) ((x, .char, "[C", [(.int c0), (.int c1), (.int c2)]) :: as)) (l0 : 0 ≤ c0.toInt) (u0 : c0.toInt ≤ 255) (l1 : 0 ≤ c1.toInt) (u1 : c1.toInt ≤ 255) (l2 : 0 ≤ c2.toInt) (u2 : c2.toInt ≤ 255) : own_Met false l Z (⟨"java/lang/String", "<init>", "([C)V"⟩ : MethodName) jdk_42_method_3_code 2 none [] ({ frames := 3, cells := 1, slots := 3, locals := 52 } : Room) #[(.ref a), (.ref x)] h (fun v h' => v = none ∧ ∃ y, own_H Z h' (own_ST a (.ref y) (.int (0 : Int32)) :: os) ((y, .byte, "[B", [(.int (own_by c0)), (.int (own_by c1)), (.int (own_by c2))]) :: (x, .char, "[C", [(.int c0), (.int c1), (.int c2)]) :: as)) := by
  refine own_met (by first | exact plainFor_of_name (by decide +kernel) | decide +kernel) ?_
  intro p e s m below meth c K
  refine own_cast (own_initS3_ef m _ _) ?_
  refine own_aloadN K own_d10_0 rfl rfl ?_
  refine own_aloadN K own_d10_1 rfl rfl ?_
  refine own_iconst K own_d10_2 (v := (0 : Int32)) rfl ?_
  refine own_aloadN K own_d10_3 rfl rfl ?_
  refine own_arraylength K own_d10_4 H (i := 0) rfl (N := (3 : Int32)) (rfl) ?_
  refine own_aconstNull K own_d10_5 ?_
  refine own_special K own_d10_6 rfl (own_w45 hw) (own_w46 hw) (own_w41 hw) (own_w48 hw) (a := a) (argsL := [(.ref x), (.int (0 : Int32)), (.int (3 : Int32)), .null]) (rest := []) (own_initD3 hw hC H l0 u0 l1 u1 l2 u2) own_pd5 rfl rfl rfl (by decide) (W := 0) (Nat.le_of_eq rfl) (by decide) (by decide) (by decide) (by decide) ?_
  intro v3 h1 q2
  obtain ⟨rfl, y5, H4⟩ := q2
  replace H4 : own_H Z h1 (own_ST a (.ref y5) (.int (0 : Int32)) :: os) ((y5, .byte, "[B", [(.int (own_by c0)), (.int (own_by c1)), (.int (own_by c2))]) :: (x, .char, "[C", [(.int c0), (.int c1), (.int c2)]) :: as) := H4
  exact own_retV K own_d10_9 (by decide) (by decide) (⟨rfl, _, H4⟩)
set_option maxRecDepth 65536 in
set_option maxHeartbeats 40000000 in
theorem own_isl_ef (m : MethodId) (x0 : Addr) : entryFrame m #[(.ref x0)] 1 = mkF m 0 #[.val (.ref x0)] [] := by first | (simp [entryFrame, mkF, argsToLocals, Value.category]; done) | rfl
set_option maxRecDepth 65536 in
set_option maxHeartbeats 40000000 in
theorem own_isl {l : Launch} {Z : State} {a0 : Array Value} (hw : own_Z Z a0) {h : Heap} {os : List own_O} {as : List own_A} {a y : Addr} {cs : Int32} (hC : cs ≠ 0 ∧ Sta Z Z.heap "java/lang/String" "COMPACT_STRINGS" "Z" (.int cs)) (H : own_H Z h (own_ST a (.ref y) (.int (0 : Int32)) :: os) as) : own_Met false l Z (⟨"java/lang/String", "isLatin1", "()Z"⟩ : MethodName) jdk_42_method_154_code 1 (some .boolean) [] ({ frames := 0, cells := 0, slots := 0, locals := 0 } : Room) #[(.ref a)] h (fun v h' => v = some (.int (1 : Int32)) ∧ h = h') := by
  refine own_met (by first | exact plainFor_of_name (by decide +kernel) | decide +kernel) ?_
  intro p e s m below meth c K
  refine own_cast (own_isl_ef m _) ?_
  refine own_getstatic K own_d11_0 (own_w50 hw) Via.refl (v := (.int cs)) (Sta.ext H.1 hC.2) ?_
  refine own_ifeq K own_d11_3 (fun q => absurd q (hC.1)) (fun _ => ?_)
  refine own_aloadN K own_d11_6 rfl rfl ?_
  refine own_getfield K own_d11_7 (host := "") (Or.inl (own_w62 hw)) Via.refl H (j := 0) rfl (q := 1) rfl ?_
  refine own_ifne K own_d11_10 (fun q => absurd q (by decide)) (fun _ => ?_)
  refine own_iconst K own_d11_13 (v := (1 : Int32)) rfl ?_
  refine own_goto K own_d11_14 ?_
  exact own_retZ K (by first | exact Or.inl rfl | exact Or.inr rfl | decide) own_d11_18 (by decide) (by decide) (⟨rfl, rfl⟩)
set_option maxRecDepth 65536 in
set_option maxHeartbeats 40000000 in
theorem own_cod_ef (m : MethodId) (x0 : Addr) : entryFrame m #[(.ref x0)] 1 = mkF m 0 #[.val (.ref x0)] [] := by first | (simp [entryFrame, mkF, argsToLocals, Value.category]; done) | rfl
set_option maxRecDepth 65536 in
set_option maxHeartbeats 40000000 in
theorem own_cod {l : Launch} {Z : State} {a0 : Array Value} (hw : own_Z Z a0) {h : Heap} {os : List own_O} {as : List own_A} {a y : Addr} {cs : Int32} (hC : cs ≠ 0 ∧ Sta Z Z.heap "java/lang/String" "COMPACT_STRINGS" "Z" (.int cs)) (H : own_H Z h (own_ST a (.ref y) (.int (0 : Int32)) :: os) as) : own_Met false l Z (⟨"java/lang/String", "coder", "()B"⟩ : MethodName) jdk_42_method_152_code 1 (some .byte) [] ({ frames := 0, cells := 0, slots := 0, locals := 0 } : Room) #[(.ref a)] h (fun v h' => v = some (.int (0 : Int32)) ∧ h = h') := by
  refine own_met (by first | exact plainFor_of_name (by decide +kernel) | decide +kernel) ?_
  intro p e s m below meth c K
  refine own_cast (own_cod_ef m _) ?_
  refine own_getstatic K own_d12_0 (own_w50 hw) Via.refl (v := (.int cs)) (Sta.ext H.1 hC.2) ?_
  refine own_ifeq K own_d12_3 (fun q => absurd q (hC.1)) (fun _ => ?_)
  refine own_aloadN K own_d12_6 rfl rfl ?_
  refine own_getfield K own_d12_7 (host := "") (Or.inl (own_w62 hw)) Via.refl H (j := 0) rfl (q := 1) rfl ?_
  refine own_goto K own_d12_10 ?_
  exact own_retBy K (rfl) own_d12_14 (by decide) (by decide) (⟨rfl, rfl⟩)
set_option maxRecDepth 65536 in
set_option maxHeartbeats 40000000 in
theorem own_len1_ef (m : MethodId) (x0 : Addr) : entryFrame m #[(.ref x0)] 1 = mkF m 0 #[.val (.ref x0)] [] := by first | (simp [entryFrame, mkF, argsToLocals, Value.category]; done) | rfl
set_option maxRecDepth 65536 in
set_option maxHeartbeats 40000000 in
theorem own_len1 {l : Launch} {Z : State} {a0 : Array Value} (hw : own_Z Z a0) {h : Heap} {os : List own_O} {as : List own_A} {a y : Addr} {cs : Int32} {c0 : Int32} (hC : cs ≠ 0 ∧ Sta Z Z.heap "java/lang/String" "COMPACT_STRINGS" "Z" (.int cs)) (H : own_H Z h (own_ST a (.ref y) (.int (0 : Int32)) :: os) ((y, .byte, "[B", [(.int (own_by c0))]) :: as)) : own_Met false l Z (⟨"java/lang/String", "length", "()I"⟩ : MethodName) jdk_42_method_54_code 1 (some .int) [] ({ frames := 1, cells := 0, slots := 0, locals := 13 } : Room) #[(.ref a)] h (fun v h' => v = some (.int (1 : Int32)) ∧ h = h') := by
  refine own_met (by first | exact plainFor_of_name (by decide +kernel) | decide +kernel) ?_
  intro p e s m below meth c K
  refine own_cast (own_len1_ef m _) ?_
  refine own_aloadN K own_d13_0 rfl rfl ?_
  refine own_getfield K own_d13_1 (host := "") (Or.inl (own_w64 hw)) Via.refl H (j := 0) rfl (q := 0) rfl ?_
  refine own_arraylength K own_d13_4 H (i := 0) rfl (N := (1 : Int32)) (rfl) ?_
  refine own_aloadN K own_d13_5 rfl rfl ?_
  refine own_virtual K own_d13_6 (own_w106 hw) (own_w107 hw) (own_w109 hw) (own_w108 hw) (own_w41 hw) (own_w110 hw) (H.atO (i := 0) rfl) (a := a) (argsL := []) (rest := [(.int (1 : Int32))]) (own_cod hw hC H) own_pd6 rfl rfl rfl (by decide) (W := 1) (Nat.le_of_eq rfl) (by decide) (by decide) (by decide) (by decide) ?_
  intro v3 h1 q2
  obtain ⟨rfl, rfl⟩ := q2
  refine own_ishr K own_d13_9 ?_
  refine own_topI (x' := (1 : Int32)) (by decide) ?_
  exact own_retI K own_d13_10 (by decide) (by decide) (⟨rfl, rfl⟩)
set_option maxRecDepth 65536 in
set_option maxHeartbeats 40000000 in
theorem own_len2_ef (m : MethodId) (x0 : Addr) : entryFrame m #[(.ref x0)] 1 = mkF m 0 #[.val (.ref x0)] [] := by first | (simp [entryFrame, mkF, argsToLocals, Value.category]; done) | rfl
set_option maxRecDepth 65536 in
set_option maxHeartbeats 40000000 in
theorem own_len2 {l : Launch} {Z : State} {a0 : Array Value} (hw : own_Z Z a0) {h : Heap} {os : List own_O} {as : List own_A} {a y : Addr} {cs : Int32} {c0 c1 : Int32} (hC : cs ≠ 0 ∧ Sta Z Z.heap "java/lang/String" "COMPACT_STRINGS" "Z" (.int cs)) (H : own_H Z h (own_ST a (.ref y) (.int (0 : Int32)) :: os) ((y, .byte, "[B", [(.int (own_by c0)), (.int (own_by c1))]) :: as)) : own_Met false l Z (⟨"java/lang/String", "length", "()I"⟩ : MethodName) jdk_42_method_54_code 1 (some .int) [] ({ frames := 1, cells := 0, slots := 0, locals := 13 } : Room) #[(.ref a)] h (fun v h' => v = some (.int (2 : Int32)) ∧ h = h') := by
  refine own_met (by first | exact plainFor_of_name (by decide +kernel) | decide +kernel) ?_
  intro p e s m below meth c K
  refine own_cast (own_len2_ef m _) ?_
  refine own_aloadN K own_d13_0 rfl rfl ?_
  refine own_getfield K own_d13_1 (host := "") (Or.inl (own_w64 hw)) Via.refl H (j := 0) rfl (q := 0) rfl ?_
  refine own_arraylength K own_d13_4 H (i := 0) rfl (N := (2 : Int32)) (rfl) ?_
  refine own_aloadN K own_d13_5 rfl rfl ?_
  refine own_virtual K own_d13_6 (own_w106 hw) (own_w107 hw) (own_w109 hw) (own_w108 hw) (own_w41 hw) (own_w110 hw) (H.atO (i := 0) rfl) (a := a) (argsL := []) (rest := [(.int (2 : Int32))]) (own_cod hw hC H) own_pd6 rfl rfl rfl (by decide) (W := 1) (Nat.le_of_eq rfl) (by decide) (by decide) (by decide) (by decide) ?_
  intro v3 h1 q2
  obtain ⟨rfl, rfl⟩ := q2
  refine own_ishr K own_d13_9 ?_
  refine own_topI (x' := (2 : Int32)) (by decide) ?_
  exact own_retI K own_d13_10 (by decide) (by decide) (⟨rfl, rfl⟩)
set_option maxRecDepth 65536 in
set_option maxHeartbeats 40000000 in
theorem own_len3_ef (m : MethodId) (x0 : Addr) : entryFrame m #[(.ref x0)] 1 = mkF m 0 #[.val (.ref x0)] [] := by first | (simp [entryFrame, mkF, argsToLocals, Value.category]; done) | rfl
set_option maxRecDepth 65536 in
set_option maxHeartbeats 40000000 in
theorem own_len3 {l : Launch} {Z : State} {a0 : Array Value} (hw : own_Z Z a0) {h : Heap} {os : List own_O} {as : List own_A} {a y : Addr} {cs : Int32} {c0 c1 c2 : Int32} (hC : cs ≠ 0 ∧ Sta Z Z.heap "java/lang/String" "COMPACT_STRINGS" "Z" (.int cs)) (H : own_H Z h (own_ST a (.ref y) (.int (0 : Int32)) :: os) ((y, .byte, "[B", [(.int (own_by c0)), (.int (own_by c1)), (.int (own_by c2))]) :: as)) : own_Met false l Z (⟨"java/lang/String", "length", "()I"⟩ : MethodName) jdk_42_method_54_code 1 (some .int) [] ({ frames := 1, cells := 0, slots := 0, locals := 13 } : Room) #[(.ref a)] h (fun v h' => v = some (.int (3 : Int32)) ∧ h = h') := by
  refine own_met (by first | exact plainFor_of_name (by decide +kernel) | decide +kernel) ?_
  intro p e s m below meth c K
  refine own_cast (own_len3_ef m _) ?_
  refine own_aloadN K own_d13_0 rfl rfl ?_
  refine own_getfield K own_d13_1 (host := "") (Or.inl (own_w64 hw)) Via.refl H (j := 0) rfl (q := 0) rfl ?_
  refine own_arraylength K own_d13_4 H (i := 0) rfl (N := (3 : Int32)) (rfl) ?_
  refine own_aloadN K own_d13_5 rfl rfl ?_
  refine own_virtual K own_d13_6 (own_w106 hw) (own_w107 hw) (own_w109 hw) (own_w108 hw) (own_w41 hw) (own_w110 hw) (H.atO (i := 0) rfl) (a := a) (argsL := []) (rest := [(.int (3 : Int32))]) (own_cod hw hC H) own_pd6 rfl rfl rfl (by decide) (W := 1) (Nat.le_of_eq rfl) (by decide) (by decide) (by decide) (by decide) ?_
  intro v3 h1 q2
  obtain ⟨rfl, rfl⟩ := q2
  refine own_ishr K own_d13_9 ?_
  refine own_topI (x' := (3 : Int32)) (by decide) ?_
  exact own_retI K own_d13_10 (by decide) (by decide) (⟨rfl, rfl⟩)
set_option maxRecDepth 65536 in
set_option maxHeartbeats 40000000 in
theorem own_ix1_ef (m : MethodId) (x0 : Addr) : entryFrame m #[(.ref x0)] 4 = mkF m 0 #[.val (.ref x0), .unset, .unset, .unset] [] := by first | (simp [entryFrame, mkF, argsToLocals, Value.category]; done) | rfl
set_option maxRecDepth 65536 in
set_option maxHeartbeats 40000000 in
theorem own_ix1 {l : Launch} {Z : State} {a0 : Array Value} (hw : own_Z Z a0) {h : Heap} {os : List own_O} {as : List own_A} {y : Addr} {ia ta : Addr} {cl : Cell} {cs : Int32}  {c0 : Int32} (hS : own_St Z cs ia ta cl) (H : own_H Z h os ((y, .byte, "[B", [(.int (own_by c0))]) :: as)) (l0 : 0 ≤ c0.toInt) (u0 : c0.toInt ≤ 255) (hnot : own_wsI c0 = 0) : own_Met false l Z (⟨"java/lang/StringLatin1", "indexOfNonWhitespace", "([B)I"⟩ : MethodName) jdk_43_method_37_code 4 (some .int) [] ({ frames := 2, cells := 0, slots := 0, locals := 30 } : Room) #[(.ref y)] h (fun v h' => (∃ z, v = some (.int z) ∧ z.toInt ≠ 1) ∧ h = h') := by
  refine own_met (by first | exact plainFor_of_name (by decide +kernel) | decide +kernel) ?_
  intro p e s m below meth c K
  refine own_cast (own_ix1_ef m _) ?_
  refine own_aloadN K own_d14_0 rfl rfl ?_
  refine own_arraylength K own_d14_1 H (i := 0) rfl (N := (1 : Int32)) (rfl) ?_
  refine own_istoreN K own_d14_2 (Ls' := #[.val (.ref y), .val (.int (1 : Int32)), .unset, .unset]) rfl ?_
  refine own_iconst K own_d14_3 (v := (0 : Int32)) rfl ?_
  refine own_istoreN K own_d14_4 (Ls' := #[.val (.ref y), .val (.int (1 : Int32)), .val (.int (0 : Int32)), .unset]) rfl ?_
  refine own_iloadN K own_d14_5 rfl ?_
  refine own_iloadN K own_d14_6 rfl ?_
  refine own_icmpge K own_d14_7 (fun q => absurd q (by decide)) (fun _ => ?_)
  refine own_aloadN K own_d14_10 rfl rfl ?_
  refine own_iloadN K own_d14_11 rfl ?_
  refine own_static K own_d14_12 (own_w85 hw) (own_w86 hw) (own_w83 hw) (own_w87 hw) (argsL := [(.ref y), (.int (0 : Int32))]) (rest := []) (own_gc hw H (q := 0) (by decide) rfl l0 u0) own_pd7 rfl rfl rfl (by decide) (W := 0) (Nat.le_of_eq rfl) (by decide) (by decide) (by decide) (by decide) ?_
  intro v3 h1 q2
  obtain ⟨rfl, rfl⟩ := q2
  refine own_istoreN K own_d14_15 (Ls' := #[.val (.ref y), .val (.int (1 : Int32)), .val (.int (0 : Int32)), .val (.int c0)]) rfl ?_
  refine own_iloadN K own_d14_16 rfl ?_
  refine own_bipush K own_d14_17 (v := (32 : Int32)) rfl ?_
  refine own_icmpeq K own_d14_19 (fun ga0 => ?_) (fun ga0 => ?_)
  · refine own_iinc K own_d14_41 rfl (y := (1 : Int32)) (by decide) (Ls' := #[.val (.ref y), .val (.int (1 : Int32)), .val (.int (1 : Int32)), .val (.int c0)]) rfl ?_
    refine own_goto K own_d14_44 ?_
    refine own_iloadN K own_d14_5 rfl ?_
    refine own_iloadN K own_d14_6 rfl ?_
    refine own_icmpge K own_d14_7 (fun _ => ?_) (fun q => absurd (by decide) q)
    refine own_iloadN K own_d14_47 rfl ?_
    exact own_retI K own_d14_48 (by decide) (by decide) (absurd hnot (show own_wsI c0 ≠ 0 by first | exact own_wn32 ga0 | exact own_wn9 gb0 | exact gc0))
  · refine own_iloadN K own_d14_22 rfl ?_
    refine own_bipush K own_d14_23 (v := (9 : Int32)) rfl ?_
    refine own_icmpeq K own_d14_25 (fun gb0 => ?_) (fun gb0 => ?_)
    · refine own_iinc K own_d14_41 rfl (y := (1 : Int32)) (by decide) (Ls' := #[.val (.ref y), .val (.int (1 : Int32)), .val (.int (1 : Int32)), .val (.int c0)]) rfl ?_
      refine own_goto K own_d14_44 ?_
      refine own_iloadN K own_d14_5 rfl ?_
      refine own_iloadN K own_d14_6 rfl ?_
      refine own_icmpge K own_d14_7 (fun _ => ?_) (fun q => absurd (by decide) q)
      refine own_iloadN K own_d14_47 rfl ?_
      exact own_retI K own_d14_48 (by decide) (by decide) (absurd hnot (show own_wsI c0 ≠ 0 by first | exact own_wn32 ga0 | exact own_wn9 gb0 | exact gc0))
    · refine own_getstatic K own_d14_28 (own_w88 hw) Via.refl (v := (.ref ia)) (Sta.ext H.1 hS.2.1) ?_
      refine own_iloadN K own_d14_31 rfl ?_
      refine own_virtual K own_d14_32 (own_w90 hw) (own_w91 hw) (own_w93 hw) (own_w92 hw) (own_w89 hw) (own_w94 hw) (Exa.ext H.1 hS.2.2.1) (a := ia) (argsL := [(.int c0)]) (rest := []) (own_iw hw hS H (q := c0.toInt.toNat) (by omega) (by omega)) own_pd8 rfl rfl rfl (by decide) (W := 0) (Nat.le_of_eq rfl) (by decide) (by decide) (by decide) (by decide) ?_
      intro v6 h4 q5
      obtain ⟨rfl, rfl⟩ := q5
      refine own_ifne K own_d14_35 (fun gc0 => ?_) (fun gc0 => ?_)
      · refine own_iinc K own_d14_41 rfl (y := (1 : Int32)) (by decide) (Ls' := #[.val (.ref y), .val (.int (1 : Int32)), .val (.int (1 : Int32)), .val (.int c0)]) rfl ?_
        refine own_goto K own_d14_44 ?_
        refine own_iloadN K own_d14_5 rfl ?_
        refine own_iloadN K own_d14_6 rfl ?_
        refine own_icmpge K own_d14_7 (fun _ => ?_) (fun q => absurd (by decide) q)
        refine own_iloadN K own_d14_47 rfl ?_
        exact own_retI K own_d14_48 (by decide) (by decide) (absurd hnot (show own_wsI c0 ≠ 0 by first | exact own_wn32 ga0 | exact own_wn9 gb0 | exact gc0))
      · refine own_goto K own_d14_38 ?_
        refine own_iloadN K own_d14_47 rfl ?_
        exact own_retI K own_d14_48 (by decide) (by decide) (⟨⟨_, rfl, by decide⟩, rfl⟩)
set_option maxRecDepth 65536 in
set_option maxHeartbeats 40000000 in
theorem own_ixs1_ef (m : MethodId) (x0 : Addr) : entryFrame m #[(.ref x0)] 1 = mkF m 0 #[.val (.ref x0)] [] := by first | (simp [entryFrame, mkF, argsToLocals, Value.category]; done) | rfl
set_option maxRecDepth 65536 in
set_option maxHeartbeats 40000000 in
theorem own_ixs1 {l : Launch} {Z : State} {a0 : Array Value} (hw : own_Z Z a0) {h : Heap} {os : List own_O} {as : List own_A} {a y : Addr} {ia ta : Addr} {cl : Cell} {cs : Int32}  {c0 : Int32} (hS : own_St Z cs ia ta cl) (H : own_H Z h (own_ST a (.ref y) (.int (0 : Int32)) :: os) ((y, .byte, "[B", [(.int (own_by c0))]) :: as)) (l0 : 0 ≤ c0.toInt) (u0 : c0.toInt ≤ 255) (hnot : own_wsI c0 = 0) : own_Met false l Z (⟨"java/lang/String", "indexOfNonWhitespace", "()I"⟩ : MethodName) jdk_42_method_120_code 1 (some .int) [] ({ frames := 3, cells := 0, slots := 0, locals := 45 } : Room) #[(.ref a)] h (fun v h' => (∃ z, v = some (.int z) ∧ z.toInt ≠ 1) ∧ h = h') := by
  refine own_met (by first | exact plainFor_of_name (by decide +kernel) | decide +kernel) ?_
  intro p e s m below meth c K
  refine own_cast (own_ixs1_ef m _) ?_
  refine own_aloadN K own_d15_0 rfl rfl ?_
  refine own_virtual K own_d15_1 (own_w76 hw) (own_w77 hw) (own_w79 hw) (own_w78 hw) (own_w41 hw) (own_w80 hw) (H.atO (i := 0) rfl) (a := a) (argsL := []) (rest := []) (own_isl hw hS.1 H) own_pd9 rfl rfl rfl (by decide) (W := 0) (Nat.le_of_eq rfl) (by decide) (by decide) (by decide) (by decide) ?_
  intro v3 h1 q2
  obtain ⟨rfl, rfl⟩ := q2
  refine own_ifeq K own_d15_4 (fun q => absurd q (by decide)) (fun _ => ?_)
  refine own_aloadN K own_d15_7 rfl rfl ?_
  refine own_getfield K own_d15_8 (host := "") (Or.inl (own_w64 hw)) Via.refl H (j := 0) rfl (q := 0) rfl ?_
  refine own_static K own_d15_11 (own_w81 hw) (own_w82 hw) (own_w83 hw) (own_w84 hw) (argsL := [(.ref y)]) (rest := []) (own_ix1 hw hS H l0 u0 hnot) own_pd10 rfl rfl rfl (by decide) (W := 0) (Nat.le_of_eq rfl) (by decide) (by decide) (by decide) (by decide) ?_
  intro v6 h4 q5
  obtain ⟨⟨zz, rfl, hz⟩, rfl⟩ := q5
  refine own_goto K own_d15_14 ?_
  exact own_retI K own_d15_24 (by decide) (by decide) (⟨⟨_, rfl, hz⟩, rfl⟩)
set_option maxRecDepth 65536 in
set_option maxHeartbeats 40000000 in
theorem own_ib1_ef (m : MethodId) (x0 : Addr) : entryFrame m #[(.ref x0)] 1 = mkF m 0 #[.val (.ref x0)] [] := by first | (simp [entryFrame, mkF, argsToLocals, Value.category]; done) | rfl
set_option maxRecDepth 65536 in
set_option maxHeartbeats 40000000 in
theorem own_ib1 {l : Launch} {Z : State} {a0 : Array Value} (hw : own_Z Z a0) {h : Heap} {os : List own_O} {as : List own_A} {a y : Addr} {ia ta : Addr} {cl : Cell} {cs : Int32}  {c0 : Int32} (hS : own_St Z cs ia ta cl) (H : own_H Z h (own_ST a (.ref y) (.int (0 : Int32)) :: os) ((y, .byte, "[B", [(.int (own_by c0))]) :: as)) (l0 : 0 ≤ c0.toInt) (u0 : c0.toInt ≤ 255) (hnot : own_wsI c0 = 0) : own_Met false l Z (⟨"java/lang/String", "isBlank", "()Z"⟩ : MethodName) jdk_42_method_117_code 1 (some .boolean) [] ({ frames := 4, cells := 0, slots := 0, locals := 57 } : Room) #[(.ref a)] h (fun v h' => v = some (.int (0 : Int32)) ∧ h = h') := by
  refine own_met (by first | exact plainFor_of_name (by decide +kernel) | decide +kernel) ?_
  intro p e s m below meth c K
  refine own_cast (own_ib1_ef m _) ?_
  refine own_aloadN K own_d16_0 rfl rfl ?_
  refine own_private K own_d16_1 (own_w71 hw) (own_w73 hw) (own_w74 hw) (own_w72 hw) (own_w41 hw) (own_w75 hw) (H.atO (i := 0) rfl) (a := a) (argsL := []) (rest := []) (own_ixs1 hw hS H l0 u0 hnot) own_pd11 rfl rfl rfl (by decide) (W := 0) (Nat.le_of_eq rfl) (by decide) (by decide) (by decide) (by decide) ?_
  intro v3 h1 q2
  obtain ⟨⟨zz, rfl, hz⟩, rfl⟩ := q2
  refine own_aloadN K own_d16_4 rfl rfl ?_
  refine own_virtual K own_d16_5 (own_w101 hw) (own_w102 hw) (own_w104 hw) (own_w103 hw) (own_w41 hw) (own_w105 hw) (H.atO (i := 0) rfl) (a := a) (argsL := []) (rest := [(.int zz)]) (own_len1 hw hS.1 H) own_pd11 rfl rfl rfl (by decide) (W := 1) (Nat.le_of_eq rfl) (by decide) (by decide) (by decide) (by decide) ?_
  intro v6 h4 q5
  obtain ⟨rfl, rfl⟩ := q5
  refine own_icmpne K own_d16_8 (fun _ => ?_) (fun q => absurd (fun q => hz (by rw [q]; rfl)) q)
  refine own_iconst K own_d16_15 (v := (0 : Int32)) rfl ?_
  exact own_retZ K (by first | exact Or.inl rfl | exact Or.inr rfl | decide) own_d16_16 (by decide) (by decide) (⟨rfl, rfl⟩)
set_option maxRecDepth 65536 in
set_option maxHeartbeats 40000000 in
theorem own_nb1_ef (m : MethodId) (x0 : Addr) (x1 : Addr) : entryFrame m #[(.ref x0), (.ref x1)] 2 = mkF m 0 #[.val (.ref x0), .val (.ref x1)] [] := by first | (simp [entryFrame, mkF, argsToLocals, Value.category]; done) | rfl
set_option maxRecDepth 65536 in
set_option maxHeartbeats 40000000 in
theorem own_nb1 {l : Launch} {Z : State} {a0 : Array Value} (hw : own_Z Z a0) {h : Heap} {os : List own_O} {as : List own_A} {a y b : Addr} {ia ta : Addr} {cl : Cell} {cs : Int32}  {c0 : Int32} (hS : own_St Z cs ia ta cl) (H : own_H Z h (own_ST a (.ref y) (.int (0 : Int32)) :: os) ((y, .byte, "[B", [(.int (own_by c0))]) :: as)) (l0 : 0 ≤ c0.toInt) (u0 : c0.toInt ≤ 255) (hnot : own_wsI c0 = 0) : own_Met false l Z (⟨"com/example/cistern/cistern/config/Setting", "notBlank", "(Ljava/lang/String;Lcom/example/cistern/cistern/config/SettingsDraft;)V"⟩ : MethodName) prog_7_method_18_code 2 none [] ({ frames := 5, cells := 0, slots := 0, locals := 70 } : Room) #[(.ref a), (.ref b)] h (fun v h' => v = none ∧ h = h') := by
  refine own_met (by first | exact plainFor_of_name (by decide +kernel) | decide +kernel) ?_
  intro p e s m below meth c K
  refine own_cast (own_nb1_ef m _ _) ?_
  refine own_aloadN K own_d17_0 rfl rfl ?_
  refine own_ifnullR K own_d17_1 ?_
  refine own_aloadN K own_d17_4 rfl rfl ?_
  refine own_virtual K own_d17_5 (own_w66 hw) (own_w67 hw) (own_w69 hw) (own_w68 hw) (own_w41 hw) (own_w70 hw) (H.atO (i := 0) rfl) (a := a) (argsL := []) (rest := []) (own_ib1 hw hS H l0 u0 hnot) own_pd9 rfl rfl rfl (by decide) (W := 0) (Nat.le_of_eq rfl) (by decide) (by decide) (by decide) (by decide) ?_
  intro v3 h1 q2
  obtain ⟨rfl, rfl⟩ := q2
  refine own_ifeq K own_d17_8 (fun _ => ?_) (fun q => absurd (by decide) q)
  exact own_retV K own_d17_21 (by decide) (by decide) (⟨rfl, rfl⟩)
set_option maxRecDepth 65536 in
set_option maxHeartbeats 40000000 in
theorem own_mk1_ef (m : MethodId) (x0 : Int32) (x1 : Int32) (x2 : Int32) (x3 : Int32) : entryFrame m #[(.int x0), (.int x1), (.int x2), (.int x3)] 5 = mkF m 0 #[.val (.int x0), .val (.int x1), .val (.int x2), .val (.int x3), .unset] [] := by first | (simp [entryFrame, mkF, argsToLocals, Value.category]; done) | rfl
set_option maxRecDepth 65536 in
set_option maxHeartbeats 40000000 in
theorem own_mk1 {l : Launch} {Z : State} {a0 : Array Value} (hw : own_Z Z a0) {h : Heap} {os : List own_O} {as : List own_A} {cs : Int32} {c0 c1 c2 : Int32} (hC : cs ≠ 0 ∧ Sta Z Z.heap "java/lang/String" "COMPACT_STRINGS" "Z" (.int cs)) (H : own_H Z h os as) (l0 : 0 ≤ c0.toInt) (u0 : c0.toInt ≤ 255) : own_Met false l Z (⟨"com/example/cistern/cistern/config/SettingNotBlankPinLaw", "make", "(ICCC)Ljava/lang/String;"⟩ : MethodName) method_3_code 5 (some (.object "java/lang/String")) [] ({ frames := 4, cells := 3, slots := 6, locals := 66 } : Room) #[(.int (1 : Int32)), (.int c0), (.int c1), (.int c2)] h (fun v h' => ∃ a y x, v = some (.ref a) ∧ own_H Z h' (own_ST a (.ref y) (.int (0 : Int32)) :: os) ((y, .byte, "[B", [(.int (own_by c0))]) :: (x, .char, "[C", [(.int c0)]) :: as)) := by
  refine own_met (by first | exact plainFor_of_name (by decide +kernel) | decide +kernel) ?_
  intro p e s m below meth c K
  refine own_cast (own_mk1_ef m _ _ _ _) ?_
  refine own_iloadN K own_d18_0 rfl ?_
  refine own_ifne K own_d18_1 (fun _ => ?_) (fun q => absurd (by decide) q)
  refine own_iloadN K own_d18_15 rfl ?_
  refine own_iconst K own_d18_16 (v := (1 : Int32)) rfl ?_
  refine own_icmpne K own_d18_17 (fun q => absurd q (by decide)) (fun _ => ?_)
  refine own_iconst K own_d18_20 (v := (1 : Int32)) rfl ?_
  refine own_newarray K own_d18_21 (ty := .char) rfl (own_w38 hw) H (q := 1) (by decide) (ad := "[C") (by decide +kernel) (vs := [(.int (0 : Int32))]) rfl (by decide) (by decide) (by decide) ?_
  intro h1 a3 H2
  replace H2 : own_H Z h1 (os) ((a3, .char, "[C", [(.int (0 : Int32))]) :: as) := H2
  refine own_dup K own_d18_23 rfl ?_
  refine own_iconst K own_d18_24 (v := (0 : Int32)) rfl ?_
  refine own_iloadN K own_d18_25 rfl ?_
  refine own_castore K own_d18_26 H2 (i := 0) rfl (q := 0) (by decide) (own_le rfl) ?_
  intro h4 H5
  rw [own_nch l0 u0] at H5
  replace H5 : own_H Z h4 (os) ((a3, .char, "[C", [(.int c0)]) :: as) := H5
  refine own_astore K own_d18_27 rfl (Ls' := #[.val (.int (1 : Int32)), .val (.int c0), .val (.int c1), .val (.int c2), .val (.ref a3)]) rfl ?_
  refine own_new K own_d18_29 (own_w39 hw) (own_w40 hw) (own_w41 hw) H5 (own_ST_F hw) (own_ST_P hw) (by decide) (by decide) ?_
  intro h6 a8 H7
  replace H7 : own_H Z h6 (own_ST a8 .null (.int (0 : Int32)) :: os) ((a3, .char, "[C", [(.int c0)]) :: as) := H7
  refine own_dup K own_d18_32 rfl ?_
  refine own_aload K own_d18_33 rfl rfl ?_
  refine own_special K own_d18_35 rfl (own_w42 hw) (own_w43 hw) (own_w41 hw) (own_w44 hw) (a := a8) (argsL := [(.ref a3)]) (rest := [(.ref a8)]) (own_initS1 hw hC H7 l0 u0) own_pd12 rfl rfl rfl (by decide) (W := 1) (Nat.le_of_eq rfl) (by decide) (by decide) (by decide) (by decide) ?_
  intro v11 h9 q10
  obtain ⟨rfl, y13, H12⟩ := q10
  replace H12 : own_H Z h9 (own_ST a8 (.ref y13) (.int (0 : Int32)) :: os) ((y13, .byte, "[B", [(.int (own_by c0))]) :: (a3, .char, "[C", [(.int c0)]) :: as) := H12
  exact own_retA K rfl rfl own_d18_38 (by decide) (by decide) (⟨_, _, _, rfl, H12⟩)
set_option maxRecDepth 65536 in
set_option maxHeartbeats 40000000 in
theorem own_ix2_ef (m : MethodId) (x0 : Addr) : entryFrame m #[(.ref x0)] 4 = mkF m 0 #[.val (.ref x0), .unset, .unset, .unset] [] := by first | (simp [entryFrame, mkF, argsToLocals, Value.category]; done) | rfl
set_option maxRecDepth 65536 in
set_option maxHeartbeats 40000000 in
theorem own_ix2 {l : Launch} {Z : State} {a0 : Array Value} (hw : own_Z Z a0) {h : Heap} {os : List own_O} {as : List own_A} {y : Addr} {ia ta : Addr} {cl : Cell} {cs : Int32}  {c0 c1 : Int32} (hS : own_St Z cs ia ta cl) (H : own_H Z h os ((y, .byte, "[B", [(.int (own_by c0)), (.int (own_by c1))]) :: as)) (l0 : 0 ≤ c0.toInt) (u0 : c0.toInt ≤ 255) (l1 : 0 ≤ c1.toInt) (u1 : c1.toInt ≤ 255) (hnot : own_wsI c0 = 0 ∨ own_wsI c1 = 0) : own_Met false l Z (⟨"java/lang/StringLatin1", "indexOfNonWhitespace", "([B)I"⟩ : MethodName) jdk_43_method_37_code 4 (some .int) [] ({ frames := 2, cells := 0, slots := 0, locals := 30 } : Room) #[(.ref y)] h (fun v h' => (∃ z, v = some (.int z) ∧ z.toInt ≠ 2) ∧ h = h') := by
  refine own_met (by first | exact plainFor_of_name (by decide +kernel) | decide +kernel) ?_
  intro p e s m below meth c K
  refine own_cast (own_ix2_ef m _) ?_
  refine own_aloadN K own_d14_0 rfl rfl ?_
  refine own_arraylength K own_d14_1 H (i := 0) rfl (N := (2 : Int32)) (rfl) ?_
  refine own_istoreN K own_d14_2 (Ls' := #[.val (.ref y), .val (.int (2 : Int32)), .unset, .unset]) rfl ?_
  refine own_iconst K own_d14_3 (v := (0 : Int32)) rfl ?_
  refine own_istoreN K own_d14_4 (Ls' := #[.val (.ref y), .val (.int (2 : Int32)), .val (.int (0 : Int32)), .unset]) rfl ?_
  refine own_iloadN K own_d14_5 rfl ?_
  refine own_iloadN K own_d14_6 rfl ?_
  refine own_icmpge K own_d14_7 (fun q => absurd q (by decide)) (fun _ => ?_)
  refine own_aloadN K own_d14_10 rfl rfl ?_
  refine own_iloadN K own_d14_11 rfl ?_
  refine own_static K own_d14_12 (own_w85 hw) (own_w86 hw) (own_w83 hw) (own_w87 hw) (argsL := [(.ref y), (.int (0 : Int32))]) (rest := []) (own_gc hw H (q := 0) (by decide) rfl l0 u0) own_pd7 rfl rfl rfl (by decide) (W := 0) (Nat.le_of_eq rfl) (by decide) (by decide) (by decide) (by decide) ?_
  intro v3 h1 q2
  obtain ⟨rfl, rfl⟩ := q2
  refine own_istoreN K own_d14_15 (Ls' := #[.val (.ref y), .val (.int (2 : Int32)), .val (.int (0 : Int32)), .val (.int c0)]) rfl ?_
  refine own_iloadN K own_d14_16 rfl ?_
  refine own_bipush K own_d14_17 (v := (32 : Int32)) rfl ?_
  refine own_icmpeq K own_d14_19 (fun ga0 => ?_) (fun ga0 => ?_)
  · refine own_iinc K own_d14_41 rfl (y := (1 : Int32)) (by decide) (Ls' := #[.val (.ref y), .val (.int (2 : Int32)), .val (.int (1 : Int32)), .val (.int c0)]) rfl ?_
    refine own_goto K own_d14_44 ?_
    refine own_iloadN K own_d14_5 rfl ?_
    refine own_iloadN K own_d14_6 rfl ?_
    refine own_icmpge K own_d14_7 (fun q => absurd q (by decide)) (fun _ => ?_)
    refine own_aloadN K own_d14_10 rfl rfl ?_
    refine own_iloadN K own_d14_11 rfl ?_
    refine own_static K own_d14_12 (own_w85 hw) (own_w86 hw) (own_w83 hw) (own_w87 hw) (argsL := [(.ref y), (.int (1 : Int32))]) (rest := []) (own_gc hw H (q := 1) (by decide) rfl l1 u1) own_pd7 rfl rfl rfl (by decide) (W := 0) (Nat.le_of_eq rfl) (by decide) (by decide) (by decide) (by decide) ?_
    intro v6 h4 q5
    obtain ⟨rfl, rfl⟩ := q5
    refine own_istoreN K own_d14_15 (Ls' := #[.val (.ref y), .val (.int (2 : Int32)), .val (.int (1 : Int32)), .val (.int c1)]) rfl ?_
    refine own_iloadN K own_d14_16 rfl ?_
    refine own_bipush K own_d14_17 (v := (32 : Int32)) rfl ?_
    refine own_icmpeq K own_d14_19 (fun ga1 => ?_) (fun ga1 => ?_)
    · refine own_iinc K own_d14_41 rfl (y := (2 : Int32)) (by decide) (Ls' := #[.val (.ref y), .val (.int (2 : Int32)), .val (.int (2 : Int32)), .val (.int c1)]) rfl ?_
      refine own_goto K own_d14_44 ?_
      refine own_iloadN K own_d14_5 rfl ?_
      refine own_iloadN K own_d14_6 rfl ?_
      refine own_icmpge K own_d14_7 (fun _ => ?_) (fun q => absurd (by decide) q)
      refine own_iloadN K own_d14_47 rfl ?_
      exact own_retI K own_d14_48 (by decide) (by decide) ((by rcases hnot with q | q <;> first | exact absurd q (show own_wsI c0 ≠ 0 by first | exact own_wn32 ga0 | exact own_wn9 gb0 | exact gc0) | exact absurd q (show own_wsI c1 ≠ 0 by first | exact own_wn32 ga1 | exact own_wn9 gb1 | exact gc1)))
    · refine own_iloadN K own_d14_22 rfl ?_
      refine own_bipush K own_d14_23 (v := (9 : Int32)) rfl ?_
      refine own_icmpeq K own_d14_25 (fun gb1 => ?_) (fun gb1 => ?_)
      · refine own_iinc K own_d14_41 rfl (y := (2 : Int32)) (by decide) (Ls' := #[.val (.ref y), .val (.int (2 : Int32)), .val (.int (2 : Int32)), .val (.int c1)]) rfl ?_
        refine own_goto K own_d14_44 ?_
        refine own_iloadN K own_d14_5 rfl ?_
        refine own_iloadN K own_d14_6 rfl ?_
        refine own_icmpge K own_d14_7 (fun _ => ?_) (fun q => absurd (by decide) q)
        refine own_iloadN K own_d14_47 rfl ?_
        exact own_retI K own_d14_48 (by decide) (by decide) ((by rcases hnot with q | q <;> first | exact absurd q (show own_wsI c0 ≠ 0 by first | exact own_wn32 ga0 | exact own_wn9 gb0 | exact gc0) | exact absurd q (show own_wsI c1 ≠ 0 by first | exact own_wn32 ga1 | exact own_wn9 gb1 | exact gc1)))
      · refine own_getstatic K own_d14_28 (own_w88 hw) Via.refl (v := (.ref ia)) (Sta.ext H.1 hS.2.1) ?_
        refine own_iloadN K own_d14_31 rfl ?_
        refine own_virtual K own_d14_32 (own_w90 hw) (own_w91 hw) (own_w93 hw) (own_w92 hw) (own_w89 hw) (own_w94 hw) (Exa.ext H.1 hS.2.2.1) (a := ia) (argsL := [(.int c1)]) (rest := []) (own_iw hw hS H (q := c1.toInt.toNat) (by omega) (by omega)) own_pd8 rfl rfl rfl (by decide) (W := 0) (Nat.le_of_eq rfl) (by decide) (by decide) (by decide) (by decide) ?_
        intro v9 h7 q8
        obtain ⟨rfl, rfl⟩ := q8
        refine own_ifne K own_d14_35 (fun gc1 => ?_) (fun gc1 => ?_)
        · refine own_iinc K own_d14_41 rfl (y := (2 : Int32)) (by decide) (Ls' := #[.val (.ref y), .val (.int (2 : Int32)), .val (.int (2 : Int32)), .val (.int c1)]) rfl ?_
          refine own_goto K own_d14_44 ?_
          refine own_iloadN K own_d14_5 rfl ?_
          refine own_iloadN K own_d14_6 rfl ?_
          refine own_icmpge K own_d14_7 (fun _ => ?_) (fun q => absurd (by decide) q)
          refine own_iloadN K own_d14_47 rfl ?_
          exact own_retI K own_d14_48 (by decide) (by decide) ((by rcases hnot with q | q <;> first | exact absurd q (show own_wsI c0 ≠ 0 by first | exact own_wn32 ga0 | exact own_wn9 gb0 | exact gc0) | exact absurd q (show own_wsI c1 ≠ 0 by first | exact own_wn32 ga1 | exact own_wn9 gb1 | exact gc1)))
        · refine own_goto K own_d14_38 ?_
          refine own_iloadN K own_d14_47 rfl ?_
          exact own_retI K own_d14_48 (by decide) (by decide) (⟨⟨_, rfl, by decide⟩, rfl⟩)
  · refine own_iloadN K own_d14_22 rfl ?_
    refine own_bipush K own_d14_23 (v := (9 : Int32)) rfl ?_
    refine own_icmpeq K own_d14_25 (fun gb0 => ?_) (fun gb0 => ?_)
    · refine own_iinc K own_d14_41 rfl (y := (1 : Int32)) (by decide) (Ls' := #[.val (.ref y), .val (.int (2 : Int32)), .val (.int (1 : Int32)), .val (.int c0)]) rfl ?_
      refine own_goto K own_d14_44 ?_
      refine own_iloadN K own_d14_5 rfl ?_
      refine own_iloadN K own_d14_6 rfl ?_
      refine own_icmpge K own_d14_7 (fun q => absurd q (by decide)) (fun _ => ?_)
      refine own_aloadN K own_d14_10 rfl rfl ?_
      refine own_iloadN K own_d14_11 rfl ?_
      refine own_static K own_d14_12 (own_w85 hw) (own_w86 hw) (own_w83 hw) (own_w87 hw) (argsL := [(.ref y), (.int (1 : Int32))]) (rest := []) (own_gc hw H (q := 1) (by decide) rfl l1 u1) own_pd7 rfl rfl rfl (by decide) (W := 0) (Nat.le_of_eq rfl) (by decide) (by decide) (by decide) (by decide) ?_
      intro v12 h10 q11
      obtain ⟨rfl, rfl⟩ := q11
      refine own_istoreN K own_d14_15 (Ls' := #[.val (.ref y), .val (.int (2 : Int32)), .val (.int (1 : Int32)), .val (.int c1)]) rfl ?_
      refine own_iloadN K own_d14_16 rfl ?_
      refine own_bipush K own_d14_17 (v := (32 : Int32)) rfl ?_
      refine own_icmpeq K own_d14_19 (fun ga1 => ?_) (fun ga1 => ?_)
      · refine own_iinc K own_d14_41 rfl (y := (2 : Int32)) (by decide) (Ls' := #[.val (.ref y), .val (.int (2 : Int32)), .val (.int (2 : Int32)), .val (.int c1)]) rfl ?_
        refine own_goto K own_d14_44 ?_
        refine own_iloadN K own_d14_5 rfl ?_
        refine own_iloadN K own_d14_6 rfl ?_
        refine own_icmpge K own_d14_7 (fun _ => ?_) (fun q => absurd (by decide) q)
        refine own_iloadN K own_d14_47 rfl ?_
        exact own_retI K own_d14_48 (by decide) (by decide) ((by rcases hnot with q | q <;> first | exact absurd q (show own_wsI c0 ≠ 0 by first | exact own_wn32 ga0 | exact own_wn9 gb0 | exact gc0) | exact absurd q (show own_wsI c1 ≠ 0 by first | exact own_wn32 ga1 | exact own_wn9 gb1 | exact gc1)))
      · refine own_iloadN K own_d14_22 rfl ?_
        refine own_bipush K own_d14_23 (v := (9 : Int32)) rfl ?_
        refine own_icmpeq K own_d14_25 (fun gb1 => ?_) (fun gb1 => ?_)
        · refine own_iinc K own_d14_41 rfl (y := (2 : Int32)) (by decide) (Ls' := #[.val (.ref y), .val (.int (2 : Int32)), .val (.int (2 : Int32)), .val (.int c1)]) rfl ?_
          refine own_goto K own_d14_44 ?_
          refine own_iloadN K own_d14_5 rfl ?_
          refine own_iloadN K own_d14_6 rfl ?_
          refine own_icmpge K own_d14_7 (fun _ => ?_) (fun q => absurd (by decide) q)
          refine own_iloadN K own_d14_47 rfl ?_
          exact own_retI K own_d14_48 (by decide) (by decide) ((by rcases hnot with q | q <;> first | exact absurd q (show own_wsI c0 ≠ 0 by first | exact own_wn32 ga0 | exact own_wn9 gb0 | exact gc0) | exact absurd q (show own_wsI c1 ≠ 0 by first | exact own_wn32 ga1 | exact own_wn9 gb1 | exact gc1)))
        · refine own_getstatic K own_d14_28 (own_w88 hw) Via.refl (v := (.ref ia)) (Sta.ext H.1 hS.2.1) ?_
          refine own_iloadN K own_d14_31 rfl ?_
          refine own_virtual K own_d14_32 (own_w90 hw) (own_w91 hw) (own_w93 hw) (own_w92 hw) (own_w89 hw) (own_w94 hw) (Exa.ext H.1 hS.2.2.1) (a := ia) (argsL := [(.int c1)]) (rest := []) (own_iw hw hS H (q := c1.toInt.toNat) (by omega) (by omega)) own_pd8 rfl rfl rfl (by decide) (W := 0) (Nat.le_of_eq rfl) (by decide) (by decide) (by decide) (by decide) ?_
          intro v15 h13 q14
          obtain ⟨rfl, rfl⟩ := q14
          refine own_ifne K own_d14_35 (fun gc1 => ?_) (fun gc1 => ?_)
          · refine own_iinc K own_d14_41 rfl (y := (2 : Int32)) (by decide) (Ls' := #[.val (.ref y), .val (.int (2 : Int32)), .val (.int (2 : Int32)), .val (.int c1)]) rfl ?_
            refine own_goto K own_d14_44 ?_
            refine own_iloadN K own_d14_5 rfl ?_
            refine own_iloadN K own_d14_6 rfl ?_
            refine own_icmpge K own_d14_7 (fun _ => ?_) (fun q => absurd (by decide) q)
            refine own_iloadN K own_d14_47 rfl ?_
            exact own_retI K own_d14_48 (by decide) (by decide) ((by rcases hnot with q | q <;> first | exact absurd q (show own_wsI c0 ≠ 0 by first | exact own_wn32 ga0 | exact own_wn9 gb0 | exact gc0) | exact absurd q (show own_wsI c1 ≠ 0 by first | exact own_wn32 ga1 | exact own_wn9 gb1 | exact gc1)))
          · refine own_goto K own_d14_38 ?_
            refine own_iloadN K own_d14_47 rfl ?_
            exact own_retI K own_d14_48 (by decide) (by decide) (⟨⟨_, rfl, by decide⟩, rfl⟩)
    · refine own_getstatic K own_d14_28 (own_w88 hw) Via.refl (v := (.ref ia)) (Sta.ext H.1 hS.2.1) ?_
      refine own_iloadN K own_d14_31 rfl ?_
      refine own_virtual K own_d14_32 (own_w90 hw) (own_w91 hw) (own_w93 hw) (own_w92 hw) (own_w89 hw) (own_w94 hw) (Exa.ext H.1 hS.2.2.1) (a := ia) (argsL := [(.int c0)]) (rest := []) (own_iw hw hS H (q := c0.toInt.toNat) (by omega) (by omega)) own_pd8 rfl rfl rfl (by decide) (W := 0) (Nat.le_of_eq rfl) (by decide) (by decide) (by decide) (by decide) ?_
      intro v18 h16 q17
      obtain ⟨rfl, rfl⟩ := q17
      refine own_ifne K own_d14_35 (fun gc0 => ?_) (fun gc0 => ?_)
      · refine own_iinc K own_d14_41 rfl (y := (1 : Int32)) (by decide) (Ls' := #[.val (.ref y), .val (.int (2 : Int32)), .val (.int (1 : Int32)), .val (.int c0)]) rfl ?_
        refine own_goto K own_d14_44 ?_
        refine own_iloadN K own_d14_5 rfl ?_
        refine own_iloadN K own_d14_6 rfl ?_
        refine own_icmpge K own_d14_7 (fun q => absurd q (by decide)) (fun _ => ?_)
        refine own_aloadN K own_d14_10 rfl rfl ?_
        refine own_iloadN K own_d14_11 rfl ?_
        refine own_static K own_d14_12 (own_w85 hw) (own_w86 hw) (own_w83 hw) (own_w87 hw) (argsL := [(.ref y), (.int (1 : Int32))]) (rest := []) (own_gc hw H (q := 1) (by decide) rfl l1 u1) own_pd7 rfl rfl rfl (by decide) (W := 0) (Nat.le_of_eq rfl) (by decide) (by decide) (by decide) (by decide) ?_
        intro v21 h19 q20
        obtain ⟨rfl, rfl⟩ := q20
        refine own_istoreN K own_d14_15 (Ls' := #[.val (.ref y), .val (.int (2 : Int32)), .val (.int (1 : Int32)), .val (.int c1)]) rfl ?_
        refine own_iloadN K own_d14_16 rfl ?_
        refine own_bipush K own_d14_17 (v := (32 : Int32)) rfl ?_
        refine own_icmpeq K own_d14_19 (fun ga1 => ?_) (fun ga1 => ?_)
        · refine own_iinc K own_d14_41 rfl (y := (2 : Int32)) (by decide) (Ls' := #[.val (.ref y), .val (.int (2 : Int32)), .val (.int (2 : Int32)), .val (.int c1)]) rfl ?_
          refine own_goto K own_d14_44 ?_
          refine own_iloadN K own_d14_5 rfl ?_
          refine own_iloadN K own_d14_6 rfl ?_
          refine own_icmpge K own_d14_7 (fun _ => ?_) (fun q => absurd (by decide) q)
          refine own_iloadN K own_d14_47 rfl ?_
          exact own_retI K own_d14_48 (by decide) (by decide) ((by rcases hnot with q | q <;> first | exact absurd q (show own_wsI c0 ≠ 0 by first | exact own_wn32 ga0 | exact own_wn9 gb0 | exact gc0) | exact absurd q (show own_wsI c1 ≠ 0 by first | exact own_wn32 ga1 | exact own_wn9 gb1 | exact gc1)))
        · refine own_iloadN K own_d14_22 rfl ?_
          refine own_bipush K own_d14_23 (v := (9 : Int32)) rfl ?_
          refine own_icmpeq K own_d14_25 (fun gb1 => ?_) (fun gb1 => ?_)
          · refine own_iinc K own_d14_41 rfl (y := (2 : Int32)) (by decide) (Ls' := #[.val (.ref y), .val (.int (2 : Int32)), .val (.int (2 : Int32)), .val (.int c1)]) rfl ?_
            refine own_goto K own_d14_44 ?_
            refine own_iloadN K own_d14_5 rfl ?_
            refine own_iloadN K own_d14_6 rfl ?_
            refine own_icmpge K own_d14_7 (fun _ => ?_) (fun q => absurd (by decide) q)
            refine own_iloadN K own_d14_47 rfl ?_
            exact own_retI K own_d14_48 (by decide) (by decide) ((by rcases hnot with q | q <;> first | exact absurd q (show own_wsI c0 ≠ 0 by first | exact own_wn32 ga0 | exact own_wn9 gb0 | exact gc0) | exact absurd q (show own_wsI c1 ≠ 0 by first | exact own_wn32 ga1 | exact own_wn9 gb1 | exact gc1)))
          · refine own_getstatic K own_d14_28 (own_w88 hw) Via.refl (v := (.ref ia)) (Sta.ext H.1 hS.2.1) ?_
            refine own_iloadN K own_d14_31 rfl ?_
            refine own_virtual K own_d14_32 (own_w90 hw) (own_w91 hw) (own_w93 hw) (own_w92 hw) (own_w89 hw) (own_w94 hw) (Exa.ext H.1 hS.2.2.1) (a := ia) (argsL := [(.int c1)]) (rest := []) (own_iw hw hS H (q := c1.toInt.toNat) (by omega) (by omega)) own_pd8 rfl rfl rfl (by decide) (W := 0) (Nat.le_of_eq rfl) (by decide) (by decide) (by decide) (by decide) ?_
            intro v24 h22 q23
            obtain ⟨rfl, rfl⟩ := q23
            refine own_ifne K own_d14_35 (fun gc1 => ?_) (fun gc1 => ?_)
            · refine own_iinc K own_d14_41 rfl (y := (2 : Int32)) (by decide) (Ls' := #[.val (.ref y), .val (.int (2 : Int32)), .val (.int (2 : Int32)), .val (.int c1)]) rfl ?_
              refine own_goto K own_d14_44 ?_
              refine own_iloadN K own_d14_5 rfl ?_
              refine own_iloadN K own_d14_6 rfl ?_
              refine own_icmpge K own_d14_7 (fun _ => ?_) (fun q => absurd (by decide) q)
              refine own_iloadN K own_d14_47 rfl ?_
              exact own_retI K own_d14_48 (by decide) (by decide) ((by rcases hnot with q | q <;> first | exact absurd q (show own_wsI c0 ≠ 0 by first | exact own_wn32 ga0 | exact own_wn9 gb0 | exact gc0) | exact absurd q (show own_wsI c1 ≠ 0 by first | exact own_wn32 ga1 | exact own_wn9 gb1 | exact gc1)))
            · refine own_goto K own_d14_38 ?_
              refine own_iloadN K own_d14_47 rfl ?_
              exact own_retI K own_d14_48 (by decide) (by decide) (⟨⟨_, rfl, by decide⟩, rfl⟩)
      · refine own_goto K own_d14_38 ?_
        refine own_iloadN K own_d14_47 rfl ?_
        exact own_retI K own_d14_48 (by decide) (by decide) (⟨⟨_, rfl, by decide⟩, rfl⟩)
set_option maxRecDepth 65536 in
set_option maxHeartbeats 40000000 in
theorem own_ixs2_ef (m : MethodId) (x0 : Addr) : entryFrame m #[(.ref x0)] 1 = mkF m 0 #[.val (.ref x0)] [] := by first | (simp [entryFrame, mkF, argsToLocals, Value.category]; done) | rfl
set_option maxRecDepth 65536 in
set_option maxHeartbeats 40000000 in
theorem own_ixs2 {l : Launch} {Z : State} {a0 : Array Value} (hw : own_Z Z a0) {h : Heap} {os : List own_O} {as : List own_A} {a y : Addr} {ia ta : Addr} {cl : Cell} {cs : Int32}  {c0 c1 : Int32} (hS : own_St Z cs ia ta cl) (H : own_H Z h (own_ST a (.ref y) (.int (0 : Int32)) :: os) ((y, .byte, "[B", [(.int (own_by c0)), (.int (own_by c1))]) :: as)) (l0 : 0 ≤ c0.toInt) (u0 : c0.toInt ≤ 255) (l1 : 0 ≤ c1.toInt) (u1 : c1.toInt ≤ 255) (hnot : own_wsI c0 = 0 ∨ own_wsI c1 = 0) : own_Met false l Z (⟨"java/lang/String", "indexOfNonWhitespace", "()I"⟩ : MethodName) jdk_42_method_120_code 1 (some .int) [] ({ frames := 3, cells := 0, slots := 0, locals := 45 } : Room) #[(.ref a)] h (fun v h' => (∃ z, v = some (.int z) ∧ z.toInt ≠ 2) ∧ h = h') := by
  refine own_met (by first | exact plainFor_of_name (by decide +kernel) | decide +kernel) ?_
  intro p e s m below meth c K
  refine own_cast (own_ixs2_ef m _) ?_
  refine own_aloadN K own_d15_0 rfl rfl ?_
  refine own_virtual K own_d15_1 (own_w76 hw) (own_w77 hw) (own_w79 hw) (own_w78 hw) (own_w41 hw) (own_w80 hw) (H.atO (i := 0) rfl) (a := a) (argsL := []) (rest := []) (own_isl hw hS.1 H) own_pd9 rfl rfl rfl (by decide) (W := 0) (Nat.le_of_eq rfl) (by decide) (by decide) (by decide) (by decide) ?_
  intro v3 h1 q2
  obtain ⟨rfl, rfl⟩ := q2
  refine own_ifeq K own_d15_4 (fun q => absurd q (by decide)) (fun _ => ?_)
  refine own_aloadN K own_d15_7 rfl rfl ?_
  refine own_getfield K own_d15_8 (host := "") (Or.inl (own_w64 hw)) Via.refl H (j := 0) rfl (q := 0) rfl ?_
  refine own_static K own_d15_11 (own_w81 hw) (own_w82 hw) (own_w83 hw) (own_w84 hw) (argsL := [(.ref y)]) (rest := []) (own_ix2 hw hS H l0 u0 l1 u1 hnot) own_pd10 rfl rfl rfl (by decide) (W := 0) (Nat.le_of_eq rfl) (by decide) (by decide) (by decide) (by decide) ?_
  intro v6 h4 q5
  obtain ⟨⟨zz, rfl, hz⟩, rfl⟩ := q5
  refine own_goto K own_d15_14 ?_
  exact own_retI K own_d15_24 (by decide) (by decide) (⟨⟨_, rfl, hz⟩, rfl⟩)
set_option maxRecDepth 65536 in
set_option maxHeartbeats 40000000 in
theorem own_ib2_ef (m : MethodId) (x0 : Addr) : entryFrame m #[(.ref x0)] 1 = mkF m 0 #[.val (.ref x0)] [] := by first | (simp [entryFrame, mkF, argsToLocals, Value.category]; done) | rfl
set_option maxRecDepth 65536 in
set_option maxHeartbeats 40000000 in
theorem own_ib2 {l : Launch} {Z : State} {a0 : Array Value} (hw : own_Z Z a0) {h : Heap} {os : List own_O} {as : List own_A} {a y : Addr} {ia ta : Addr} {cl : Cell} {cs : Int32}  {c0 c1 : Int32} (hS : own_St Z cs ia ta cl) (H : own_H Z h (own_ST a (.ref y) (.int (0 : Int32)) :: os) ((y, .byte, "[B", [(.int (own_by c0)), (.int (own_by c1))]) :: as)) (l0 : 0 ≤ c0.toInt) (u0 : c0.toInt ≤ 255) (l1 : 0 ≤ c1.toInt) (u1 : c1.toInt ≤ 255) (hnot : own_wsI c0 = 0 ∨ own_wsI c1 = 0) : own_Met false l Z (⟨"java/lang/String", "isBlank", "()Z"⟩ : MethodName) jdk_42_method_117_code 1 (some .boolean) [] ({ frames := 4, cells := 0, slots := 0, locals := 57 } : Room) #[(.ref a)] h (fun v h' => v = some (.int (0 : Int32)) ∧ h = h') := by
  refine own_met (by first | exact plainFor_of_name (by decide +kernel) | decide +kernel) ?_
  intro p e s m below meth c K
  refine own_cast (own_ib2_ef m _) ?_
  refine own_aloadN K own_d16_0 rfl rfl ?_
  refine own_private K own_d16_1 (own_w71 hw) (own_w73 hw) (own_w74 hw) (own_w72 hw) (own_w41 hw) (own_w75 hw) (H.atO (i := 0) rfl) (a := a) (argsL := []) (rest := []) (own_ixs2 hw hS H l0 u0 l1 u1 hnot) own_pd11 rfl rfl rfl (by decide) (W := 0) (Nat.le_of_eq rfl) (by decide) (by decide) (by decide) (by decide) ?_
  intro v3 h1 q2
  obtain ⟨⟨zz, rfl, hz⟩, rfl⟩ := q2
  refine own_aloadN K own_d16_4 rfl rfl ?_
  refine own_virtual K own_d16_5 (own_w101 hw) (own_w102 hw) (own_w104 hw) (own_w103 hw) (own_w41 hw) (own_w105 hw) (H.atO (i := 0) rfl) (a := a) (argsL := []) (rest := [(.int zz)]) (own_len2 hw hS.1 H) own_pd11 rfl rfl rfl (by decide) (W := 1) (Nat.le_of_eq rfl) (by decide) (by decide) (by decide) (by decide) ?_
  intro v6 h4 q5
  obtain ⟨rfl, rfl⟩ := q5
  refine own_icmpne K own_d16_8 (fun _ => ?_) (fun q => absurd (fun q => hz (by rw [q]; rfl)) q)
  refine own_iconst K own_d16_15 (v := (0 : Int32)) rfl ?_
  exact own_retZ K (by first | exact Or.inl rfl | exact Or.inr rfl | decide) own_d16_16 (by decide) (by decide) (⟨rfl, rfl⟩)
set_option maxRecDepth 65536 in
set_option maxHeartbeats 40000000 in
theorem own_nb2_ef (m : MethodId) (x0 : Addr) (x1 : Addr) : entryFrame m #[(.ref x0), (.ref x1)] 2 = mkF m 0 #[.val (.ref x0), .val (.ref x1)] [] := by first | (simp [entryFrame, mkF, argsToLocals, Value.category]; done) | rfl
set_option maxRecDepth 65536 in
set_option maxHeartbeats 40000000 in
theorem own_nb2 {l : Launch} {Z : State} {a0 : Array Value} (hw : own_Z Z a0) {h : Heap} {os : List own_O} {as : List own_A} {a y b : Addr} {ia ta : Addr} {cl : Cell} {cs : Int32}  {c0 c1 : Int32} (hS : own_St Z cs ia ta cl) (H : own_H Z h (own_ST a (.ref y) (.int (0 : Int32)) :: os) ((y, .byte, "[B", [(.int (own_by c0)), (.int (own_by c1))]) :: as)) (l0 : 0 ≤ c0.toInt) (u0 : c0.toInt ≤ 255) (l1 : 0 ≤ c1.toInt) (u1 : c1.toInt ≤ 255) (hnot : own_wsI c0 = 0 ∨ own_wsI c1 = 0) : own_Met false l Z (⟨"com/example/cistern/cistern/config/Setting", "notBlank", "(Ljava/lang/String;Lcom/example/cistern/cistern/config/SettingsDraft;)V"⟩ : MethodName) prog_7_method_18_code 2 none [] ({ frames := 5, cells := 0, slots := 0, locals := 70 } : Room) #[(.ref a), (.ref b)] h (fun v h' => v = none ∧ h = h') := by
  refine own_met (by first | exact plainFor_of_name (by decide +kernel) | decide +kernel) ?_
  intro p e s m below meth c K
  refine own_cast (own_nb2_ef m _ _) ?_
  refine own_aloadN K own_d17_0 rfl rfl ?_
  refine own_ifnullR K own_d17_1 ?_
  refine own_aloadN K own_d17_4 rfl rfl ?_
  refine own_virtual K own_d17_5 (own_w66 hw) (own_w67 hw) (own_w69 hw) (own_w68 hw) (own_w41 hw) (own_w70 hw) (H.atO (i := 0) rfl) (a := a) (argsL := []) (rest := []) (own_ib2 hw hS H l0 u0 l1 u1 hnot) own_pd9 rfl rfl rfl (by decide) (W := 0) (Nat.le_of_eq rfl) (by decide) (by decide) (by decide) (by decide) ?_
  intro v3 h1 q2
  obtain ⟨rfl, rfl⟩ := q2
  refine own_ifeq K own_d17_8 (fun _ => ?_) (fun q => absurd (by decide) q)
  exact own_retV K own_d17_21 (by decide) (by decide) (⟨rfl, rfl⟩)
set_option maxRecDepth 65536 in
set_option maxHeartbeats 40000000 in
theorem own_mk2_ef (m : MethodId) (x0 : Int32) (x1 : Int32) (x2 : Int32) (x3 : Int32) : entryFrame m #[(.int x0), (.int x1), (.int x2), (.int x3)] 5 = mkF m 0 #[.val (.int x0), .val (.int x1), .val (.int x2), .val (.int x3), .unset] [] := by first | (simp [entryFrame, mkF, argsToLocals, Value.category]; done) | rfl
set_option maxRecDepth 65536 in
set_option maxHeartbeats 40000000 in
theorem own_mk2 {l : Launch} {Z : State} {a0 : Array Value} (hw : own_Z Z a0) {h : Heap} {os : List own_O} {as : List own_A} {cs : Int32} {c0 c1 c2 : Int32} (hC : cs ≠ 0 ∧ Sta Z Z.heap "java/lang/String" "COMPACT_STRINGS" "Z" (.int cs)) (H : own_H Z h os as) (l0 : 0 ≤ c0.toInt) (u0 : c0.toInt ≤ 255) (l1 : 0 ≤ c1.toInt) (u1 : c1.toInt ≤ 255) : own_Met false l Z (⟨"com/example/cistern/cistern/config/SettingNotBlankPinLaw", "make", "(ICCC)Ljava/lang/String;"⟩ : MethodName) method_3_code 5 (some (.object "java/lang/String")) [] ({ frames := 4, cells := 3, slots := 8, locals := 66 } : Room) #[(.int (2 : Int32)), (.int c0), (.int c1), (.int c2)] h (fun v h' => ∃ a y x, v = some (.ref a) ∧ own_H Z h' (own_ST a (.ref y) (.int (0 : Int32)) :: os) ((y, .byte, "[B", [(.int (own_by c0)), (.int (own_by c1))]) :: (x, .char, "[C", [(.int c0), (.int c1)]) :: as)) := by
  refine own_met (by first | exact plainFor_of_name (by decide +kernel) | decide +kernel) ?_
  intro p e s m below meth c K
  refine own_cast (own_mk2_ef m _ _ _ _) ?_
  refine own_iloadN K own_d18_0 rfl ?_
  refine own_ifne K own_d18_1 (fun _ => ?_) (fun q => absurd (by decide) q)
  refine own_iloadN K own_d18_15 rfl ?_
  refine own_iconst K own_d18_16 (v := (1 : Int32)) rfl ?_
  refine own_icmpne K own_d18_17 (fun _ => ?_) (fun q => absurd (by decide) q)
  refine own_iloadN K own_d18_39 rfl ?_
  refine own_iconst K own_d18_40 (v := (2 : Int32)) rfl ?_
  refine own_icmpne K own_d18_41 (fun q => absurd q (by decide)) (fun _ => ?_)
  refine own_iconst K own_d18_44 (v := (2 : Int32)) rfl ?_
  refine own_newarray K own_d18_45 (ty := .char) rfl (own_w38 hw) H (q := 2) (by decide) (ad := "[C") (by decide +kernel) (vs := [(.int (0 : Int32)), (.int (0 : Int32))]) rfl (by decide) (by decide) (by decide) ?_
  intro h1 a3 H2
  replace H2 : own_H Z h1 (os) ((a3, .char, "[C", [(.int (0 : Int32)), (.int (0 : Int32))]) :: as) := H2
  refine own_dup K own_d18_47 rfl ?_
  refine own_iconst K own_d18_48 (v := (0 : Int32)) rfl ?_
  refine own_iloadN K own_d18_49 rfl ?_
  refine own_castore K own_d18_50 H2 (i := 0) rfl (q := 0) (by decide) (own_le rfl) ?_
  intro h4 H5
  rw [own_nch l0 u0] at H5
  replace H5 : own_H Z h4 (os) ((a3, .char, "[C", [(.int c0), (.int (0 : Int32))]) :: as) := H5
  refine own_dup K own_d18_51 rfl ?_
  refine own_iconst K own_d18_52 (v := (1 : Int32)) rfl ?_
  refine own_iloadN K own_d18_53 rfl ?_
  refine own_castore K own_d18_54 H5 (i := 0) rfl (q := 1) (by decide) (own_le rfl) ?_
  intro h6 H7
  rw [own_nch l1 u1] at H7
  replace H7 : own_H Z h6 (os) ((a3, .char, "[C", [(.int c0), (.int c1)]) :: as) := H7
  refine own_astore K own_d18_55 rfl (Ls' := #[.val (.int (2 : Int32)), .val (.int c0), .val (.int c1), .val (.int c2), .val (.ref a3)]) rfl ?_
  refine own_new K own_d18_57 (own_w39 hw) (own_w40 hw) (own_w41 hw) H7 (own_ST_F hw) (own_ST_P hw) (by decide) (by decide) ?_
  intro h8 a10 H9
  replace H9 : own_H Z h8 (own_ST a10 .null (.int (0 : Int32)) :: os) ((a3, .char, "[C", [(.int c0), (.int c1)]) :: as) := H9
  refine own_dup K own_d18_60 rfl ?_
  refine own_aload K own_d18_61 rfl rfl ?_
  refine own_special K own_d18_63 rfl (own_w42 hw) (own_w43 hw) (own_w41 hw) (own_w44 hw) (a := a10) (argsL := [(.ref a3)]) (rest := [(.ref a10)]) (own_initS2 hw hC H9 l0 u0 l1 u1) own_pd12 rfl rfl rfl (by decide) (W := 1) (Nat.le_of_eq rfl) (by decide) (by decide) (by decide) (by decide) ?_
  intro v13 h11 q12
  obtain ⟨rfl, y15, H14⟩ := q12
  replace H14 : own_H Z h11 (own_ST a10 (.ref y15) (.int (0 : Int32)) :: os) ((y15, .byte, "[B", [(.int (own_by c0)), (.int (own_by c1))]) :: (a3, .char, "[C", [(.int c0), (.int c1)]) :: as) := H14
  exact own_retA K rfl rfl own_d18_66 (by decide) (by decide) (⟨_, _, _, rfl, H14⟩)
set_option maxRecDepth 65536 in
set_option maxHeartbeats 40000000 in
theorem own_ix3_ef (m : MethodId) (x0 : Addr) : entryFrame m #[(.ref x0)] 4 = mkF m 0 #[.val (.ref x0), .unset, .unset, .unset] [] := by first | (simp [entryFrame, mkF, argsToLocals, Value.category]; done) | rfl
set_option maxRecDepth 65536 in
set_option maxHeartbeats 40000000 in
theorem own_ix3 {l : Launch} {Z : State} {a0 : Array Value} (hw : own_Z Z a0) {h : Heap} {os : List own_O} {as : List own_A} {y : Addr} {ia ta : Addr} {cl : Cell} {cs : Int32}  {c0 c1 c2 : Int32} (hS : own_St Z cs ia ta cl) (H : own_H Z h os ((y, .byte, "[B", [(.int (own_by c0)), (.int (own_by c1)), (.int (own_by c2))]) :: as)) (l0 : 0 ≤ c0.toInt) (u0 : c0.toInt ≤ 255) (l1 : 0 ≤ c1.toInt) (u1 : c1.toInt ≤ 255) (l2 : 0 ≤ c2.toInt) (u2 : c2.toInt ≤ 255) (hnot : own_wsI c0 = 0 ∨ own_wsI c1 = 0 ∨ own_wsI c2 = 0) : own_Met false l Z (⟨"java/lang/StringLatin1", "indexOfNonWhitespace", "([B)I"⟩ : MethodName) jdk_43_method_37_code 4 (some .int) [] ({ frames := 2, cells := 0, slots := 0, locals := 30 } : Room) #[(.ref y)] h (fun v h' => (∃ z, v = some (.int z) ∧ z.toInt ≠ 3) ∧ h = h') := by
  refine own_met (by first | exact plainFor_of_name (by decide +kernel) | decide +kernel) ?_
  intro p e s m below meth c K
  refine own_cast (own_ix3_ef m _) ?_
  refine own_aloadN K own_d14_0 rfl rfl ?_
  refine own_arraylength K own_d14_1 H (i := 0) rfl (N := (3 : Int32)) (rfl) ?_
  refine own_istoreN K own_d14_2 (Ls' := #[.val (.ref y), .val (.int (3 : Int32)), .unset, .unset]) rfl ?_
  refine own_iconst K own_d14_3 (v := (0 : Int32)) rfl ?_
  refine own_istoreN K own_d14_4 (Ls' := #[.val (.ref y), .val (.int (3 : Int32)), .val (.int (0 : Int32)), .unset]) rfl ?_
  refine own_iloadN K own_d14_5 rfl ?_
  refine own_iloadN K own_d14_6 rfl ?_
  refine own_icmpge K own_d14_7 (fun q => absurd q (by decide)) (fun _ => ?_)
  refine own_aloadN K own_d14_10 rfl rfl ?_
  refine own_iloadN K own_d14_11 rfl ?_
  refine own_static K own_d14_12 (own_w85 hw) (own_w86 hw) (own_w83 hw) (own_w87 hw) (argsL := [(.ref y), (.int (0 : Int32))]) (rest := []) (own_gc hw H (q := 0) (by decide) rfl l0 u0) own_pd7 rfl rfl rfl (by decide) (W := 0) (Nat.le_of_eq rfl) (by decide) (by decide) (by decide) (by decide) ?_
  intro v3 h1 q2
  obtain ⟨rfl, rfl⟩ := q2
  refine own_istoreN K own_d14_15 (Ls' := #[.val (.ref y), .val (.int (3 : Int32)), .val (.int (0 : Int32)), .val (.int c0)]) rfl ?_
  refine own_iloadN K own_d14_16 rfl ?_
  refine own_bipush K own_d14_17 (v := (32 : Int32)) rfl ?_
  refine own_icmpeq K own_d14_19 (fun ga0 => ?_) (fun ga0 => ?_)
  · refine own_iinc K own_d14_41 rfl (y := (1 : Int32)) (by decide) (Ls' := #[.val (.ref y), .val (.int (3 : Int32)), .val (.int (1 : Int32)), .val (.int c0)]) rfl ?_
    refine own_goto K own_d14_44 ?_
    refine own_iloadN K own_d14_5 rfl ?_
    refine own_iloadN K own_d14_6 rfl ?_
    refine own_icmpge K own_d14_7 (fun q => absurd q (by decide)) (fun _ => ?_)
    refine own_aloadN K own_d14_10 rfl rfl ?_
    refine own_iloadN K own_d14_11 rfl ?_
    refine own_static K own_d14_12 (own_w85 hw) (own_w86 hw) (own_w83 hw) (own_w87 hw) (argsL := [(.ref y), (.int (1 : Int32))]) (rest := []) (own_gc hw H (q := 1) (by decide) rfl l1 u1) own_pd7 rfl rfl rfl (by decide) (W := 0) (Nat.le_of_eq rfl) (by decide) (by decide) (by decide) (by decide) ?_
    intro v6 h4 q5
    obtain ⟨rfl, rfl⟩ := q5
    refine own_istoreN K own_d14_15 (Ls' := #[.val (.ref y), .val (.int (3 : Int32)), .val (.int (1 : Int32)), .val (.int c1)]) rfl ?_
    refine own_iloadN K own_d14_16 rfl ?_
    refine own_bipush K own_d14_17 (v := (32 : Int32)) rfl ?_
    refine own_icmpeq K own_d14_19 (fun ga1 => ?_) (fun ga1 => ?_)
    · refine own_iinc K own_d14_41 rfl (y := (2 : Int32)) (by decide) (Ls' := #[.val (.ref y), .val (.int (3 : Int32)), .val (.int (2 : Int32)), .val (.int c1)]) rfl ?_
      refine own_goto K own_d14_44 ?_
      refine own_iloadN K own_d14_5 rfl ?_
      refine own_iloadN K own_d14_6 rfl ?_
      refine own_icmpge K own_d14_7 (fun q => absurd q (by decide)) (fun _ => ?_)
      refine own_aloadN K own_d14_10 rfl rfl ?_
      refine own_iloadN K own_d14_11 rfl ?_
      refine own_static K own_d14_12 (own_w85 hw) (own_w86 hw) (own_w83 hw) (own_w87 hw) (argsL := [(.ref y), (.int (2 : Int32))]) (rest := []) (own_gc hw H (q := 2) (by decide) rfl l2 u2) own_pd7 rfl rfl rfl (by decide) (W := 0) (Nat.le_of_eq rfl) (by decide) (by decide) (by decide) (by decide) ?_
      intro v9 h7 q8
      obtain ⟨rfl, rfl⟩ := q8
      refine own_istoreN K own_d14_15 (Ls' := #[.val (.ref y), .val (.int (3 : Int32)), .val (.int (2 : Int32)), .val (.int c2)]) rfl ?_
      refine own_iloadN K own_d14_16 rfl ?_
      refine own_bipush K own_d14_17 (v := (32 : Int32)) rfl ?_
      refine own_icmpeq K own_d14_19 (fun ga2 => ?_) (fun ga2 => ?_)
      · refine own_iinc K own_d14_41 rfl (y := (3 : Int32)) (by decide) (Ls' := #[.val (.ref y), .val (.int (3 : Int32)), .val (.int (3 : Int32)), .val (.int c2)]) rfl ?_
        refine own_goto K own_d14_44 ?_
        refine own_iloadN K own_d14_5 rfl ?_
        refine own_iloadN K own_d14_6 rfl ?_
        refine own_icmpge K own_d14_7 (fun _ => ?_) (fun q => absurd (by decide) q)
        refine own_iloadN K own_d14_47 rfl ?_
        exact own_retI K own_d14_48 (by decide) (by decide) ((by rcases hnot with q | q | q <;> first | exact absurd q (show own_wsI c0 ≠ 0 by first | exact own_wn32 ga0 | exact own_wn9 gb0 | exact gc0) | exact absurd q (show own_wsI c1 ≠ 0 by first | exact own_wn32 ga1 | exact own_wn9 gb1 | exact gc1) | exact absurd q (show own_wsI c2 ≠ 0 by first | exact own_wn32 ga2 | exact own_wn9 gb2 | exact gc2)))
      · refine own_iloadN K own_d14_22 rfl ?_
        refine own_bipush K own_d14_23 (v := (9 : Int32)) rfl ?_
        refine own_icmpeq K own_d14_25 (fun gb2 => ?_) (fun gb2 => ?_)
        · refine own_iinc K own_d14_41 rfl (y := (3 : Int32)) (by decide) (Ls' := #[.val (.ref y), .val (.int (3 : Int32)), .val (.int (3 : Int32)), .val (.int c2)]) rfl ?_
          refine own_goto K own_d14_44 ?_
          refine own_iloadN K own_d14_5 rfl ?_
          refine own_iloadN K own_d14_6 rfl ?_
          refine own_icmpge K own_d14_7 (fun _ => ?_) (fun q => absurd (by decide) q)
          refine own_iloadN K own_d14_47 rfl ?_
          exact own_retI K own_d14_48 (by decide) (by decide) ((by rcases hnot with q | q | q <;> first | exact absurd q (show own_wsI c0 ≠ 0 by first | exact own_wn32 ga0 | exact own_wn9 gb0 | exact gc0) | exact absurd q (show own_wsI c1 ≠ 0 by first | exact own_wn32 ga1 | exact own_wn9 gb1 | exact gc1) | exact absurd q (show own_wsI c2 ≠ 0 by first | exact own_wn32 ga2 | exact own_wn9 gb2 | exact gc2)))
        · refine own_getstatic K own_d14_28 (own_w88 hw) Via.refl (v := (.ref ia)) (Sta.ext H.1 hS.2.1) ?_
          refine own_iloadN K own_d14_31 rfl ?_
          refine own_virtual K own_d14_32 (own_w90 hw) (own_w91 hw) (own_w93 hw) (own_w92 hw) (own_w89 hw) (own_w94 hw) (Exa.ext H.1 hS.2.2.1) (a := ia) (argsL := [(.int c2)]) (rest := []) (own_iw hw hS H (q := c2.toInt.toNat) (by omega) (by omega)) own_pd8 rfl rfl rfl (by decide) (W := 0) (Nat.le_of_eq rfl) (by decide) (by decide) (by decide) (by decide) ?_
          intro v12 h10 q11
          obtain ⟨rfl, rfl⟩ := q11
          refine own_ifne K own_d14_35 (fun gc2 => ?_) (fun gc2 => ?_)
          · refine own_iinc K own_d14_41 rfl (y := (3 : Int32)) (by decide) (Ls' := #[.val (.ref y), .val (.int (3 : Int32)), .val (.int (3 : Int32)), .val (.int c2)]) rfl ?_
            refine own_goto K own_d14_44 ?_
            refine own_iloadN K own_d14_5 rfl ?_
            refine own_iloadN K own_d14_6 rfl ?_
            refine own_icmpge K own_d14_7 (fun _ => ?_) (fun q => absurd (by decide) q)
            refine own_iloadN K own_d14_47 rfl ?_
            exact own_retI K own_d14_48 (by decide) (by decide) ((by rcases hnot with q | q | q <;> first | exact absurd q (show own_wsI c0 ≠ 0 by first | exact own_wn32 ga0 | exact own_wn9 gb0 | exact gc0) | exact absurd q (show own_wsI c1 ≠ 0 by first | exact own_wn32 ga1 | exact own_wn9 gb1 | exact gc1) | exact absurd q (show own_wsI c2 ≠ 0 by first | exact own_wn32 ga2 | exact own_wn9 gb2 | exact gc2)))
          · refine own_goto K own_d14_38 ?_
            refine own_iloadN K own_d14_47 rfl ?_
            exact own_retI K own_d14_48 (by decide) (by decide) (⟨⟨_, rfl, by decide⟩, rfl⟩)
    · refine own_iloadN K own_d14_22 rfl ?_
      refine own_bipush K own_d14_23 (v := (9 : Int32)) rfl ?_
      refine own_icmpeq K own_d14_25 (fun gb1 => ?_) (fun gb1 => ?_)
      · refine own_iinc K own_d14_41 rfl (y := (2 : Int32)) (by decide) (Ls' := #[.val (.ref y), .val (.int (3 : Int32)), .val (.int (2 : Int32)), .val (.int c1)]) rfl ?_
        refine own_goto K own_d14_44 ?_
        refine own_iloadN K own_d14_5 rfl ?_
        refine own_iloadN K own_d14_6 rfl ?_
        refine own_icmpge K own_d14_7 (fun q => absurd q (by decide)) (fun _ => ?_)
        refine own_aloadN K own_d14_10 rfl rfl ?_
        refine own_iloadN K own_d14_11 rfl ?_
        refine own_static K own_d14_12 (own_w85 hw) (own_w86 hw) (own_w83 hw) (own_w87 hw) (argsL := [(.ref y), (.int (2 : Int32))]) (rest := []) (own_gc hw H (q := 2) (by decide) rfl l2 u2) own_pd7 rfl rfl rfl (by decide) (W := 0) (Nat.le_of_eq rfl) (by decide) (by decide) (by decide) (by decide) ?_
        intro v15 h13 q14
        obtain ⟨rfl, rfl⟩ := q14
        refine own_istoreN K own_d14_15 (Ls' := #[.val (.ref y), .val (.int (3 : Int32)), .val (.int (2 : Int32)), .val (.int c2)]) rfl ?_
        refine own_iloadN K own_d14_16 rfl ?_
        refine own_bipush K own_d14_17 (v := (32 : Int32)) rfl ?_
        refine own_icmpeq K own_d14_19 (fun ga2 => ?_) (fun ga2 => ?_)
        · refine own_iinc K own_d14_41 rfl (y := (3 : Int32)) (by decide) (Ls' := #[.val (.ref y), .val (.int (3 : Int32)), .val (.int (3 : Int32)), .val (.int c2)]) rfl ?_
          refine own_goto K own_d14_44 ?_
          refine own_iloadN K own_d14_5 rfl ?_
          refine own_iloadN K own_d14_6 rfl ?_
          refine own_icmpge K own_d14_7 (fun _ => ?_) (fun q => absurd (by decide) q)
          refine own_iloadN K own_d14_47 rfl ?_
          exact own_retI K own_d14_48 (by decide) (by decide) ((by rcases hnot with q | q | q <;> first | exact absurd q (show own_wsI c0 ≠ 0 by first | exact own_wn32 ga0 | exact own_wn9 gb0 | exact gc0) | exact absurd q (show own_wsI c1 ≠ 0 by first | exact own_wn32 ga1 | exact own_wn9 gb1 | exact gc1) | exact absurd q (show own_wsI c2 ≠ 0 by first | exact own_wn32 ga2 | exact own_wn9 gb2 | exact gc2)))
        · refine own_iloadN K own_d14_22 rfl ?_
          refine own_bipush K own_d14_23 (v := (9 : Int32)) rfl ?_
          refine own_icmpeq K own_d14_25 (fun gb2 => ?_) (fun gb2 => ?_)
          · refine own_iinc K own_d14_41 rfl (y := (3 : Int32)) (by decide) (Ls' := #[.val (.ref y), .val (.int (3 : Int32)), .val (.int (3 : Int32)), .val (.int c2)]) rfl ?_
            refine own_goto K own_d14_44 ?_
            refine own_iloadN K own_d14_5 rfl ?_
            refine own_iloadN K own_d14_6 rfl ?_
            refine own_icmpge K own_d14_7 (fun _ => ?_) (fun q => absurd (by decide) q)
            refine own_iloadN K own_d14_47 rfl ?_
            exact own_retI K own_d14_48 (by decide) (by decide) ((by rcases hnot with q | q | q <;> first | exact absurd q (show own_wsI c0 ≠ 0 by first | exact own_wn32 ga0 | exact own_wn9 gb0 | exact gc0) | exact absurd q (show own_wsI c1 ≠ 0 by first | exact own_wn32 ga1 | exact own_wn9 gb1 | exact gc1) | exact absurd q (show own_wsI c2 ≠ 0 by first | exact own_wn32 ga2 | exact own_wn9 gb2 | exact gc2)))
          · refine own_getstatic K own_d14_28 (own_w88 hw) Via.refl (v := (.ref ia)) (Sta.ext H.1 hS.2.1) ?_
            refine own_iloadN K own_d14_31 rfl ?_
            refine own_virtual K own_d14_32 (own_w90 hw) (own_w91 hw) (own_w93 hw) (own_w92 hw) (own_w89 hw) (own_w94 hw) (Exa.ext H.1 hS.2.2.1) (a := ia) (argsL := [(.int c2)]) (rest := []) (own_iw hw hS H (q := c2.toInt.toNat) (by omega) (by omega)) own_pd8 rfl rfl rfl (by decide) (W := 0) (Nat.le_of_eq rfl) (by decide) (by decide) (by decide) (by decide) ?_
            intro v18 h16 q17
            obtain ⟨rfl, rfl⟩ := q17
            refine own_ifne K own_d14_35 (fun gc2 => ?_) (fun gc2 => ?_)
            · refine own_iinc K own_d14_41 rfl (y := (3 : Int32)) (by decide) (Ls' := #[.val (.ref y), .val (.int (3 : Int32)), .val (.int (3 : Int32)), .val (.int c2)]) rfl ?_
              refine own_goto K own_d14_44 ?_
              refine own_iloadN K own_d14_5 rfl ?_
              refine own_iloadN K own_d14_6 rfl ?_
              refine own_icmpge K own_d14_7 (fun _ => ?_) (fun q => absurd (by decide) q)
              refine own_iloadN K own_d14_47 rfl ?_
              exact own_retI K own_d14_48 (by decide) (by decide) ((by rcases hnot with q | q | q <;> first | exact absurd q (show own_wsI c0 ≠ 0 by first | exact own_wn32 ga0 | exact own_wn9 gb0 | exact gc0) | exact absurd q (show own_wsI c1 ≠ 0 by first | exact own_wn32 ga1 | exact own_wn9 gb1 | exact gc1) | exact absurd q (show own_wsI c2 ≠ 0 by first | exact own_wn32 ga2 | exact own_wn9 gb2 | exact gc2)))
            · refine own_goto K own_d14_38 ?_
              refine own_iloadN K own_d14_47 rfl ?_
              exact own_retI K own_d14_48 (by decide) (by decide) (⟨⟨_, rfl, by decide⟩, rfl⟩)
      · refine own_getstatic K own_d14_28 (own_w88 hw) Via.refl (v := (.ref ia)) (Sta.ext H.1 hS.2.1) ?_
        refine own_iloadN K own_d14_31 rfl ?_
        refine own_virtual K own_d14_32 (own_w90 hw) (own_w91 hw) (own_w93 hw) (own_w92 hw) (own_w89 hw) (own_w94 hw) (Exa.ext H.1 hS.2.2.1) (a := ia) (argsL := [(.int c1)]) (rest := []) (own_iw hw hS H (q := c1.toInt.toNat) (by omega) (by omega)) own_pd8 rfl rfl rfl (by decide) (W := 0) (Nat.le_of_eq rfl) (by decide) (by decide) (by decide) (by decide) ?_
        intro v21 h19 q20
        obtain ⟨rfl, rfl⟩ := q20
        refine own_ifne K own_d14_35 (fun gc1 => ?_) (fun gc1 => ?_)
        · refine own_iinc K own_d14_41 rfl (y := (2 : Int32)) (by decide) (Ls' := #[.val (.ref y), .val (.int (3 : Int32)), .val (.int (2 : Int32)), .val (.int c1)]) rfl ?_
          refine own_goto K own_d14_44 ?_
          refine own_iloadN K own_d14_5 rfl ?_
          refine own_iloadN K own_d14_6 rfl ?_
          refine own_icmpge K own_d14_7 (fun q => absurd q (by decide)) (fun _ => ?_)
          refine own_aloadN K own_d14_10 rfl rfl ?_
          refine own_iloadN K own_d14_11 rfl ?_
          refine own_static K own_d14_12 (own_w85 hw) (own_w86 hw) (own_w83 hw) (own_w87 hw) (argsL := [(.ref y), (.int (2 : Int32))]) (rest := []) (own_gc hw H (q := 2) (by decide) rfl l2 u2) own_pd7 rfl rfl rfl (by decide) (W := 0) (Nat.le_of_eq rfl) (by decide) (by decide) (by decide) (by decide) ?_
          intro v24 h22 q23
          obtain ⟨rfl, rfl⟩ := q23
          refine own_istoreN K own_d14_15 (Ls' := #[.val (.ref y), .val (.int (3 : Int32)), .val (.int (2 : Int32)), .val (.int c2)]) rfl ?_
          refine own_iloadN K own_d14_16 rfl ?_
          refine own_bipush K own_d14_17 (v := (32 : Int32)) rfl ?_
          refine own_icmpeq K own_d14_19 (fun ga2 => ?_) (fun ga2 => ?_)
          · refine own_iinc K own_d14_41 rfl (y := (3 : Int32)) (by decide) (Ls' := #[.val (.ref y), .val (.int (3 : Int32)), .val (.int (3 : Int32)), .val (.int c2)]) rfl ?_
            refine own_goto K own_d14_44 ?_
            refine own_iloadN K own_d14_5 rfl ?_
            refine own_iloadN K own_d14_6 rfl ?_
            refine own_icmpge K own_d14_7 (fun _ => ?_) (fun q => absurd (by decide) q)
            refine own_iloadN K own_d14_47 rfl ?_
            exact own_retI K own_d14_48 (by decide) (by decide) ((by rcases hnot with q | q | q <;> first | exact absurd q (show own_wsI c0 ≠ 0 by first | exact own_wn32 ga0 | exact own_wn9 gb0 | exact gc0) | exact absurd q (show own_wsI c1 ≠ 0 by first | exact own_wn32 ga1 | exact own_wn9 gb1 | exact gc1) | exact absurd q (show own_wsI c2 ≠ 0 by first | exact own_wn32 ga2 | exact own_wn9 gb2 | exact gc2)))
          · refine own_iloadN K own_d14_22 rfl ?_
            refine own_bipush K own_d14_23 (v := (9 : Int32)) rfl ?_
            refine own_icmpeq K own_d14_25 (fun gb2 => ?_) (fun gb2 => ?_)
            · refine own_iinc K own_d14_41 rfl (y := (3 : Int32)) (by decide) (Ls' := #[.val (.ref y), .val (.int (3 : Int32)), .val (.int (3 : Int32)), .val (.int c2)]) rfl ?_
              refine own_goto K own_d14_44 ?_
              refine own_iloadN K own_d14_5 rfl ?_
              refine own_iloadN K own_d14_6 rfl ?_
              refine own_icmpge K own_d14_7 (fun _ => ?_) (fun q => absurd (by decide) q)
              refine own_iloadN K own_d14_47 rfl ?_
              exact own_retI K own_d14_48 (by decide) (by decide) ((by rcases hnot with q | q | q <;> first | exact absurd q (show own_wsI c0 ≠ 0 by first | exact own_wn32 ga0 | exact own_wn9 gb0 | exact gc0) | exact absurd q (show own_wsI c1 ≠ 0 by first | exact own_wn32 ga1 | exact own_wn9 gb1 | exact gc1) | exact absurd q (show own_wsI c2 ≠ 0 by first | exact own_wn32 ga2 | exact own_wn9 gb2 | exact gc2)))
            · refine own_getstatic K own_d14_28 (own_w88 hw) Via.refl (v := (.ref ia)) (Sta.ext H.1 hS.2.1) ?_
              refine own_iloadN K own_d14_31 rfl ?_
              refine own_virtual K own_d14_32 (own_w90 hw) (own_w91 hw) (own_w93 hw) (own_w92 hw) (own_w89 hw) (own_w94 hw) (Exa.ext H.1 hS.2.2.1) (a := ia) (argsL := [(.int c2)]) (rest := []) (own_iw hw hS H (q := c2.toInt.toNat) (by omega) (by omega)) own_pd8 rfl rfl rfl (by decide) (W := 0) (Nat.le_of_eq rfl) (by decide) (by decide) (by decide) (by decide) ?_
              intro v27 h25 q26
              obtain ⟨rfl, rfl⟩ := q26
              refine own_ifne K own_d14_35 (fun gc2 => ?_) (fun gc2 => ?_)
              · refine own_iinc K own_d14_41 rfl (y := (3 : Int32)) (by decide) (Ls' := #[.val (.ref y), .val (.int (3 : Int32)), .val (.int (3 : Int32)), .val (.int c2)]) rfl ?_
                refine own_goto K own_d14_44 ?_
                refine own_iloadN K own_d14_5 rfl ?_
                refine own_iloadN K own_d14_6 rfl ?_
                refine own_icmpge K own_d14_7 (fun _ => ?_) (fun q => absurd (by decide) q)
                refine own_iloadN K own_d14_47 rfl ?_
                exact own_retI K own_d14_48 (by decide) (by decide) ((by rcases hnot with q | q | q <;> first | exact absurd q (show own_wsI c0 ≠ 0 by first | exact own_wn32 ga0 | exact own_wn9 gb0 | exact gc0) | exact absurd q (show own_wsI c1 ≠ 0 by first | exact own_wn32 ga1 | exact own_wn9 gb1 | exact gc1) | exact absurd q (show own_wsI c2 ≠ 0 by first | exact own_wn32 ga2 | exact own_wn9 gb2 | exact gc2)))
              · refine own_goto K own_d14_38 ?_
                refine own_iloadN K own_d14_47 rfl ?_
                exact own_retI K own_d14_48 (by decide) (by decide) (⟨⟨_, rfl, by decide⟩, rfl⟩)
        · refine own_goto K own_d14_38 ?_
          refine own_iloadN K own_d14_47 rfl ?_
          exact own_retI K own_d14_48 (by decide) (by decide) (⟨⟨_, rfl, by decide⟩, rfl⟩)
  · refine own_iloadN K own_d14_22 rfl ?_
    refine own_bipush K own_d14_23 (v := (9 : Int32)) rfl ?_
    refine own_icmpeq K own_d14_25 (fun gb0 => ?_) (fun gb0 => ?_)
    · refine own_iinc K own_d14_41 rfl (y := (1 : Int32)) (by decide) (Ls' := #[.val (.ref y), .val (.int (3 : Int32)), .val (.int (1 : Int32)), .val (.int c0)]) rfl ?_
      refine own_goto K own_d14_44 ?_
      refine own_iloadN K own_d14_5 rfl ?_
      refine own_iloadN K own_d14_6 rfl ?_
      refine own_icmpge K own_d14_7 (fun q => absurd q (by decide)) (fun _ => ?_)
      refine own_aloadN K own_d14_10 rfl rfl ?_
      refine own_iloadN K own_d14_11 rfl ?_
      refine own_static K own_d14_12 (own_w85 hw) (own_w86 hw) (own_w83 hw) (own_w87 hw) (argsL := [(.ref y), (.int (1 : Int32))]) (rest := []) (own_gc hw H (q := 1) (by decide) rfl l1 u1) own_pd7 rfl rfl rfl (by decide) (W := 0) (Nat.le_of_eq rfl) (by decide) (by decide) (by decide) (by decide) ?_
      intro v30 h28 q29
      obtain ⟨rfl, rfl⟩ := q29
      refine own_istoreN K own_d14_15 (Ls' := #[.val (.ref y), .val (.int (3 : Int32)), .val (.int (1 : Int32)), .val (.int c1)]) rfl ?_
      refine own_iloadN K own_d14_16 rfl ?_
      refine own_bipush K own_d14_17 (v := (32 : Int32)) rfl ?_
      refine own_icmpeq K own_d14_19 (fun ga1 => ?_) (fun ga1 => ?_)
      · refine own_iinc K own_d14_41 rfl (y := (2 : Int32)) (by decide) (Ls' := #[.val (.ref y), .val (.int (3 : Int32)), .val (.int (2 : Int32)), .val (.int c1)]) rfl ?_
        refine own_goto K own_d14_44 ?_
        refine own_iloadN K own_d14_5 rfl ?_
        refine own_iloadN K own_d14_6 rfl ?_
        refine own_icmpge K own_d14_7 (fun q => absurd q (by decide)) (fun _ => ?_)
        refine own_aloadN K own_d14_10 rfl rfl ?_
        refine own_iloadN K own_d14_11 rfl ?_
        refine own_static K own_d14_12 (own_w85 hw) (own_w86 hw) (own_w83 hw) (own_w87 hw) (argsL := [(.ref y), (.int (2 : Int32))]) (rest := []) (own_gc hw H (q := 2) (by decide) rfl l2 u2) own_pd7 rfl rfl rfl (by decide) (W := 0) (Nat.le_of_eq rfl) (by decide) (by decide) (by decide) (by decide) ?_
        intro v33 h31 q32
        obtain ⟨rfl, rfl⟩ := q32
        refine own_istoreN K own_d14_15 (Ls' := #[.val (.ref y), .val (.int (3 : Int32)), .val (.int (2 : Int32)), .val (.int c2)]) rfl ?_
        refine own_iloadN K own_d14_16 rfl ?_
        refine own_bipush K own_d14_17 (v := (32 : Int32)) rfl ?_
        refine own_icmpeq K own_d14_19 (fun ga2 => ?_) (fun ga2 => ?_)
        · refine own_iinc K own_d14_41 rfl (y := (3 : Int32)) (by decide) (Ls' := #[.val (.ref y), .val (.int (3 : Int32)), .val (.int (3 : Int32)), .val (.int c2)]) rfl ?_
          refine own_goto K own_d14_44 ?_
          refine own_iloadN K own_d14_5 rfl ?_
          refine own_iloadN K own_d14_6 rfl ?_
          refine own_icmpge K own_d14_7 (fun _ => ?_) (fun q => absurd (by decide) q)
          refine own_iloadN K own_d14_47 rfl ?_
          exact own_retI K own_d14_48 (by decide) (by decide) ((by rcases hnot with q | q | q <;> first | exact absurd q (show own_wsI c0 ≠ 0 by first | exact own_wn32 ga0 | exact own_wn9 gb0 | exact gc0) | exact absurd q (show own_wsI c1 ≠ 0 by first | exact own_wn32 ga1 | exact own_wn9 gb1 | exact gc1) | exact absurd q (show own_wsI c2 ≠ 0 by first | exact own_wn32 ga2 | exact own_wn9 gb2 | exact gc2)))
        · refine own_iloadN K own_d14_22 rfl ?_
          refine own_bipush K own_d14_23 (v := (9 : Int32)) rfl ?_
          refine own_icmpeq K own_d14_25 (fun gb2 => ?_) (fun gb2 => ?_)
          · refine own_iinc K own_d14_41 rfl (y := (3 : Int32)) (by decide) (Ls' := #[.val (.ref y), .val (.int (3 : Int32)), .val (.int (3 : Int32)), .val (.int c2)]) rfl ?_
            refine own_goto K own_d14_44 ?_
            refine own_iloadN K own_d14_5 rfl ?_
            refine own_iloadN K own_d14_6 rfl ?_
            refine own_icmpge K own_d14_7 (fun _ => ?_) (fun q => absurd (by decide) q)
            refine own_iloadN K own_d14_47 rfl ?_
            exact own_retI K own_d14_48 (by decide) (by decide) ((by rcases hnot with q | q | q <;> first | exact absurd q (show own_wsI c0 ≠ 0 by first | exact own_wn32 ga0 | exact own_wn9 gb0 | exact gc0) | exact absurd q (show own_wsI c1 ≠ 0 by first | exact own_wn32 ga1 | exact own_wn9 gb1 | exact gc1) | exact absurd q (show own_wsI c2 ≠ 0 by first | exact own_wn32 ga2 | exact own_wn9 gb2 | exact gc2)))
          · refine own_getstatic K own_d14_28 (own_w88 hw) Via.refl (v := (.ref ia)) (Sta.ext H.1 hS.2.1) ?_
            refine own_iloadN K own_d14_31 rfl ?_
            refine own_virtual K own_d14_32 (own_w90 hw) (own_w91 hw) (own_w93 hw) (own_w92 hw) (own_w89 hw) (own_w94 hw) (Exa.ext H.1 hS.2.2.1) (a := ia) (argsL := [(.int c2)]) (rest := []) (own_iw hw hS H (q := c2.toInt.toNat) (by omega) (by omega)) own_pd8 rfl rfl rfl (by decide) (W := 0) (Nat.le_of_eq rfl) (by decide) (by decide) (by decide) (by decide) ?_
            intro v36 h34 q35
            obtain ⟨rfl, rfl⟩ := q35
            refine own_ifne K own_d14_35 (fun gc2 => ?_) (fun gc2 => ?_)
            · refine own_iinc K own_d14_41 rfl (y := (3 : Int32)) (by decide) (Ls' := #[.val (.ref y), .val (.int (3 : Int32)), .val (.int (3 : Int32)), .val (.int c2)]) rfl ?_
              refine own_goto K own_d14_44 ?_
              refine own_iloadN K own_d14_5 rfl ?_
              refine own_iloadN K own_d14_6 rfl ?_
              refine own_icmpge K own_d14_7 (fun _ => ?_) (fun q => absurd (by decide) q)
              refine own_iloadN K own_d14_47 rfl ?_
              exact own_retI K own_d14_48 (by decide) (by decide) ((by rcases hnot with q | q | q <;> first | exact absurd q (show own_wsI c0 ≠ 0 by first | exact own_wn32 ga0 | exact own_wn9 gb0 | exact gc0) | exact absurd q (show own_wsI c1 ≠ 0 by first | exact own_wn32 ga1 | exact own_wn9 gb1 | exact gc1) | exact absurd q (show own_wsI c2 ≠ 0 by first | exact own_wn32 ga2 | exact own_wn9 gb2 | exact gc2)))
            · refine own_goto K own_d14_38 ?_
              refine own_iloadN K own_d14_47 rfl ?_
              exact own_retI K own_d14_48 (by decide) (by decide) (⟨⟨_, rfl, by decide⟩, rfl⟩)
      · refine own_iloadN K own_d14_22 rfl ?_
        refine own_bipush K own_d14_23 (v := (9 : Int32)) rfl ?_
        refine own_icmpeq K own_d14_25 (fun gb1 => ?_) (fun gb1 => ?_)
        · refine own_iinc K own_d14_41 rfl (y := (2 : Int32)) (by decide) (Ls' := #[.val (.ref y), .val (.int (3 : Int32)), .val (.int (2 : Int32)), .val (.int c1)]) rfl ?_
          refine own_goto K own_d14_44 ?_
          refine own_iloadN K own_d14_5 rfl ?_
          refine own_iloadN K own_d14_6 rfl ?_
          refine own_icmpge K own_d14_7 (fun q => absurd q (by decide)) (fun _ => ?_)
          refine own_aloadN K own_d14_10 rfl rfl ?_
          refine own_iloadN K own_d14_11 rfl ?_
          refine own_static K own_d14_12 (own_w85 hw) (own_w86 hw) (own_w83 hw) (own_w87 hw) (argsL := [(.ref y), (.int (2 : Int32))]) (rest := []) (own_gc hw H (q := 2) (by decide) rfl l2 u2) own_pd7 rfl rfl rfl (by decide) (W := 0) (Nat.le_of_eq rfl) (by decide) (by decide) (by decide) (by decide) ?_
          intro v39 h37 q38
          obtain ⟨rfl, rfl⟩ := q38
          refine own_istoreN K own_d14_15 (Ls' := #[.val (.ref y), .val (.int (3 : Int32)), .val (.int (2 : Int32)), .val (.int c2)]) rfl ?_
          refine own_iloadN K own_d14_16 rfl ?_
          refine own_bipush K own_d14_17 (v := (32 : Int32)) rfl ?_
          refine own_icmpeq K own_d14_19 (fun ga2 => ?_) (fun ga2 => ?_)
          · refine own_iinc K own_d14_41 rfl (y := (3 : Int32)) (by decide) (Ls' := #[.val (.ref y), .val (.int (3 : Int32)), .val (.int (3 : Int32)), .val (.int c2)]) rfl ?_
            refine own_goto K own_d14_44 ?_
            refine own_iloadN K own_d14_5 rfl ?_
            refine own_iloadN K own_d14_6 rfl ?_
            refine own_icmpge K own_d14_7 (fun _ => ?_) (fun q => absurd (by decide) q)
            refine own_iloadN K own_d14_47 rfl ?_
            exact own_retI K own_d14_48 (by decide) (by decide) ((by rcases hnot with q | q | q <;> first | exact absurd q (show own_wsI c0 ≠ 0 by first | exact own_wn32 ga0 | exact own_wn9 gb0 | exact gc0) | exact absurd q (show own_wsI c1 ≠ 0 by first | exact own_wn32 ga1 | exact own_wn9 gb1 | exact gc1) | exact absurd q (show own_wsI c2 ≠ 0 by first | exact own_wn32 ga2 | exact own_wn9 gb2 | exact gc2)))
          · refine own_iloadN K own_d14_22 rfl ?_
            refine own_bipush K own_d14_23 (v := (9 : Int32)) rfl ?_
            refine own_icmpeq K own_d14_25 (fun gb2 => ?_) (fun gb2 => ?_)
            · refine own_iinc K own_d14_41 rfl (y := (3 : Int32)) (by decide) (Ls' := #[.val (.ref y), .val (.int (3 : Int32)), .val (.int (3 : Int32)), .val (.int c2)]) rfl ?_
              refine own_goto K own_d14_44 ?_
              refine own_iloadN K own_d14_5 rfl ?_
              refine own_iloadN K own_d14_6 rfl ?_
              refine own_icmpge K own_d14_7 (fun _ => ?_) (fun q => absurd (by decide) q)
              refine own_iloadN K own_d14_47 rfl ?_
              exact own_retI K own_d14_48 (by decide) (by decide) ((by rcases hnot with q | q | q <;> first | exact absurd q (show own_wsI c0 ≠ 0 by first | exact own_wn32 ga0 | exact own_wn9 gb0 | exact gc0) | exact absurd q (show own_wsI c1 ≠ 0 by first | exact own_wn32 ga1 | exact own_wn9 gb1 | exact gc1) | exact absurd q (show own_wsI c2 ≠ 0 by first | exact own_wn32 ga2 | exact own_wn9 gb2 | exact gc2)))
            · refine own_getstatic K own_d14_28 (own_w88 hw) Via.refl (v := (.ref ia)) (Sta.ext H.1 hS.2.1) ?_
              refine own_iloadN K own_d14_31 rfl ?_
              refine own_virtual K own_d14_32 (own_w90 hw) (own_w91 hw) (own_w93 hw) (own_w92 hw) (own_w89 hw) (own_w94 hw) (Exa.ext H.1 hS.2.2.1) (a := ia) (argsL := [(.int c2)]) (rest := []) (own_iw hw hS H (q := c2.toInt.toNat) (by omega) (by omega)) own_pd8 rfl rfl rfl (by decide) (W := 0) (Nat.le_of_eq rfl) (by decide) (by decide) (by decide) (by decide) ?_
              intro v42 h40 q41
              obtain ⟨rfl, rfl⟩ := q41
              refine own_ifne K own_d14_35 (fun gc2 => ?_) (fun gc2 => ?_)
              · refine own_iinc K own_d14_41 rfl (y := (3 : Int32)) (by decide) (Ls' := #[.val (.ref y), .val (.int (3 : Int32)), .val (.int (3 : Int32)), .val (.int c2)]) rfl ?_
                refine own_goto K own_d14_44 ?_
                refine own_iloadN K own_d14_5 rfl ?_
                refine own_iloadN K own_d14_6 rfl ?_
                refine own_icmpge K own_d14_7 (fun _ => ?_) (fun q => absurd (by decide) q)
                refine own_iloadN K own_d14_47 rfl ?_
                exact own_retI K own_d14_48 (by decide) (by decide) ((by rcases hnot with q | q | q <;> first | exact absurd q (show own_wsI c0 ≠ 0 by first | exact own_wn32 ga0 | exact own_wn9 gb0 | exact gc0) | exact absurd q (show own_wsI c1 ≠ 0 by first | exact own_wn32 ga1 | exact own_wn9 gb1 | exact gc1) | exact absurd q (show own_wsI c2 ≠ 0 by first | exact own_wn32 ga2 | exact own_wn9 gb2 | exact gc2)))
              · refine own_goto K own_d14_38 ?_
                refine own_iloadN K own_d14_47 rfl ?_
                exact own_retI K own_d14_48 (by decide) (by decide) (⟨⟨_, rfl, by decide⟩, rfl⟩)
        · refine own_getstatic K own_d14_28 (own_w88 hw) Via.refl (v := (.ref ia)) (Sta.ext H.1 hS.2.1) ?_
          refine own_iloadN K own_d14_31 rfl ?_
          refine own_virtual K own_d14_32 (own_w90 hw) (own_w91 hw) (own_w93 hw) (own_w92 hw) (own_w89 hw) (own_w94 hw) (Exa.ext H.1 hS.2.2.1) (a := ia) (argsL := [(.int c1)]) (rest := []) (own_iw hw hS H (q := c1.toInt.toNat) (by omega) (by omega)) own_pd8 rfl rfl rfl (by decide) (W := 0) (Nat.le_of_eq rfl) (by decide) (by decide) (by decide) (by decide) ?_
          intro v45 h43 q44
          obtain ⟨rfl, rfl⟩ := q44
          refine own_ifne K own_d14_35 (fun gc1 => ?_) (fun gc1 => ?_)
          · refine own_iinc K own_d14_41 rfl (y := (2 : Int32)) (by decide) (Ls' := #[.val (.ref y), .val (.int (3 : Int32)), .val (.int (2 : Int32)), .val (.int c1)]) rfl ?_
            refine own_goto K own_d14_44 ?_
            refine own_iloadN K own_d14_5 rfl ?_
            refine own_iloadN K own_d14_6 rfl ?_
            refine own_icmpge K own_d14_7 (fun q => absurd q (by decide)) (fun _ => ?_)
            refine own_aloadN K own_d14_10 rfl rfl ?_
            refine own_iloadN K own_d14_11 rfl ?_
            refine own_static K own_d14_12 (own_w85 hw) (own_w86 hw) (own_w83 hw) (own_w87 hw) (argsL := [(.ref y), (.int (2 : Int32))]) (rest := []) (own_gc hw H (q := 2) (by decide) rfl l2 u2) own_pd7 rfl rfl rfl (by decide) (W := 0) (Nat.le_of_eq rfl) (by decide) (by decide) (by decide) (by decide) ?_
            intro v48 h46 q47
            obtain ⟨rfl, rfl⟩ := q47
            refine own_istoreN K own_d14_15 (Ls' := #[.val (.ref y), .val (.int (3 : Int32)), .val (.int (2 : Int32)), .val (.int c2)]) rfl ?_
            refine own_iloadN K own_d14_16 rfl ?_
            refine own_bipush K own_d14_17 (v := (32 : Int32)) rfl ?_
            refine own_icmpeq K own_d14_19 (fun ga2 => ?_) (fun ga2 => ?_)
            · refine own_iinc K own_d14_41 rfl (y := (3 : Int32)) (by decide) (Ls' := #[.val (.ref y), .val (.int (3 : Int32)), .val (.int (3 : Int32)), .val (.int c2)]) rfl ?_
              refine own_goto K own_d14_44 ?_
              refine own_iloadN K own_d14_5 rfl ?_
              refine own_iloadN K own_d14_6 rfl ?_
              refine own_icmpge K own_d14_7 (fun _ => ?_) (fun q => absurd (by decide) q)
              refine own_iloadN K own_d14_47 rfl ?_
              exact own_retI K own_d14_48 (by decide) (by decide) ((by rcases hnot with q | q | q <;> first | exact absurd q (show own_wsI c0 ≠ 0 by first | exact own_wn32 ga0 | exact own_wn9 gb0 | exact gc0) | exact absurd q (show own_wsI c1 ≠ 0 by first | exact own_wn32 ga1 | exact own_wn9 gb1 | exact gc1) | exact absurd q (show own_wsI c2 ≠ 0 by first | exact own_wn32 ga2 | exact own_wn9 gb2 | exact gc2)))
            · refine own_iloadN K own_d14_22 rfl ?_
              refine own_bipush K own_d14_23 (v := (9 : Int32)) rfl ?_
              refine own_icmpeq K own_d14_25 (fun gb2 => ?_) (fun gb2 => ?_)
              · refine own_iinc K own_d14_41 rfl (y := (3 : Int32)) (by decide) (Ls' := #[.val (.ref y), .val (.int (3 : Int32)), .val (.int (3 : Int32)), .val (.int c2)]) rfl ?_
                refine own_goto K own_d14_44 ?_
                refine own_iloadN K own_d14_5 rfl ?_
                refine own_iloadN K own_d14_6 rfl ?_
                refine own_icmpge K own_d14_7 (fun _ => ?_) (fun q => absurd (by decide) q)
                refine own_iloadN K own_d14_47 rfl ?_
                exact own_retI K own_d14_48 (by decide) (by decide) ((by rcases hnot with q | q | q <;> first | exact absurd q (show own_wsI c0 ≠ 0 by first | exact own_wn32 ga0 | exact own_wn9 gb0 | exact gc0) | exact absurd q (show own_wsI c1 ≠ 0 by first | exact own_wn32 ga1 | exact own_wn9 gb1 | exact gc1) | exact absurd q (show own_wsI c2 ≠ 0 by first | exact own_wn32 ga2 | exact own_wn9 gb2 | exact gc2)))
              · refine own_getstatic K own_d14_28 (own_w88 hw) Via.refl (v := (.ref ia)) (Sta.ext H.1 hS.2.1) ?_
                refine own_iloadN K own_d14_31 rfl ?_
                refine own_virtual K own_d14_32 (own_w90 hw) (own_w91 hw) (own_w93 hw) (own_w92 hw) (own_w89 hw) (own_w94 hw) (Exa.ext H.1 hS.2.2.1) (a := ia) (argsL := [(.int c2)]) (rest := []) (own_iw hw hS H (q := c2.toInt.toNat) (by omega) (by omega)) own_pd8 rfl rfl rfl (by decide) (W := 0) (Nat.le_of_eq rfl) (by decide) (by decide) (by decide) (by decide) ?_
                intro v51 h49 q50
                obtain ⟨rfl, rfl⟩ := q50
                refine own_ifne K own_d14_35 (fun gc2 => ?_) (fun gc2 => ?_)
                · refine own_iinc K own_d14_41 rfl (y := (3 : Int32)) (by decide) (Ls' := #[.val (.ref y), .val (.int (3 : Int32)), .val (.int (3 : Int32)), .val (.int c2)]) rfl ?_
                  refine own_goto K own_d14_44 ?_
                  refine own_iloadN K own_d14_5 rfl ?_
                  refine own_iloadN K own_d14_6 rfl ?_
                  refine own_icmpge K own_d14_7 (fun _ => ?_) (fun q => absurd (by decide) q)
                  refine own_iloadN K own_d14_47 rfl ?_
                  exact own_retI K own_d14_48 (by decide) (by decide) ((by rcases hnot with q | q | q <;> first | exact absurd q (show own_wsI c0 ≠ 0 by first | exact own_wn32 ga0 | exact own_wn9 gb0 | exact gc0) | exact absurd q (show own_wsI c1 ≠ 0 by first | exact own_wn32 ga1 | exact own_wn9 gb1 | exact gc1) | exact absurd q (show own_wsI c2 ≠ 0 by first | exact own_wn32 ga2 | exact own_wn9 gb2 | exact gc2)))
                · refine own_goto K own_d14_38 ?_
                  refine own_iloadN K own_d14_47 rfl ?_
                  exact own_retI K own_d14_48 (by decide) (by decide) (⟨⟨_, rfl, by decide⟩, rfl⟩)
          · refine own_goto K own_d14_38 ?_
            refine own_iloadN K own_d14_47 rfl ?_
            exact own_retI K own_d14_48 (by decide) (by decide) (⟨⟨_, rfl, by decide⟩, rfl⟩)
    · refine own_getstatic K own_d14_28 (own_w88 hw) Via.refl (v := (.ref ia)) (Sta.ext H.1 hS.2.1) ?_
      refine own_iloadN K own_d14_31 rfl ?_
      refine own_virtual K own_d14_32 (own_w90 hw) (own_w91 hw) (own_w93 hw) (own_w92 hw) (own_w89 hw) (own_w94 hw) (Exa.ext H.1 hS.2.2.1) (a := ia) (argsL := [(.int c0)]) (rest := []) (own_iw hw hS H (q := c0.toInt.toNat) (by omega) (by omega)) own_pd8 rfl rfl rfl (by decide) (W := 0) (Nat.le_of_eq rfl) (by decide) (by decide) (by decide) (by decide) ?_
      intro v54 h52 q53
      obtain ⟨rfl, rfl⟩ := q53
      refine own_ifne K own_d14_35 (fun gc0 => ?_) (fun gc0 => ?_)
      · refine own_iinc K own_d14_41 rfl (y := (1 : Int32)) (by decide) (Ls' := #[.val (.ref y), .val (.int (3 : Int32)), .val (.int (1 : Int32)), .val (.int c0)]) rfl ?_
        refine own_goto K own_d14_44 ?_
        refine own_iloadN K own_d14_5 rfl ?_
        refine own_iloadN K own_d14_6 rfl ?_
        refine own_icmpge K own_d14_7 (fun q => absurd q (by decide)) (fun _ => ?_)
        refine own_aloadN K own_d14_10 rfl rfl ?_
        refine own_iloadN K own_d14_11 rfl ?_
        refine own_static K own_d14_12 (own_w85 hw) (own_w86 hw) (own_w83 hw) (own_w87 hw) (argsL := [(.ref y), (.int (1 : Int32))]) (rest := []) (own_gc hw H (q := 1) (by decide) rfl l1 u1) own_pd7 rfl rfl rfl (by decide) (W := 0) (Nat.le_of_eq rfl) (by decide) (by decide) (by decide) (by decide) ?_
        intro v57 h55 q56
        obtain ⟨rfl, rfl⟩ := q56
        refine own_istoreN K own_d14_15 (Ls' := #[.val (.ref y), .val (.int (3 : Int32)), .val (.int (1 : Int32)), .val (.int c1)]) rfl ?_
        refine own_iloadN K own_d14_16 rfl ?_
        refine own_bipush K own_d14_17 (v := (32 : Int32)) rfl ?_
        refine own_icmpeq K own_d14_19 (fun ga1 => ?_) (fun ga1 => ?_)
        · refine own_iinc K own_d14_41 rfl (y := (2 : Int32)) (by decide) (Ls' := #[.val (.ref y), .val (.int (3 : Int32)), .val (.int (2 : Int32)), .val (.int c1)]) rfl ?_
          refine own_goto K own_d14_44 ?_
          refine own_iloadN K own_d14_5 rfl ?_
          refine own_iloadN K own_d14_6 rfl ?_
          refine own_icmpge K own_d14_7 (fun q => absurd q (by decide)) (fun _ => ?_)
          refine own_aloadN K own_d14_10 rfl rfl ?_
          refine own_iloadN K own_d14_11 rfl ?_
          refine own_static K own_d14_12 (own_w85 hw) (own_w86 hw) (own_w83 hw) (own_w87 hw) (argsL := [(.ref y), (.int (2 : Int32))]) (rest := []) (own_gc hw H (q := 2) (by decide) rfl l2 u2) own_pd7 rfl rfl rfl (by decide) (W := 0) (Nat.le_of_eq rfl) (by decide) (by decide) (by decide) (by decide) ?_
          intro v60 h58 q59
          obtain ⟨rfl, rfl⟩ := q59
          refine own_istoreN K own_d14_15 (Ls' := #[.val (.ref y), .val (.int (3 : Int32)), .val (.int (2 : Int32)), .val (.int c2)]) rfl ?_
          refine own_iloadN K own_d14_16 rfl ?_
          refine own_bipush K own_d14_17 (v := (32 : Int32)) rfl ?_
          refine own_icmpeq K own_d14_19 (fun ga2 => ?_) (fun ga2 => ?_)
          · refine own_iinc K own_d14_41 rfl (y := (3 : Int32)) (by decide) (Ls' := #[.val (.ref y), .val (.int (3 : Int32)), .val (.int (3 : Int32)), .val (.int c2)]) rfl ?_
            refine own_goto K own_d14_44 ?_
            refine own_iloadN K own_d14_5 rfl ?_
            refine own_iloadN K own_d14_6 rfl ?_
            refine own_icmpge K own_d14_7 (fun _ => ?_) (fun q => absurd (by decide) q)
            refine own_iloadN K own_d14_47 rfl ?_
            exact own_retI K own_d14_48 (by decide) (by decide) ((by rcases hnot with q | q | q <;> first | exact absurd q (show own_wsI c0 ≠ 0 by first | exact own_wn32 ga0 | exact own_wn9 gb0 | exact gc0) | exact absurd q (show own_wsI c1 ≠ 0 by first | exact own_wn32 ga1 | exact own_wn9 gb1 | exact gc1) | exact absurd q (show own_wsI c2 ≠ 0 by first | exact own_wn32 ga2 | exact own_wn9 gb2 | exact gc2)))
          · refine own_iloadN K own_d14_22 rfl ?_
            refine own_bipush K own_d14_23 (v := (9 : Int32)) rfl ?_
            refine own_icmpeq K own_d14_25 (fun gb2 => ?_) (fun gb2 => ?_)
            · refine own_iinc K own_d14_41 rfl (y := (3 : Int32)) (by decide) (Ls' := #[.val (.ref y), .val (.int (3 : Int32)), .val (.int (3 : Int32)), .val (.int c2)]) rfl ?_
              refine own_goto K own_d14_44 ?_
              refine own_iloadN K own_d14_5 rfl ?_
              refine own_iloadN K own_d14_6 rfl ?_
              refine own_icmpge K own_d14_7 (fun _ => ?_) (fun q => absurd (by decide) q)
              refine own_iloadN K own_d14_47 rfl ?_
              exact own_retI K own_d14_48 (by decide) (by decide) ((by rcases hnot with q | q | q <;> first | exact absurd q (show own_wsI c0 ≠ 0 by first | exact own_wn32 ga0 | exact own_wn9 gb0 | exact gc0) | exact absurd q (show own_wsI c1 ≠ 0 by first | exact own_wn32 ga1 | exact own_wn9 gb1 | exact gc1) | exact absurd q (show own_wsI c2 ≠ 0 by first | exact own_wn32 ga2 | exact own_wn9 gb2 | exact gc2)))
            · refine own_getstatic K own_d14_28 (own_w88 hw) Via.refl (v := (.ref ia)) (Sta.ext H.1 hS.2.1) ?_
              refine own_iloadN K own_d14_31 rfl ?_
              refine own_virtual K own_d14_32 (own_w90 hw) (own_w91 hw) (own_w93 hw) (own_w92 hw) (own_w89 hw) (own_w94 hw) (Exa.ext H.1 hS.2.2.1) (a := ia) (argsL := [(.int c2)]) (rest := []) (own_iw hw hS H (q := c2.toInt.toNat) (by omega) (by omega)) own_pd8 rfl rfl rfl (by decide) (W := 0) (Nat.le_of_eq rfl) (by decide) (by decide) (by decide) (by decide) ?_
              intro v63 h61 q62
              obtain ⟨rfl, rfl⟩ := q62
              refine own_ifne K own_d14_35 (fun gc2 => ?_) (fun gc2 => ?_)
              · refine own_iinc K own_d14_41 rfl (y := (3 : Int32)) (by decide) (Ls' := #[.val (.ref y), .val (.int (3 : Int32)), .val (.int (3 : Int32)), .val (.int c2)]) rfl ?_
                refine own_goto K own_d14_44 ?_
                refine own_iloadN K own_d14_5 rfl ?_
                refine own_iloadN K own_d14_6 rfl ?_
                refine own_icmpge K own_d14_7 (fun _ => ?_) (fun q => absurd (by decide) q)
                refine own_iloadN K own_d14_47 rfl ?_
                exact own_retI K own_d14_48 (by decide) (by decide) ((by rcases hnot with q | q | q <;> first | exact absurd q (show own_wsI c0 ≠ 0 by first | exact own_wn32 ga0 | exact own_wn9 gb0 | exact gc0) | exact absurd q (show own_wsI c1 ≠ 0 by first | exact own_wn32 ga1 | exact own_wn9 gb1 | exact gc1) | exact absurd q (show own_wsI c2 ≠ 0 by first | exact own_wn32 ga2 | exact own_wn9 gb2 | exact gc2)))
              · refine own_goto K own_d14_38 ?_
                refine own_iloadN K own_d14_47 rfl ?_
                exact own_retI K own_d14_48 (by decide) (by decide) (⟨⟨_, rfl, by decide⟩, rfl⟩)
        · refine own_iloadN K own_d14_22 rfl ?_
          refine own_bipush K own_d14_23 (v := (9 : Int32)) rfl ?_
          refine own_icmpeq K own_d14_25 (fun gb1 => ?_) (fun gb1 => ?_)
          · refine own_iinc K own_d14_41 rfl (y := (2 : Int32)) (by decide) (Ls' := #[.val (.ref y), .val (.int (3 : Int32)), .val (.int (2 : Int32)), .val (.int c1)]) rfl ?_
            refine own_goto K own_d14_44 ?_
            refine own_iloadN K own_d14_5 rfl ?_
            refine own_iloadN K own_d14_6 rfl ?_
            refine own_icmpge K own_d14_7 (fun q => absurd q (by decide)) (fun _ => ?_)
            refine own_aloadN K own_d14_10 rfl rfl ?_
            refine own_iloadN K own_d14_11 rfl ?_
            refine own_static K own_d14_12 (own_w85 hw) (own_w86 hw) (own_w83 hw) (own_w87 hw) (argsL := [(.ref y), (.int (2 : Int32))]) (rest := []) (own_gc hw H (q := 2) (by decide) rfl l2 u2) own_pd7 rfl rfl rfl (by decide) (W := 0) (Nat.le_of_eq rfl) (by decide) (by decide) (by decide) (by decide) ?_
            intro v66 h64 q65
            obtain ⟨rfl, rfl⟩ := q65
            refine own_istoreN K own_d14_15 (Ls' := #[.val (.ref y), .val (.int (3 : Int32)), .val (.int (2 : Int32)), .val (.int c2)]) rfl ?_
            refine own_iloadN K own_d14_16 rfl ?_
            refine own_bipush K own_d14_17 (v := (32 : Int32)) rfl ?_
            refine own_icmpeq K own_d14_19 (fun ga2 => ?_) (fun ga2 => ?_)
            · refine own_iinc K own_d14_41 rfl (y := (3 : Int32)) (by decide) (Ls' := #[.val (.ref y), .val (.int (3 : Int32)), .val (.int (3 : Int32)), .val (.int c2)]) rfl ?_
              refine own_goto K own_d14_44 ?_
              refine own_iloadN K own_d14_5 rfl ?_
              refine own_iloadN K own_d14_6 rfl ?_
              refine own_icmpge K own_d14_7 (fun _ => ?_) (fun q => absurd (by decide) q)
              refine own_iloadN K own_d14_47 rfl ?_
              exact own_retI K own_d14_48 (by decide) (by decide) ((by rcases hnot with q | q | q <;> first | exact absurd q (show own_wsI c0 ≠ 0 by first | exact own_wn32 ga0 | exact own_wn9 gb0 | exact gc0) | exact absurd q (show own_wsI c1 ≠ 0 by first | exact own_wn32 ga1 | exact own_wn9 gb1 | exact gc1) | exact absurd q (show own_wsI c2 ≠ 0 by first | exact own_wn32 ga2 | exact own_wn9 gb2 | exact gc2)))
            · refine own_iloadN K own_d14_22 rfl ?_
              refine own_bipush K own_d14_23 (v := (9 : Int32)) rfl ?_
              refine own_icmpeq K own_d14_25 (fun gb2 => ?_) (fun gb2 => ?_)
              · refine own_iinc K own_d14_41 rfl (y := (3 : Int32)) (by decide) (Ls' := #[.val (.ref y), .val (.int (3 : Int32)), .val (.int (3 : Int32)), .val (.int c2)]) rfl ?_
                refine own_goto K own_d14_44 ?_
                refine own_iloadN K own_d14_5 rfl ?_
                refine own_iloadN K own_d14_6 rfl ?_
                refine own_icmpge K own_d14_7 (fun _ => ?_) (fun q => absurd (by decide) q)
                refine own_iloadN K own_d14_47 rfl ?_
                exact own_retI K own_d14_48 (by decide) (by decide) ((by rcases hnot with q | q | q <;> first | exact absurd q (show own_wsI c0 ≠ 0 by first | exact own_wn32 ga0 | exact own_wn9 gb0 | exact gc0) | exact absurd q (show own_wsI c1 ≠ 0 by first | exact own_wn32 ga1 | exact own_wn9 gb1 | exact gc1) | exact absurd q (show own_wsI c2 ≠ 0 by first | exact own_wn32 ga2 | exact own_wn9 gb2 | exact gc2)))
              · refine own_getstatic K own_d14_28 (own_w88 hw) Via.refl (v := (.ref ia)) (Sta.ext H.1 hS.2.1) ?_
                refine own_iloadN K own_d14_31 rfl ?_
                refine own_virtual K own_d14_32 (own_w90 hw) (own_w91 hw) (own_w93 hw) (own_w92 hw) (own_w89 hw) (own_w94 hw) (Exa.ext H.1 hS.2.2.1) (a := ia) (argsL := [(.int c2)]) (rest := []) (own_iw hw hS H (q := c2.toInt.toNat) (by omega) (by omega)) own_pd8 rfl rfl rfl (by decide) (W := 0) (Nat.le_of_eq rfl) (by decide) (by decide) (by decide) (by decide) ?_
                intro v69 h67 q68
                obtain ⟨rfl, rfl⟩ := q68
                refine own_ifne K own_d14_35 (fun gc2 => ?_) (fun gc2 => ?_)
                · refine own_iinc K own_d14_41 rfl (y := (3 : Int32)) (by decide) (Ls' := #[.val (.ref y), .val (.int (3 : Int32)), .val (.int (3 : Int32)), .val (.int c2)]) rfl ?_
                  refine own_goto K own_d14_44 ?_
                  refine own_iloadN K own_d14_5 rfl ?_
                  refine own_iloadN K own_d14_6 rfl ?_
                  refine own_icmpge K own_d14_7 (fun _ => ?_) (fun q => absurd (by decide) q)
                  refine own_iloadN K own_d14_47 rfl ?_
                  exact own_retI K own_d14_48 (by decide) (by decide) ((by rcases hnot with q | q | q <;> first | exact absurd q (show own_wsI c0 ≠ 0 by first | exact own_wn32 ga0 | exact own_wn9 gb0 | exact gc0) | exact absurd q (show own_wsI c1 ≠ 0 by first | exact own_wn32 ga1 | exact own_wn9 gb1 | exact gc1) | exact absurd q (show own_wsI c2 ≠ 0 by first | exact own_wn32 ga2 | exact own_wn9 gb2 | exact gc2)))
                · refine own_goto K own_d14_38 ?_
                  refine own_iloadN K own_d14_47 rfl ?_
                  exact own_retI K own_d14_48 (by decide) (by decide) (⟨⟨_, rfl, by decide⟩, rfl⟩)
          · refine own_getstatic K own_d14_28 (own_w88 hw) Via.refl (v := (.ref ia)) (Sta.ext H.1 hS.2.1) ?_
            refine own_iloadN K own_d14_31 rfl ?_
            refine own_virtual K own_d14_32 (own_w90 hw) (own_w91 hw) (own_w93 hw) (own_w92 hw) (own_w89 hw) (own_w94 hw) (Exa.ext H.1 hS.2.2.1) (a := ia) (argsL := [(.int c1)]) (rest := []) (own_iw hw hS H (q := c1.toInt.toNat) (by omega) (by omega)) own_pd8 rfl rfl rfl (by decide) (W := 0) (Nat.le_of_eq rfl) (by decide) (by decide) (by decide) (by decide) ?_
            intro v72 h70 q71
            obtain ⟨rfl, rfl⟩ := q71
            refine own_ifne K own_d14_35 (fun gc1 => ?_) (fun gc1 => ?_)
            · refine own_iinc K own_d14_41 rfl (y := (2 : Int32)) (by decide) (Ls' := #[.val (.ref y), .val (.int (3 : Int32)), .val (.int (2 : Int32)), .val (.int c1)]) rfl ?_
              refine own_goto K own_d14_44 ?_
              refine own_iloadN K own_d14_5 rfl ?_
              refine own_iloadN K own_d14_6 rfl ?_
              refine own_icmpge K own_d14_7 (fun q => absurd q (by decide)) (fun _ => ?_)
              refine own_aloadN K own_d14_10 rfl rfl ?_
              refine own_iloadN K own_d14_11 rfl ?_
              refine own_static K own_d14_12 (own_w85 hw) (own_w86 hw) (own_w83 hw) (own_w87 hw) (argsL := [(.ref y), (.int (2 : Int32))]) (rest := []) (own_gc hw H (q := 2) (by decide) rfl l2 u2) own_pd7 rfl rfl rfl (by decide) (W := 0) (Nat.le_of_eq rfl) (by decide) (by decide) (by decide) (by decide) ?_
              intro v75 h73 q74
              obtain ⟨rfl, rfl⟩ := q74
              refine own_istoreN K own_d14_15 (Ls' := #[.val (.ref y), .val (.int (3 : Int32)), .val (.int (2 : Int32)), .val (.int c2)]) rfl ?_
              refine own_iloadN K own_d14_16 rfl ?_
              refine own_bipush K own_d14_17 (v := (32 : Int32)) rfl ?_
              refine own_icmpeq K own_d14_19 (fun ga2 => ?_) (fun ga2 => ?_)
              · refine own_iinc K own_d14_41 rfl (y := (3 : Int32)) (by decide) (Ls' := #[.val (.ref y), .val (.int (3 : Int32)), .val (.int (3 : Int32)), .val (.int c2)]) rfl ?_
                refine own_goto K own_d14_44 ?_
                refine own_iloadN K own_d14_5 rfl ?_
                refine own_iloadN K own_d14_6 rfl ?_
                refine own_icmpge K own_d14_7 (fun _ => ?_) (fun q => absurd (by decide) q)
                refine own_iloadN K own_d14_47 rfl ?_
                exact own_retI K own_d14_48 (by decide) (by decide) ((by rcases hnot with q | q | q <;> first | exact absurd q (show own_wsI c0 ≠ 0 by first | exact own_wn32 ga0 | exact own_wn9 gb0 | exact gc0) | exact absurd q (show own_wsI c1 ≠ 0 by first | exact own_wn32 ga1 | exact own_wn9 gb1 | exact gc1) | exact absurd q (show own_wsI c2 ≠ 0 by first | exact own_wn32 ga2 | exact own_wn9 gb2 | exact gc2)))
              · refine own_iloadN K own_d14_22 rfl ?_
                refine own_bipush K own_d14_23 (v := (9 : Int32)) rfl ?_
                refine own_icmpeq K own_d14_25 (fun gb2 => ?_) (fun gb2 => ?_)
                · refine own_iinc K own_d14_41 rfl (y := (3 : Int32)) (by decide) (Ls' := #[.val (.ref y), .val (.int (3 : Int32)), .val (.int (3 : Int32)), .val (.int c2)]) rfl ?_
                  refine own_goto K own_d14_44 ?_
                  refine own_iloadN K own_d14_5 rfl ?_
                  refine own_iloadN K own_d14_6 rfl ?_
                  refine own_icmpge K own_d14_7 (fun _ => ?_) (fun q => absurd (by decide) q)
                  refine own_iloadN K own_d14_47 rfl ?_
                  exact own_retI K own_d14_48 (by decide) (by decide) ((by rcases hnot with q | q | q <;> first | exact absurd q (show own_wsI c0 ≠ 0 by first | exact own_wn32 ga0 | exact own_wn9 gb0 | exact gc0) | exact absurd q (show own_wsI c1 ≠ 0 by first | exact own_wn32 ga1 | exact own_wn9 gb1 | exact gc1) | exact absurd q (show own_wsI c2 ≠ 0 by first | exact own_wn32 ga2 | exact own_wn9 gb2 | exact gc2)))
                · refine own_getstatic K own_d14_28 (own_w88 hw) Via.refl (v := (.ref ia)) (Sta.ext H.1 hS.2.1) ?_
                  refine own_iloadN K own_d14_31 rfl ?_
                  refine own_virtual K own_d14_32 (own_w90 hw) (own_w91 hw) (own_w93 hw) (own_w92 hw) (own_w89 hw) (own_w94 hw) (Exa.ext H.1 hS.2.2.1) (a := ia) (argsL := [(.int c2)]) (rest := []) (own_iw hw hS H (q := c2.toInt.toNat) (by omega) (by omega)) own_pd8 rfl rfl rfl (by decide) (W := 0) (Nat.le_of_eq rfl) (by decide) (by decide) (by decide) (by decide) ?_
                  intro v78 h76 q77
                  obtain ⟨rfl, rfl⟩ := q77
                  refine own_ifne K own_d14_35 (fun gc2 => ?_) (fun gc2 => ?_)
                  · refine own_iinc K own_d14_41 rfl (y := (3 : Int32)) (by decide) (Ls' := #[.val (.ref y), .val (.int (3 : Int32)), .val (.int (3 : Int32)), .val (.int c2)]) rfl ?_
                    refine own_goto K own_d14_44 ?_
                    refine own_iloadN K own_d14_5 rfl ?_
                    refine own_iloadN K own_d14_6 rfl ?_
                    refine own_icmpge K own_d14_7 (fun _ => ?_) (fun q => absurd (by decide) q)
                    refine own_iloadN K own_d14_47 rfl ?_
                    exact own_retI K own_d14_48 (by decide) (by decide) ((by rcases hnot with q | q | q <;> first | exact absurd q (show own_wsI c0 ≠ 0 by first | exact own_wn32 ga0 | exact own_wn9 gb0 | exact gc0) | exact absurd q (show own_wsI c1 ≠ 0 by first | exact own_wn32 ga1 | exact own_wn9 gb1 | exact gc1) | exact absurd q (show own_wsI c2 ≠ 0 by first | exact own_wn32 ga2 | exact own_wn9 gb2 | exact gc2)))
                  · refine own_goto K own_d14_38 ?_
                    refine own_iloadN K own_d14_47 rfl ?_
                    exact own_retI K own_d14_48 (by decide) (by decide) (⟨⟨_, rfl, by decide⟩, rfl⟩)
            · refine own_goto K own_d14_38 ?_
              refine own_iloadN K own_d14_47 rfl ?_
              exact own_retI K own_d14_48 (by decide) (by decide) (⟨⟨_, rfl, by decide⟩, rfl⟩)
      · refine own_goto K own_d14_38 ?_
        refine own_iloadN K own_d14_47 rfl ?_
        exact own_retI K own_d14_48 (by decide) (by decide) (⟨⟨_, rfl, by decide⟩, rfl⟩)
set_option maxRecDepth 65536 in
set_option maxHeartbeats 40000000 in
theorem own_ixs3_ef (m : MethodId) (x0 : Addr) : entryFrame m #[(.ref x0)] 1 = mkF m 0 #[.val (.ref x0)] [] := by first | (simp [entryFrame, mkF, argsToLocals, Value.category]; done) | rfl
set_option maxRecDepth 65536 in
set_option maxHeartbeats 40000000 in
theorem own_ixs3 {l : Launch} {Z : State} {a0 : Array Value} (hw : own_Z Z a0) {h : Heap} {os : List own_O} {as : List own_A} {a y : Addr} {ia ta : Addr} {cl : Cell} {cs : Int32}  {c0 c1 c2 : Int32} (hS : own_St Z cs ia ta cl) (H : own_H Z h (own_ST a (.ref y) (.int (0 : Int32)) :: os) ((y, .byte, "[B", [(.int (own_by c0)), (.int (own_by c1)), (.int (own_by c2))]) :: as)) (l0 : 0 ≤ c0.toInt) (u0 : c0.toInt ≤ 255) (l1 : 0 ≤ c1.toInt) (u1 : c1.toInt ≤ 255) (l2 : 0 ≤ c2.toInt) (u2 : c2.toInt ≤ 255) (hnot : own_wsI c0 = 0 ∨ own_wsI c1 = 0 ∨ own_wsI c2 = 0) : own_Met false l Z (⟨"java/lang/String", "indexOfNonWhitespace", "()I"⟩ : MethodName) jdk_42_method_120_code 1 (some .int) [] ({ frames := 3, cells := 0, slots := 0, locals := 45 } : Room) #[(.ref a)] h (fun v h' => (∃ z, v = some (.int z) ∧ z.toInt ≠ 3) ∧ h = h') := by
  refine own_met (by first | exact plainFor_of_name (by decide +kernel) | decide +kernel) ?_
  intro p e s m below meth c K
  refine own_cast (own_ixs3_ef m _) ?_
  refine own_aloadN K own_d15_0 rfl rfl ?_
  refine own_virtual K own_d15_1 (own_w76 hw) (own_w77 hw) (own_w79 hw) (own_w78 hw) (own_w41 hw) (own_w80 hw) (H.atO (i := 0) rfl) (a := a) (argsL := []) (rest := []) (own_isl hw hS.1 H) own_pd9 rfl rfl rfl (by decide) (W := 0) (Nat.le_of_eq rfl) (by decide) (by decide) (by decide) (by decide) ?_
  intro v3 h1 q2
  obtain ⟨rfl, rfl⟩ := q2
  refine own_ifeq K own_d15_4 (fun q => absurd q (by decide)) (fun _ => ?_)
  refine own_aloadN K own_d15_7 rfl rfl ?_
  refine own_getfield K own_d15_8 (host := "") (Or.inl (own_w64 hw)) Via.refl H (j := 0) rfl (q := 0) rfl ?_
  refine own_static K own_d15_11 (own_w81 hw) (own_w82 hw) (own_w83 hw) (own_w84 hw) (argsL := [(.ref y)]) (rest := []) (own_ix3 hw hS H l0 u0 l1 u1 l2 u2 hnot) own_pd10 rfl rfl rfl (by decide) (W := 0) (Nat.le_of_eq rfl) (by decide) (by decide) (by decide) (by decide) ?_
  intro v6 h4 q5
  obtain ⟨⟨zz, rfl, hz⟩, rfl⟩ := q5
  refine own_goto K own_d15_14 ?_
  exact own_retI K own_d15_24 (by decide) (by decide) (⟨⟨_, rfl, hz⟩, rfl⟩)
set_option maxRecDepth 65536 in
set_option maxHeartbeats 40000000 in
theorem own_ib3_ef (m : MethodId) (x0 : Addr) : entryFrame m #[(.ref x0)] 1 = mkF m 0 #[.val (.ref x0)] [] := by first | (simp [entryFrame, mkF, argsToLocals, Value.category]; done) | rfl
set_option maxRecDepth 65536 in
set_option maxHeartbeats 40000000 in
theorem own_ib3 {l : Launch} {Z : State} {a0 : Array Value} (hw : own_Z Z a0) {h : Heap} {os : List own_O} {as : List own_A} {a y : Addr} {ia ta : Addr} {cl : Cell} {cs : Int32}  {c0 c1 c2 : Int32} (hS : own_St Z cs ia ta cl) (H : own_H Z h (own_ST a (.ref y) (.int (0 : Int32)) :: os) ((y, .byte, "[B", [(.int (own_by c0)), (.int (own_by c1)), (.int (own_by c2))]) :: as)) (l0 : 0 ≤ c0.toInt) (u0 : c0.toInt ≤ 255) (l1 : 0 ≤ c1.toInt) (u1 : c1.toInt ≤ 255) (l2 : 0 ≤ c2.toInt) (u2 : c2.toInt ≤ 255) (hnot : own_wsI c0 = 0 ∨ own_wsI c1 = 0 ∨ own_wsI c2 = 0) : own_Met false l Z (⟨"java/lang/String", "isBlank", "()Z"⟩ : MethodName) jdk_42_method_117_code 1 (some .boolean) [] ({ frames := 4, cells := 0, slots := 0, locals := 57 } : Room) #[(.ref a)] h (fun v h' => v = some (.int (0 : Int32)) ∧ h = h') := by
  refine own_met (by first | exact plainFor_of_name (by decide +kernel) | decide +kernel) ?_
  intro p e s m below meth c K
  refine own_cast (own_ib3_ef m _) ?_
  refine own_aloadN K own_d16_0 rfl rfl ?_
  refine own_private K own_d16_1 (own_w71 hw) (own_w73 hw) (own_w74 hw) (own_w72 hw) (own_w41 hw) (own_w75 hw) (H.atO (i := 0) rfl) (a := a) (argsL := []) (rest := []) (own_ixs3 hw hS H l0 u0 l1 u1 l2 u2 hnot) own_pd11 rfl rfl rfl (by decide) (W := 0) (Nat.le_of_eq rfl) (by decide) (by decide) (by decide) (by decide) ?_
  intro v3 h1 q2
  obtain ⟨⟨zz, rfl, hz⟩, rfl⟩ := q2
  refine own_aloadN K own_d16_4 rfl rfl ?_
  refine own_virtual K own_d16_5 (own_w101 hw) (own_w102 hw) (own_w104 hw) (own_w103 hw) (own_w41 hw) (own_w105 hw) (H.atO (i := 0) rfl) (a := a) (argsL := []) (rest := [(.int zz)]) (own_len3 hw hS.1 H) own_pd11 rfl rfl rfl (by decide) (W := 1) (Nat.le_of_eq rfl) (by decide) (by decide) (by decide) (by decide) ?_
  intro v6 h4 q5
  obtain ⟨rfl, rfl⟩ := q5
  refine own_icmpne K own_d16_8 (fun _ => ?_) (fun q => absurd (fun q => hz (by rw [q]; rfl)) q)
  refine own_iconst K own_d16_15 (v := (0 : Int32)) rfl ?_
  exact own_retZ K (by first | exact Or.inl rfl | exact Or.inr rfl | decide) own_d16_16 (by decide) (by decide) (⟨rfl, rfl⟩)
set_option maxRecDepth 65536 in
set_option maxHeartbeats 40000000 in
theorem own_nb3_ef (m : MethodId) (x0 : Addr) (x1 : Addr) : entryFrame m #[(.ref x0), (.ref x1)] 2 = mkF m 0 #[.val (.ref x0), .val (.ref x1)] [] := by first | (simp [entryFrame, mkF, argsToLocals, Value.category]; done) | rfl
set_option maxRecDepth 65536 in
set_option maxHeartbeats 40000000 in
theorem own_nb3 {l : Launch} {Z : State} {a0 : Array Value} (hw : own_Z Z a0) {h : Heap} {os : List own_O} {as : List own_A} {a y b : Addr} {ia ta : Addr} {cl : Cell} {cs : Int32}  {c0 c1 c2 : Int32} (hS : own_St Z cs ia ta cl) (H : own_H Z h (own_ST a (.ref y) (.int (0 : Int32)) :: os) ((y, .byte, "[B", [(.int (own_by c0)), (.int (own_by c1)), (.int (own_by c2))]) :: as)) (l0 : 0 ≤ c0.toInt) (u0 : c0.toInt ≤ 255) (l1 : 0 ≤ c1.toInt) (u1 : c1.toInt ≤ 255) (l2 : 0 ≤ c2.toInt) (u2 : c2.toInt ≤ 255) (hnot : own_wsI c0 = 0 ∨ own_wsI c1 = 0 ∨ own_wsI c2 = 0) : own_Met false l Z (⟨"com/example/cistern/cistern/config/Setting", "notBlank", "(Ljava/lang/String;Lcom/example/cistern/cistern/config/SettingsDraft;)V"⟩ : MethodName) prog_7_method_18_code 2 none [] ({ frames := 5, cells := 0, slots := 0, locals := 70 } : Room) #[(.ref a), (.ref b)] h (fun v h' => v = none ∧ h = h') := by
  refine own_met (by first | exact plainFor_of_name (by decide +kernel) | decide +kernel) ?_
  intro p e s m below meth c K
  refine own_cast (own_nb3_ef m _ _) ?_
  refine own_aloadN K own_d17_0 rfl rfl ?_
  refine own_ifnullR K own_d17_1 ?_
  refine own_aloadN K own_d17_4 rfl rfl ?_
  refine own_virtual K own_d17_5 (own_w66 hw) (own_w67 hw) (own_w69 hw) (own_w68 hw) (own_w41 hw) (own_w70 hw) (H.atO (i := 0) rfl) (a := a) (argsL := []) (rest := []) (own_ib3 hw hS H l0 u0 l1 u1 l2 u2 hnot) own_pd9 rfl rfl rfl (by decide) (W := 0) (Nat.le_of_eq rfl) (by decide) (by decide) (by decide) (by decide) ?_
  intro v3 h1 q2
  obtain ⟨rfl, rfl⟩ := q2
  refine own_ifeq K own_d17_8 (fun _ => ?_) (fun q => absurd (by decide) q)
  exact own_retV K own_d17_21 (by decide) (by decide) (⟨rfl, rfl⟩)
set_option maxRecDepth 65536 in
set_option maxHeartbeats 40000000 in
theorem own_mk3_ef (m : MethodId) (x0 : Int32) (x1 : Int32) (x2 : Int32) (x3 : Int32) : entryFrame m #[(.int x0), (.int x1), (.int x2), (.int x3)] 5 = mkF m 0 #[.val (.int x0), .val (.int x1), .val (.int x2), .val (.int x3), .unset] [] := by first | (simp [entryFrame, mkF, argsToLocals, Value.category]; done) | rfl
set_option maxRecDepth 65536 in
set_option maxHeartbeats 40000000 in
theorem own_mk3 {l : Launch} {Z : State} {a0 : Array Value} (hw : own_Z Z a0) {h : Heap} {os : List own_O} {as : List own_A} {cs : Int32} {c0 c1 c2 : Int32} (hC : cs ≠ 0 ∧ Sta Z Z.heap "java/lang/String" "COMPACT_STRINGS" "Z" (.int cs)) (H : own_H Z h os as) (l0 : 0 ≤ c0.toInt) (u0 : c0.toInt ≤ 255) (l1 : 0 ≤ c1.toInt) (u1 : c1.toInt ≤ 255) (l2 : 0 ≤ c2.toInt) (u2 : c2.toInt ≤ 255) : own_Met false l Z (⟨"com/example/cistern/cistern/config/SettingNotBlankPinLaw", "make", "(ICCC)Ljava/lang/String;"⟩ : MethodName) method_3_code 5 (some (.object "java/lang/String")) [] ({ frames := 4, cells := 3, slots := 10, locals := 66 } : Room) #[(.int (3 : Int32)), (.int c0), (.int c1), (.int c2)] h (fun v h' => ∃ a y x, v = some (.ref a) ∧ own_H Z h' (own_ST a (.ref y) (.int (0 : Int32)) :: os) ((y, .byte, "[B", [(.int (own_by c0)), (.int (own_by c1)), (.int (own_by c2))]) :: (x, .char, "[C", [(.int c0), (.int c1), (.int c2)]) :: as)) := by
  refine own_met (by first | exact plainFor_of_name (by decide +kernel) | decide +kernel) ?_
  intro p e s m below meth c K
  refine own_cast (own_mk3_ef m _ _ _ _) ?_
  refine own_iloadN K own_d18_0 rfl ?_
  refine own_ifne K own_d18_1 (fun _ => ?_) (fun q => absurd (by decide) q)
  refine own_iloadN K own_d18_15 rfl ?_
  refine own_iconst K own_d18_16 (v := (1 : Int32)) rfl ?_
  refine own_icmpne K own_d18_17 (fun _ => ?_) (fun q => absurd (by decide) q)
  refine own_iloadN K own_d18_39 rfl ?_
  refine own_iconst K own_d18_40 (v := (2 : Int32)) rfl ?_
  refine own_icmpne K own_d18_41 (fun _ => ?_) (fun q => absurd (by decide) q)
  refine own_iconst K own_d18_67 (v := (3 : Int32)) rfl ?_
  refine own_newarray K own_d18_68 (ty := .char) rfl (own_w38 hw) H (q := 3) (by decide) (ad := "[C") (by decide +kernel) (vs := [(.int (0 : Int32)), (.int (0 : Int32)), (.int (0 : Int32))]) rfl (by decide) (by decide) (by decide) ?_
  intro h1 a3 H2
  replace H2 : own_H Z h1 (os) ((a3, .char, "[C", [(.int (0 : Int32)), (.int (0 : Int32)), (.int (0 : Int32))]) :: as) := H2
  refine own_dup K own_d18_70 rfl ?_
  refine own_iconst K own_d18_71 (v := (0 : Int32)) rfl ?_
  refine own_iloadN K own_d18_72 rfl ?_
  refine own_castore K own_d18_73 H2 (i := 0) rfl (q := 0) (by decide) (own_le rfl) ?_
  intro h4 H5
  rw [own_nch l0 u0] at H5
  replace H5 : own_H Z h4 (os) ((a3, .char, "[C", [(.int c0), (.int (0 : Int32)), (.int (0 : Int32))]) :: as) := H5
  refine own_dup K own_d18_74 rfl ?_
  refine own_iconst K own_d18_75 (v := (1 : Int32)) rfl ?_
  refine own_iloadN K own_d18_76 rfl ?_
  refine own_castore K own_d18_77 H5 (i := 0) rfl (q := 1) (by decide) (own_le rfl) ?_
  intro h6 H7
  rw [own_nch l1 u1] at H7
  replace H7 : own_H Z h6 (os) ((a3, .char, "[C", [(.int c0), (.int c1), (.int (0 : Int32))]) :: as) := H7
  refine own_dup K own_d18_78 rfl ?_
  refine own_iconst K own_d18_79 (v := (2 : Int32)) rfl ?_
  refine own_iloadN K own_d18_80 rfl ?_
  refine own_castore K own_d18_81 H7 (i := 0) rfl (q := 2) (by decide) (own_le rfl) ?_
  intro h8 H9
  rw [own_nch l2 u2] at H9
  replace H9 : own_H Z h8 (os) ((a3, .char, "[C", [(.int c0), (.int c1), (.int c2)]) :: as) := H9
  refine own_astore K own_d18_82 rfl (Ls' := #[.val (.int (3 : Int32)), .val (.int c0), .val (.int c1), .val (.int c2), .val (.ref a3)]) rfl ?_
  refine own_new K own_d18_84 (own_w39 hw) (own_w40 hw) (own_w41 hw) H9 (own_ST_F hw) (own_ST_P hw) (by decide) (by decide) ?_
  intro h10 a12 H11
  replace H11 : own_H Z h10 (own_ST a12 .null (.int (0 : Int32)) :: os) ((a3, .char, "[C", [(.int c0), (.int c1), (.int c2)]) :: as) := H11
  refine own_dup K own_d18_87 rfl ?_
  refine own_aload K own_d18_88 rfl rfl ?_
  refine own_special K own_d18_90 rfl (own_w42 hw) (own_w43 hw) (own_w41 hw) (own_w44 hw) (a := a12) (argsL := [(.ref a3)]) (rest := [(.ref a12)]) (own_initS3 hw hC H11 l0 u0 l1 u1 l2 u2) own_pd12 rfl rfl rfl (by decide) (W := 1) (Nat.le_of_eq rfl) (by decide) (by decide) (by decide) (by decide) ?_
  intro v15 h13 q14
  obtain ⟨rfl, y17, H16⟩ := q14
  replace H16 : own_H Z h13 (own_ST a12 (.ref y17) (.int (0 : Int32)) :: os) ((y17, .byte, "[B", [(.int (own_by c0)), (.int (own_by c1)), (.int (own_by c2))]) :: (a3, .char, "[C", [(.int c0), (.int c1), (.int c2)]) :: as) := H16
  exact own_retA K rfl rfl own_d18_93 (by decide) (by decide) (⟨_, _, _, rfl, H16⟩)
set_option maxRecDepth 65536 in
set_option maxHeartbeats 40000000 in
theorem own_nbN_ef (m : MethodId) (x1 : Addr) : entryFrame m #[.null, (.ref x1)] 2 = mkF m 0 #[.val .null, .val (.ref x1)] [] := by first | (simp [entryFrame, mkF, argsToLocals, Value.category]; done) | rfl
set_option maxRecDepth 65536 in
set_option maxHeartbeats 40000000 in
theorem own_nbN {l : Launch} {Z : State} {a0 : Array Value} (hw : own_Z Z a0) {h : Heap} {b : Addr} : own_Met false l Z (⟨"com/example/cistern/cistern/config/Setting", "notBlank", "(Ljava/lang/String;Lcom/example/cistern/cistern/config/SettingsDraft;)V"⟩ : MethodName) prog_7_method_18_code 2 none [] ({ frames := 0, cells := 0, slots := 0, locals := 0 } : Room) #[.null, (.ref b)] h (fun v h' => v = none ∧ h = h') := by
  refine own_met (by first | exact plainFor_of_name (by decide +kernel) | decide +kernel) ?_
  intro p e s m below meth c K
  refine own_cast (own_nbN_ef m _) ?_
  refine own_aloadN K own_d17_0 rfl rfl ?_
  refine own_ifnullN K own_d17_1 ?_
  exact own_retV K own_d17_21 (by decide) (by decide) (⟨rfl, rfl⟩)
theorem own_t9 : (9 : Int32).toInt = 9 := rfl
theorem own_t13 : (13 : Int32).toInt = 13 := rfl
theorem own_t28 : (28 : Int32).toInt = 28 := rfl
theorem own_t31 : (31 : Int32).toInt = 31 := rfl
theorem own_t32 : (32 : Int32).toInt = 32 := rfl
set_option maxRecDepth 65536 in
set_option maxHeartbeats 40000000 in
theorem own_wsM_ef (m : MethodId) (x0 : Int32) : entryFrame m #[(.int x0)] 1 = mkF m 0 #[.val (.int x0)] [] := by first | (simp [entryFrame, mkF, argsToLocals, Value.category]; done) | rfl
set_option maxRecDepth 65536 in
set_option maxHeartbeats 40000000 in
theorem own_wsM {l : Launch} {Z : State} {a0 : Array Value} (hw : own_Z Z a0) {h : Heap} {z : Int32} : own_Met false l Z (⟨"com/example/cistern/cistern/config/SettingNotBlankPinLaw", "ws", "(C)Z"⟩ : MethodName) method_2_code 1 (some .boolean) [] ({ frames := 0, cells := 0, slots := 0, locals := 0 } : Room) #[(.int z)] h (fun v h' => v = some (.int (own_wsI z)) ∧ h = h') := by
  refine own_met (by first | exact plainFor_of_name (by decide +kernel) | decide +kernel) ?_
  intro p e s m below meth c K
  refine own_cast (own_wsM_ef m _) ?_
  refine own_iloadN K own_d19_0 rfl ?_
  refine own_bipush K own_d19_1 (v := (32 : Int32)) rfl ?_
  refine own_icmpeq K own_d19_3 (fun g3 => ?_) (fun g3 => ?_)
  · refine own_iconst K own_d19_30 (v := (1 : Int32)) rfl ?_
    refine own_goto K own_d19_31 ?_
    exact own_retZ K (by first | exact Or.inl rfl | exact Or.inr rfl | decide) own_d19_35 (by decide) (by decide) (⟨congrArg (fun y => some (Value.int y)) (own_wsY (by simp only [own_t32, own_t9, own_t13, own_t28, own_t31, ← Int32.toInt_inj] at *; omega)).symm, rfl⟩)
  · refine own_iloadN K own_d19_6 rfl ?_
    refine own_bipush K own_d19_7 (v := (9 : Int32)) rfl ?_
    refine own_icmplt K own_d19_9 (fun g9 => ?_) (fun g9 => ?_)
    · refine own_iloadN K own_d19_18 rfl ?_
      refine own_bipush K own_d19_19 (v := (28 : Int32)) rfl ?_
      refine own_icmplt K own_d19_21 (fun g21 => ?_) (fun g21 => ?_)
      · refine own_iconst K own_d19_34 (v := (0 : Int32)) rfl ?_
        exact own_retZ K (by first | exact Or.inl rfl | exact Or.inr rfl | decide) own_d19_35 (by decide) (by decide) (⟨congrArg (fun y => some (Value.int y)) (own_wsN (by simp only [own_t32, own_t9, own_t13, own_t28, own_t31, ← Int32.toInt_inj] at *; omega)).symm, rfl⟩)
      · refine own_iloadN K own_d19_24 rfl ?_
        refine own_bipush K own_d19_25 (v := (31 : Int32)) rfl ?_
        refine own_icmpgt K own_d19_27 (fun g27 => ?_) (fun g27 => ?_)
        · refine own_iconst K own_d19_34 (v := (0 : Int32)) rfl ?_
          exact own_retZ K (by first | exact Or.inl rfl | exact Or.inr rfl | decide) own_d19_35 (by decide) (by decide) (⟨congrArg (fun y => some (Value.int y)) (own_wsN (by simp only [own_t32, own_t9, own_t13, own_t28, own_t31, ← Int32.toInt_inj] at *; omega)).symm, rfl⟩)
        · refine own_iconst K own_d19_30 (v := (1 : Int32)) rfl ?_
          refine own_goto K own_d19_31 ?_
          exact own_retZ K (by first | exact Or.inl rfl | exact Or.inr rfl | decide) own_d19_35 (by decide) (by decide) (⟨congrArg (fun y => some (Value.int y)) (own_wsY (by simp only [own_t32, own_t9, own_t13, own_t28, own_t31, ← Int32.toInt_inj] at *; omega)).symm, rfl⟩)
    · refine own_iloadN K own_d19_12 rfl ?_
      refine own_bipush K own_d19_13 (v := (13 : Int32)) rfl ?_
      refine own_icmple K own_d19_15 (fun g15 => ?_) (fun g15 => ?_)
      · refine own_iconst K own_d19_30 (v := (1 : Int32)) rfl ?_
        refine own_goto K own_d19_31 ?_
        exact own_retZ K (by first | exact Or.inl rfl | exact Or.inr rfl | decide) own_d19_35 (by decide) (by decide) (⟨congrArg (fun y => some (Value.int y)) (own_wsY (by simp only [own_t32, own_t9, own_t13, own_t28, own_t31, ← Int32.toInt_inj] at *; omega)).symm, rfl⟩)
      · refine own_iloadN K own_d19_18 rfl ?_
        refine own_bipush K own_d19_19 (v := (28 : Int32)) rfl ?_
        refine own_icmplt K own_d19_21 (fun g21 => ?_) (fun g21 => ?_)
        · refine own_iconst K own_d19_34 (v := (0 : Int32)) rfl ?_
          exact own_retZ K (by first | exact Or.inl rfl | exact Or.inr rfl | decide) own_d19_35 (by decide) (by decide) (⟨congrArg (fun y => some (Value.int y)) (own_wsN (by simp only [own_t32, own_t9, own_t13, own_t28, own_t31, ← Int32.toInt_inj] at *; omega)).symm, rfl⟩)
        · refine own_iloadN K own_d19_24 rfl ?_
          refine own_bipush K own_d19_25 (v := (31 : Int32)) rfl ?_
          refine own_icmpgt K own_d19_27 (fun g27 => ?_) (fun g27 => ?_)
          · refine own_iconst K own_d19_34 (v := (0 : Int32)) rfl ?_
            exact own_retZ K (by first | exact Or.inl rfl | exact Or.inr rfl | decide) own_d19_35 (by decide) (by decide) (⟨congrArg (fun y => some (Value.int y)) (own_wsN (by simp only [own_t32, own_t9, own_t13, own_t28, own_t31, ← Int32.toInt_inj] at *; omega)).symm, rfl⟩)
          · refine own_iconst K own_d19_30 (v := (1 : Int32)) rfl ?_
            refine own_goto K own_d19_31 ?_
            exact own_retZ K (by first | exact Or.inl rfl | exact Or.inr rfl | decide) own_d19_35 (by decide) (by decide) (⟨congrArg (fun y => some (Value.int y)) (own_wsY (by simp only [own_t32, own_t9, own_t13, own_t28, own_t31, ← Int32.toInt_inj] at *; omega)).symm, rfl⟩)
set_option maxRecDepth 65536 in
set_option maxHeartbeats 40000000 in
theorem own_law_ef (m : MethodId) (x0 : Int32) (x1 : Int32) (x2 : Int32) (x3 : Int32) : entryFrame m #[(.int x0), (.int x1), (.int x2), (.int x3)] 11 = mkF m 0 #[.val (.int x0), .val (.int x1), .val (.int x2), .val (.int x3), .unset, .unset, .unset, .unset, .unset, .unset, .unset] [] := by first | (simp [entryFrame, mkF, argsToLocals, Value.category]; done) | rfl
set_option maxRecDepth 65536 in
set_option maxHeartbeats 40000000 in
theorem own_law {l : Launch} {Z : State} {a0 : Array Value} (hw : own_Z Z a0) {mo p0 p1 p2 : Int32} {ia ta : Addr} {cl : Cell} {cs : Int32} (hS : own_St Z cs ia ta cl) : own_Met false l Z (⟨"com/example/cistern/cistern/config/SettingNotBlankPinLaw", "law", "(IIII)Z"⟩ : MethodName) code 11 (some .boolean) tables_1 room_1 #[(.int mo), (.int p0), (.int p1), (.int p2)] Z.heap (fun v h' => v = some (.int 1)) := by
  refine own_met (by first | exact plainFor_of_name (by decide +kernel) | decide +kernel) ?_
  intro p e s m below meth c K
  refine own_cast (own_law_ef m _ _ _ _) ?_
  have H := own_H.start Z
  obtain ⟨c0, e0, l0, u0⟩ := own_m8 p0
  obtain ⟨c1, e1, l1, u1⟩ := own_m8 p1
  obtain ⟨c2, e2, l2, u2⟩ := own_m8 p2
  rcases own_and3 mo with q | q | q | q
  · refine own_new K own_d20_0 (own_w0 hw) (own_w1 hw) (own_w2 hw) H (own_SD_F hw) (own_SD_P hw) (by decide) (by decide) ?_
    intro h1 a3 H2
    replace H2 : own_H Z h1 (own_SD a3 .null :: []) ([]) := H2
    refine own_dup K own_d20_3 rfl ?_
    refine own_special K own_d20_4 rfl (own_w3 hw) (own_w4 hw) (own_w2 hw) (own_w5 hw) (a := a3) (argsL := []) (rest := [(.ref a3)]) (own_sd hw H2) own_pd0 rfl rfl rfl (by decide) (W := 1) (Nat.le_of_eq rfl) (by decide) (by decide) (by decide) (by decide) ?_
    intro v6 h4 q5
    obtain ⟨rfl, os8, b9, H7⟩ := q5
    replace H7 : own_H Z h4 (own_HM b9 (.float (1061158912 : UInt32)) :: own_SD a3 (.ref b9) :: os8) ([]) := H7
    refine own_astore K own_d20_7 rfl (Ls' := #[.val (.int mo), .val (.int p0), .val (.int p1), .val (.int p2), .val (.ref a3), .unset, .unset, .unset, .unset, .unset, .unset]) rfl ?_
    refine own_iloadN K own_d20_9 rfl ?_
    refine own_iconst K own_d20_10 (v := (4 : Int32)) rfl ?_
    refine own_iand K own_d20_11 ?_
    refine own_ifeq K own_d20_12 (fun g4 => ?_) (fun g4 => ?_)
    · refine own_iloadN K own_d20_23 rfl ?_
      refine own_iconst K own_d20_24 (v := (3 : Int32)) rfl ?_
      refine own_iand K own_d20_25 ?_
      refine own_topI (x' := (0 : Int32)) (q) ?_
      refine own_istore K own_d20_26 (Ls' := #[.val (.int mo), .val (.int p0), .val (.int p1), .val (.int p2), .val (.ref a3), .val (.int (0 : Int32)), .unset, .unset, .unset, .unset, .unset]) rfl ?_
      refine own_iloadN K own_d20_28 rfl ?_
      refine own_sipush K own_d20_29 (v := (255 : Int32)) rfl ?_
      refine own_iand K own_d20_32 ?_
      refine own_i2c K own_d20_33 ?_
      refine own_topI (x' := c0) (e0) ?_
      refine own_istore K own_d20_34 (Ls' := #[.val (.int mo), .val (.int p0), .val (.int p1), .val (.int p2), .val (.ref a3), .val (.int (0 : Int32)), .val (.int c0), .unset, .unset, .unset, .unset]) rfl ?_
      refine own_iloadN K own_d20_36 rfl ?_
      refine own_sipush K own_d20_37 (v := (255 : Int32)) rfl ?_
      refine own_iand K own_d20_40 ?_
      refine own_i2c K own_d20_41 ?_
      refine own_topI (x' := c1) (e1) ?_
      refine own_istore K own_d20_42 (Ls' := #[.val (.int mo), .val (.int p0), .val (.int p1), .val (.int p2), .val (.ref a3), .val (.int (0 : Int32)), .val (.int c0), .val (.int c1), .unset, .unset, .unset]) rfl ?_
      refine own_iloadN K own_d20_44 rfl ?_
      refine own_sipush K own_d20_45 (v := (255 : Int32)) rfl ?_
      refine own_iand K own_d20_48 ?_
      refine own_i2c K own_d20_49 ?_
      refine own_topI (x' := c2) (e2) ?_
      refine own_istore K own_d20_50 (Ls' := #[.val (.int mo), .val (.int p0), .val (.int p1), .val (.int p2), .val (.ref a3), .val (.int (0 : Int32)), .val (.int c0), .val (.int c1), .val (.int c2), .unset, .unset]) rfl ?_
      refine own_iload K own_d20_52 rfl ?_
      refine own_ifeq K own_d20_54 (fun _ => ?_) (fun q => absurd (by decide) q)
      refine own_iconst K own_d20_93 (v := (1 : Int32)) rfl ?_
      refine own_goto K own_d20_94 ?_
      refine own_istore K own_d20_98 (Ls' := #[.val (.int mo), .val (.int p0), .val (.int p1), .val (.int p2), .val (.ref a3), .val (.int (0 : Int32)), .val (.int c0), .val (.int c1), .val (.int c2), .val (.int (1 : Int32)), .unset]) rfl ?_
      refine own_iload K own_d20_100 rfl ?_
      refine own_ifeq K own_d20_102 (fun q => absurd q (by decide)) (fun _ => ?_)
      refine own_iconst K own_d20_105 (v := (1 : Int32)) rfl ?_
      exact own_retZ K (by first | exact Or.inl rfl | exact Or.inr rfl | decide) own_d20_106 (by decide) (by decide) (rfl)
    · refine own_aconstNull K own_d20_15 ?_
      refine own_aload K own_d20_16 rfl rfl ?_
      refine own_static K own_d20_18 (own_w27 hw) (own_w28 hw) (own_w29 hw) (own_w30 hw) (argsL := [.null, (.ref a3)]) (rest := []) (own_nbN hw) own_pd13 rfl rfl rfl (by decide) (W := 0) (Nat.le_of_eq rfl) (by decide) (by decide) (by decide) (by decide) ?_
      intro v12 h10 q11
      obtain ⟨rfl, rfl⟩ := q11
      refine own_iconst K own_d20_21 (v := (1 : Int32)) rfl ?_
      exact own_retZ K (by first | exact Or.inl rfl | exact Or.inr rfl | decide) own_d20_22 (by decide) (by decide) (rfl)
  · refine own_new K own_d20_0 (own_w0 hw) (own_w1 hw) (own_w2 hw) H (own_SD_F hw) (own_SD_P hw) (by decide) (by decide) ?_
    intro h1 a3 H2
    replace H2 : own_H Z h1 (own_SD a3 .null :: []) ([]) := H2
    refine own_dup K own_d20_3 rfl ?_
    refine own_special K own_d20_4 rfl (own_w3 hw) (own_w4 hw) (own_w2 hw) (own_w5 hw) (a := a3) (argsL := []) (rest := [(.ref a3)]) (own_sd hw H2) own_pd0 rfl rfl rfl (by decide) (W := 1) (Nat.le_of_eq rfl) (by decide) (by decide) (by decide) (by decide) ?_
    intro v6 h4 q5
    obtain ⟨rfl, os8, b9, H7⟩ := q5
    replace H7 : own_H Z h4 (own_HM b9 (.float (1061158912 : UInt32)) :: own_SD a3 (.ref b9) :: os8) ([]) := H7
    refine own_astore K own_d20_7 rfl (Ls' := #[.val (.int mo), .val (.int p0), .val (.int p1), .val (.int p2), .val (.ref a3), .unset, .unset, .unset, .unset, .unset, .unset]) rfl ?_
    refine own_iloadN K own_d20_9 rfl ?_
    refine own_iconst K own_d20_10 (v := (4 : Int32)) rfl ?_
    refine own_iand K own_d20_11 ?_
    refine own_ifeq K own_d20_12 (fun g4 => ?_) (fun g4 => ?_)
    · refine own_iloadN K own_d20_23 rfl ?_
      refine own_iconst K own_d20_24 (v := (3 : Int32)) rfl ?_
      refine own_iand K own_d20_25 ?_
      refine own_topI (x' := (1 : Int32)) (q) ?_
      refine own_istore K own_d20_26 (Ls' := #[.val (.int mo), .val (.int p0), .val (.int p1), .val (.int p2), .val (.ref a3), .val (.int (1 : Int32)), .unset, .unset, .unset, .unset, .unset]) rfl ?_
      refine own_iloadN K own_d20_28 rfl ?_
      refine own_sipush K own_d20_29 (v := (255 : Int32)) rfl ?_
      refine own_iand K own_d20_32 ?_
      refine own_i2c K own_d20_33 ?_
      refine own_topI (x' := c0) (e0) ?_
      refine own_istore K own_d20_34 (Ls' := #[.val (.int mo), .val (.int p0), .val (.int p1), .val (.int p2), .val (.ref a3), .val (.int (1 : Int32)), .val (.int c0), .unset, .unset, .unset, .unset]) rfl ?_
      refine own_iloadN K own_d20_36 rfl ?_
      refine own_sipush K own_d20_37 (v := (255 : Int32)) rfl ?_
      refine own_iand K own_d20_40 ?_
      refine own_i2c K own_d20_41 ?_
      refine own_topI (x' := c1) (e1) ?_
      refine own_istore K own_d20_42 (Ls' := #[.val (.int mo), .val (.int p0), .val (.int p1), .val (.int p2), .val (.ref a3), .val (.int (1 : Int32)), .val (.int c0), .val (.int c1), .unset, .unset, .unset]) rfl ?_
      refine own_iloadN K own_d20_44 rfl ?_
      refine own_sipush K own_d20_45 (v := (255 : Int32)) rfl ?_
      refine own_iand K own_d20_48 ?_
      refine own_i2c K own_d20_49 ?_
      refine own_topI (x' := c2) (e2) ?_
      refine own_istore K own_d20_50 (Ls' := #[.val (.int mo), .val (.int p0), .val (.int p1), .val (.int p2), .val (.ref a3), .val (.int (1 : Int32)), .val (.int c0), .val (.int c1), .val (.int c2), .unset, .unset]) rfl ?_
      refine own_iload K own_d20_52 rfl ?_
      refine own_ifeq K own_d20_54 (fun q => absurd q (by decide)) (fun _ => ?_)
      refine own_iload K own_d20_57 rfl ?_
      refine own_static K own_d20_59 (own_w31 hw) (own_w32 hw) (own_w33 hw) (own_w34 hw) (argsL := [(.int c0)]) (rest := []) (own_wsM hw) own_pd14 rfl rfl rfl (by decide) (W := 0) (Nat.le_of_eq rfl) (by decide) (by decide) (by decide) (by decide) ?_
      intro v12 h10 q11
      obtain ⟨rfl, rfl⟩ := q11
      refine own_ifeq K own_d20_62 (fun gw0 => ?_) (fun gw0 => ?_)
      · refine own_iconst K own_d20_97 (v := (0 : Int32)) rfl ?_
        refine own_istore K own_d20_98 (Ls' := #[.val (.int mo), .val (.int p0), .val (.int p1), .val (.int p2), .val (.ref a3), .val (.int (1 : Int32)), .val (.int c0), .val (.int c1), .val (.int c2), .val (.int (0 : Int32)), .unset]) rfl ?_
        refine own_iload K own_d20_100 rfl ?_
        refine own_ifeq K own_d20_102 (fun _ => ?_) (fun q => absurd (by decide) q)
        refine own_iload K own_d20_107 rfl ?_
        refine own_iload K own_d20_109 rfl ?_
        refine own_iload K own_d20_111 rfl ?_
        refine own_iload K own_d20_113 rfl ?_
        refine own_static K own_d20_115 (own_w35 hw) (own_w36 hw) (own_w33 hw) (own_w37 hw) (argsL := [(.int (1 : Int32)), (.int c0), (.int c1), (.int c2)]) (rest := []) (own_mk1 hw hS.1 H7 l0 u0) own_pd15 rfl rfl rfl (by decide) (W := 0) (Nat.le_of_eq rfl) (by decide) (by decide) (by decide) (by decide) ?_
        intro v15 h13 q14
        obtain ⟨a17, y18, x19, rfl, H16⟩ := q14
        replace H16 : own_H Z h13 (own_ST a17 (.ref y18) (.int (0 : Int32)) :: own_HM b9 (.float (1061158912 : UInt32)) :: own_SD a3 (.ref b9) :: os8) ((y18, .byte, "[B", [(.int (own_by c0))]) :: (x19, .char, "[C", [(.int c0)]) :: []) := H16
        refine own_astore K own_d20_118 rfl (Ls' := #[.val (.int mo), .val (.int p0), .val (.int p1), .val (.int p2), .val (.ref a3), .val (.int (1 : Int32)), .val (.int c0), .val (.int c1), .val (.int c2), .val (.int (0 : Int32)), .val (.ref a17)]) rfl ?_
        refine own_aload K own_d20_120 rfl rfl ?_
        refine own_aload K own_d20_122 rfl rfl ?_
        refine own_static K own_d20_124 (own_w27 hw) (own_w28 hw) (own_w29 hw) (own_w30 hw) (argsL := [(.ref a17), (.ref a3)]) (rest := []) (own_nb1 hw hS H16 l0 u0 (by first | exact gw0 | exact Or.inl gw0 | exact Or.inr gw1 | exact Or.inr (Or.inl gw1) | exact Or.inr (Or.inr gw2))) own_pd13 rfl rfl rfl (by decide) (W := 0) (Nat.le_of_eq rfl) (by decide) (by decide) (by decide) (by decide) ?_
        intro v22 h20 q21
        obtain ⟨rfl, rfl⟩ := q21
        refine own_iconst K own_d20_127 (v := (1 : Int32)) rfl ?_
        exact own_retZ K (by first | exact Or.inl rfl | exact Or.inr rfl | decide) own_d20_128 (by decide) (by decide) (rfl)
      · refine own_iload K own_d20_65 rfl ?_
        refine own_iconst K own_d20_67 (v := (2 : Int32)) rfl ?_
        refine own_icmplt K own_d20_68 (fun _ => ?_) (fun q => absurd (by decide) q)
        refine own_iload K own_d20_79 rfl ?_
        refine own_iconst K own_d20_81 (v := (3 : Int32)) rfl ?_
        refine own_icmplt K own_d20_82 (fun _ => ?_) (fun q => absurd (by decide) q)
        refine own_iconst K own_d20_93 (v := (1 : Int32)) rfl ?_
        refine own_goto K own_d20_94 ?_
        refine own_istore K own_d20_98 (Ls' := #[.val (.int mo), .val (.int p0), .val (.int p1), .val (.int p2), .val (.ref a3), .val (.int (1 : Int32)), .val (.int c0), .val (.int c1), .val (.int c2), .val (.int (1 : Int32)), .unset]) rfl ?_
        refine own_iload K own_d20_100 rfl ?_
        refine own_ifeq K own_d20_102 (fun q => absurd q (by decide)) (fun _ => ?_)
        refine own_iconst K own_d20_105 (v := (1 : Int32)) rfl ?_
        exact own_retZ K (by first | exact Or.inl rfl | exact Or.inr rfl | decide) own_d20_106 (by decide) (by decide) (rfl)
    · refine own_aconstNull K own_d20_15 ?_
      refine own_aload K own_d20_16 rfl rfl ?_
      refine own_static K own_d20_18 (own_w27 hw) (own_w28 hw) (own_w29 hw) (own_w30 hw) (argsL := [.null, (.ref a3)]) (rest := []) (own_nbN hw) own_pd13 rfl rfl rfl (by decide) (W := 0) (Nat.le_of_eq rfl) (by decide) (by decide) (by decide) (by decide) ?_
      intro v25 h23 q24
      obtain ⟨rfl, rfl⟩ := q24
      refine own_iconst K own_d20_21 (v := (1 : Int32)) rfl ?_
      exact own_retZ K (by first | exact Or.inl rfl | exact Or.inr rfl | decide) own_d20_22 (by decide) (by decide) (rfl)
  · refine own_new K own_d20_0 (own_w0 hw) (own_w1 hw) (own_w2 hw) H (own_SD_F hw) (own_SD_P hw) (by decide) (by decide) ?_
    intro h1 a3 H2
    replace H2 : own_H Z h1 (own_SD a3 .null :: []) ([]) := H2
    refine own_dup K own_d20_3 rfl ?_
    refine own_special K own_d20_4 rfl (own_w3 hw) (own_w4 hw) (own_w2 hw) (own_w5 hw) (a := a3) (argsL := []) (rest := [(.ref a3)]) (own_sd hw H2) own_pd0 rfl rfl rfl (by decide) (W := 1) (Nat.le_of_eq rfl) (by decide) (by decide) (by decide) (by decide) ?_
    intro v6 h4 q5
    obtain ⟨rfl, os8, b9, H7⟩ := q5
    replace H7 : own_H Z h4 (own_HM b9 (.float (1061158912 : UInt32)) :: own_SD a3 (.ref b9) :: os8) ([]) := H7
    refine own_astore K own_d20_7 rfl (Ls' := #[.val (.int mo), .val (.int p0), .val (.int p1), .val (.int p2), .val (.ref a3), .unset, .unset, .unset, .unset, .unset, .unset]) rfl ?_
    refine own_iloadN K own_d20_9 rfl ?_
    refine own_iconst K own_d20_10 (v := (4 : Int32)) rfl ?_
    refine own_iand K own_d20_11 ?_
    refine own_ifeq K own_d20_12 (fun g4 => ?_) (fun g4 => ?_)
    · refine own_iloadN K own_d20_23 rfl ?_
      refine own_iconst K own_d20_24 (v := (3 : Int32)) rfl ?_
      refine own_iand K own_d20_25 ?_
      refine own_topI (x' := (2 : Int32)) (q) ?_
      refine own_istore K own_d20_26 (Ls' := #[.val (.int mo), .val (.int p0), .val (.int p1), .val (.int p2), .val (.ref a3), .val (.int (2 : Int32)), .unset, .unset, .unset, .unset, .unset]) rfl ?_
      refine own_iloadN K own_d20_28 rfl ?_
      refine own_sipush K own_d20_29 (v := (255 : Int32)) rfl ?_
      refine own_iand K own_d20_32 ?_
      refine own_i2c K own_d20_33 ?_
      refine own_topI (x' := c0) (e0) ?_
      refine own_istore K own_d20_34 (Ls' := #[.val (.int mo), .val (.int p0), .val (.int p1), .val (.int p2), .val (.ref a3), .val (.int (2 : Int32)), .val (.int c0), .unset, .unset, .unset, .unset]) rfl ?_
      refine own_iloadN K own_d20_36 rfl ?_
      refine own_sipush K own_d20_37 (v := (255 : Int32)) rfl ?_
      refine own_iand K own_d20_40 ?_
      refine own_i2c K own_d20_41 ?_
      refine own_topI (x' := c1) (e1) ?_
      refine own_istore K own_d20_42 (Ls' := #[.val (.int mo), .val (.int p0), .val (.int p1), .val (.int p2), .val (.ref a3), .val (.int (2 : Int32)), .val (.int c0), .val (.int c1), .unset, .unset, .unset]) rfl ?_
      refine own_iloadN K own_d20_44 rfl ?_
      refine own_sipush K own_d20_45 (v := (255 : Int32)) rfl ?_
      refine own_iand K own_d20_48 ?_
      refine own_i2c K own_d20_49 ?_
      refine own_topI (x' := c2) (e2) ?_
      refine own_istore K own_d20_50 (Ls' := #[.val (.int mo), .val (.int p0), .val (.int p1), .val (.int p2), .val (.ref a3), .val (.int (2 : Int32)), .val (.int c0), .val (.int c1), .val (.int c2), .unset, .unset]) rfl ?_
      refine own_iload K own_d20_52 rfl ?_
      refine own_ifeq K own_d20_54 (fun q => absurd q (by decide)) (fun _ => ?_)
      refine own_iload K own_d20_57 rfl ?_
      refine own_static K own_d20_59 (own_w31 hw) (own_w32 hw) (own_w33 hw) (own_w34 hw) (argsL := [(.int c0)]) (rest := []) (own_wsM hw) own_pd14 rfl rfl rfl (by decide) (W := 0) (Nat.le_of_eq rfl) (by decide) (by decide) (by decide) (by decide) ?_
      intro v12 h10 q11
      obtain ⟨rfl, rfl⟩ := q11
      refine own_ifeq K own_d20_62 (fun gw0 => ?_) (fun gw0 => ?_)
      · refine own_iconst K own_d20_97 (v := (0 : Int32)) rfl ?_
        refine own_istore K own_d20_98 (Ls' := #[.val (.int mo), .val (.int p0), .val (.int p1), .val (.int p2), .val (.ref a3), .val (.int (2 : Int32)), .val (.int c0), .val (.int c1), .val (.int c2), .val (.int (0 : Int32)), .unset]) rfl ?_
        refine own_iload K own_d20_100 rfl ?_
        refine own_ifeq K own_d20_102 (fun _ => ?_) (fun q => absurd (by decide) q)
        refine own_iload K own_d20_107 rfl ?_
        refine own_iload K own_d20_109 rfl ?_
        refine own_iload K own_d20_111 rfl ?_
        refine own_iload K own_d20_113 rfl ?_
        refine own_static K own_d20_115 (own_w35 hw) (own_w36 hw) (own_w33 hw) (own_w37 hw) (argsL := [(.int (2 : Int32)), (.int c0), (.int c1), (.int c2)]) (rest := []) (own_mk2 hw hS.1 H7 l0 u0 l1 u1) own_pd15 rfl rfl rfl (by decide) (W := 0) (Nat.le_of_eq rfl) (by decide) (by decide) (by decide) (by decide) ?_
        intro v15 h13 q14
        obtain ⟨a17, y18, x19, rfl, H16⟩ := q14
        replace H16 : own_H Z h13 (own_ST a17 (.ref y18) (.int (0 : Int32)) :: own_HM b9 (.float (1061158912 : UInt32)) :: own_SD a3 (.ref b9) :: os8) ((y18, .byte, "[B", [(.int (own_by c0)), (.int (own_by c1))]) :: (x19, .char, "[C", [(.int c0), (.int c1)]) :: []) := H16
        refine own_astore K own_d20_118 rfl (Ls' := #[.val (.int mo), .val (.int p0), .val (.int p1), .val (.int p2), .val (.ref a3), .val (.int (2 : Int32)), .val (.int c0), .val (.int c1), .val (.int c2), .val (.int (0 : Int32)), .val (.ref a17)]) rfl ?_
        refine own_aload K own_d20_120 rfl rfl ?_
        refine own_aload K own_d20_122 rfl rfl ?_
        refine own_static K own_d20_124 (own_w27 hw) (own_w28 hw) (own_w29 hw) (own_w30 hw) (argsL := [(.ref a17), (.ref a3)]) (rest := []) (own_nb2 hw hS H16 l0 u0 l1 u1 (by first | exact gw0 | exact Or.inl gw0 | exact Or.inr gw1 | exact Or.inr (Or.inl gw1) | exact Or.inr (Or.inr gw2))) own_pd13 rfl rfl rfl (by decide) (W := 0) (Nat.le_of_eq rfl) (by decide) (by decide) (by decide) (by decide) ?_
        intro v22 h20 q21
        obtain ⟨rfl, rfl⟩ := q21
        refine own_iconst K own_d20_127 (v := (1 : Int32)) rfl ?_
        exact own_retZ K (by first | exact Or.inl rfl | exact Or.inr rfl | decide) own_d20_128 (by decide) (by decide) (rfl)
      · refine own_iload K own_d20_65 rfl ?_
        refine own_iconst K own_d20_67 (v := (2 : Int32)) rfl ?_
        refine own_icmplt K own_d20_68 (fun q => absurd q (by decide)) (fun _ => ?_)
        refine own_iload K own_d20_71 rfl ?_
        refine own_static K own_d20_73 (own_w31 hw) (own_w32 hw) (own_w33 hw) (own_w34 hw) (argsL := [(.int c1)]) (rest := []) (own_wsM hw) own_pd14 rfl rfl rfl (by decide) (W := 0) (Nat.le_of_eq rfl) (by decide) (by decide) (by decide) (by decide) ?_
        intro v25 h23 q24
        obtain ⟨rfl, rfl⟩ := q24
        refine own_ifeq K own_d20_76 (fun gw1 => ?_) (fun gw1 => ?_)
        · refine own_iconst K own_d20_97 (v := (0 : Int32)) rfl ?_
          refine own_istore K own_d20_98 (Ls' := #[.val (.int mo), .val (.int p0), .val (.int p1), .val (.int p2), .val (.ref a3), .val (.int (2 : Int32)), .val (.int c0), .val (.int c1), .val (.int c2), .val (.int (0 : Int32)), .unset]) rfl ?_
          refine own_iload K own_d20_100 rfl ?_
          refine own_ifeq K own_d20_102 (fun _ => ?_) (fun q => absurd (by decide) q)
          refine own_iload K own_d20_107 rfl ?_
          refine own_iload K own_d20_109 rfl ?_
          refine own_iload K own_d20_111 rfl ?_
          refine own_iload K own_d20_113 rfl ?_
          refine own_static K own_d20_115 (own_w35 hw) (own_w36 hw) (own_w33 hw) (own_w37 hw) (argsL := [(.int (2 : Int32)), (.int c0), (.int c1), (.int c2)]) (rest := []) (own_mk2 hw hS.1 H7 l0 u0 l1 u1) own_pd15 rfl rfl rfl (by decide) (W := 0) (Nat.le_of_eq rfl) (by decide) (by decide) (by decide) (by decide) ?_
          intro v28 h26 q27
          obtain ⟨a30, y31, x32, rfl, H29⟩ := q27
          replace H29 : own_H Z h26 (own_ST a30 (.ref y31) (.int (0 : Int32)) :: own_HM b9 (.float (1061158912 : UInt32)) :: own_SD a3 (.ref b9) :: os8) ((y31, .byte, "[B", [(.int (own_by c0)), (.int (own_by c1))]) :: (x32, .char, "[C", [(.int c0), (.int c1)]) :: []) := H29
          refine own_astore K own_d20_118 rfl (Ls' := #[.val (.int mo), .val (.int p0), .val (.int p1), .val (.int p2), .val (.ref a3), .val (.int (2 : Int32)), .val (.int c0), .val (.int c1), .val (.int c2), .val (.int (0 : Int32)), .val (.ref a30)]) rfl ?_
          refine own_aload K own_d20_120 rfl rfl ?_
          refine own_aload K own_d20_122 rfl rfl ?_
          refine own_static K own_d20_124 (own_w27 hw) (own_w28 hw) (own_w29 hw) (own_w30 hw) (argsL := [(.ref a30), (.ref a3)]) (rest := []) (own_nb2 hw hS H29 l0 u0 l1 u1 (by first | exact gw0 | exact Or.inl gw0 | exact Or.inr gw1 | exact Or.inr (Or.inl gw1) | exact Or.inr (Or.inr gw2))) own_pd13 rfl rfl rfl (by decide) (W := 0) (Nat.le_of_eq rfl) (by decide) (by decide) (by decide) (by decide) ?_
          intro v35 h33 q34
          obtain ⟨rfl, rfl⟩ := q34
          refine own_iconst K own_d20_127 (v := (1 : Int32)) rfl ?_
          exact own_retZ K (by first | exact Or.inl rfl | exact Or.inr rfl | decide) own_d20_128 (by decide) (by decide) (rfl)
        · refine own_iload K own_d20_79 rfl ?_
          refine own_iconst K own_d20_81 (v := (3 : Int32)) rfl ?_
          refine own_icmplt K own_d20_82 (fun _ => ?_) (fun q => absurd (by decide) q)
          refine own_iconst K own_d20_93 (v := (1 : Int32)) rfl ?_
          refine own_goto K own_d20_94 ?_
          refine own_istore K own_d20_98 (Ls' := #[.val (.int mo), .val (.int p0), .val (.int p1), .val (.int p2), .val (.ref a3), .val (.int (2 : Int32)), .val (.int c0), .val (.int c1), .val (.int c2), .val (.int (1 : Int32)), .unset]) rfl ?_
          refine own_iload K own_d20_100 rfl ?_
          refine own_ifeq K own_d20_102 (fun q => absurd q (by decide)) (fun _ => ?_)
          refine own_iconst K own_d20_105 (v := (1 : Int32)) rfl ?_
          exact own_retZ K (by first | exact Or.inl rfl | exact Or.inr rfl | decide) own_d20_106 (by decide) (by decide) (rfl)
    · refine own_aconstNull K own_d20_15 ?_
      refine own_aload K own_d20_16 rfl rfl ?_
      refine own_static K own_d20_18 (own_w27 hw) (own_w28 hw) (own_w29 hw) (own_w30 hw) (argsL := [.null, (.ref a3)]) (rest := []) (own_nbN hw) own_pd13 rfl rfl rfl (by decide) (W := 0) (Nat.le_of_eq rfl) (by decide) (by decide) (by decide) (by decide) ?_
      intro v38 h36 q37
      obtain ⟨rfl, rfl⟩ := q37
      refine own_iconst K own_d20_21 (v := (1 : Int32)) rfl ?_
      exact own_retZ K (by first | exact Or.inl rfl | exact Or.inr rfl | decide) own_d20_22 (by decide) (by decide) (rfl)
  · refine own_new K own_d20_0 (own_w0 hw) (own_w1 hw) (own_w2 hw) H (own_SD_F hw) (own_SD_P hw) (by decide) (by decide) ?_
    intro h1 a3 H2
    replace H2 : own_H Z h1 (own_SD a3 .null :: []) ([]) := H2
    refine own_dup K own_d20_3 rfl ?_
    refine own_special K own_d20_4 rfl (own_w3 hw) (own_w4 hw) (own_w2 hw) (own_w5 hw) (a := a3) (argsL := []) (rest := [(.ref a3)]) (own_sd hw H2) own_pd0 rfl rfl rfl (by decide) (W := 1) (Nat.le_of_eq rfl) (by decide) (by decide) (by decide) (by decide) ?_
    intro v6 h4 q5
    obtain ⟨rfl, os8, b9, H7⟩ := q5
    replace H7 : own_H Z h4 (own_HM b9 (.float (1061158912 : UInt32)) :: own_SD a3 (.ref b9) :: os8) ([]) := H7
    refine own_astore K own_d20_7 rfl (Ls' := #[.val (.int mo), .val (.int p0), .val (.int p1), .val (.int p2), .val (.ref a3), .unset, .unset, .unset, .unset, .unset, .unset]) rfl ?_
    refine own_iloadN K own_d20_9 rfl ?_
    refine own_iconst K own_d20_10 (v := (4 : Int32)) rfl ?_
    refine own_iand K own_d20_11 ?_
    refine own_ifeq K own_d20_12 (fun g4 => ?_) (fun g4 => ?_)
    · refine own_iloadN K own_d20_23 rfl ?_
      refine own_iconst K own_d20_24 (v := (3 : Int32)) rfl ?_
      refine own_iand K own_d20_25 ?_
      refine own_topI (x' := (3 : Int32)) (q) ?_
      refine own_istore K own_d20_26 (Ls' := #[.val (.int mo), .val (.int p0), .val (.int p1), .val (.int p2), .val (.ref a3), .val (.int (3 : Int32)), .unset, .unset, .unset, .unset, .unset]) rfl ?_
      refine own_iloadN K own_d20_28 rfl ?_
      refine own_sipush K own_d20_29 (v := (255 : Int32)) rfl ?_
      refine own_iand K own_d20_32 ?_
      refine own_i2c K own_d20_33 ?_
      refine own_topI (x' := c0) (e0) ?_
      refine own_istore K own_d20_34 (Ls' := #[.val (.int mo), .val (.int p0), .val (.int p1), .val (.int p2), .val (.ref a3), .val (.int (3 : Int32)), .val (.int c0), .unset, .unset, .unset, .unset]) rfl ?_
      refine own_iloadN K own_d20_36 rfl ?_
      refine own_sipush K own_d20_37 (v := (255 : Int32)) rfl ?_
      refine own_iand K own_d20_40 ?_
      refine own_i2c K own_d20_41 ?_
      refine own_topI (x' := c1) (e1) ?_
      refine own_istore K own_d20_42 (Ls' := #[.val (.int mo), .val (.int p0), .val (.int p1), .val (.int p2), .val (.ref a3), .val (.int (3 : Int32)), .val (.int c0), .val (.int c1), .unset, .unset, .unset]) rfl ?_
      refine own_iloadN K own_d20_44 rfl ?_
      refine own_sipush K own_d20_45 (v := (255 : Int32)) rfl ?_
      refine own_iand K own_d20_48 ?_
      refine own_i2c K own_d20_49 ?_
      refine own_topI (x' := c2) (e2) ?_
      refine own_istore K own_d20_50 (Ls' := #[.val (.int mo), .val (.int p0), .val (.int p1), .val (.int p2), .val (.ref a3), .val (.int (3 : Int32)), .val (.int c0), .val (.int c1), .val (.int c2), .unset, .unset]) rfl ?_
      refine own_iload K own_d20_52 rfl ?_
      refine own_ifeq K own_d20_54 (fun q => absurd q (by decide)) (fun _ => ?_)
      refine own_iload K own_d20_57 rfl ?_
      refine own_static K own_d20_59 (own_w31 hw) (own_w32 hw) (own_w33 hw) (own_w34 hw) (argsL := [(.int c0)]) (rest := []) (own_wsM hw) own_pd14 rfl rfl rfl (by decide) (W := 0) (Nat.le_of_eq rfl) (by decide) (by decide) (by decide) (by decide) ?_
      intro v12 h10 q11
      obtain ⟨rfl, rfl⟩ := q11
      refine own_ifeq K own_d20_62 (fun gw0 => ?_) (fun gw0 => ?_)
      · refine own_iconst K own_d20_97 (v := (0 : Int32)) rfl ?_
        refine own_istore K own_d20_98 (Ls' := #[.val (.int mo), .val (.int p0), .val (.int p1), .val (.int p2), .val (.ref a3), .val (.int (3 : Int32)), .val (.int c0), .val (.int c1), .val (.int c2), .val (.int (0 : Int32)), .unset]) rfl ?_
        refine own_iload K own_d20_100 rfl ?_
        refine own_ifeq K own_d20_102 (fun _ => ?_) (fun q => absurd (by decide) q)
        refine own_iload K own_d20_107 rfl ?_
        refine own_iload K own_d20_109 rfl ?_
        refine own_iload K own_d20_111 rfl ?_
        refine own_iload K own_d20_113 rfl ?_
        refine own_static K own_d20_115 (own_w35 hw) (own_w36 hw) (own_w33 hw) (own_w37 hw) (argsL := [(.int (3 : Int32)), (.int c0), (.int c1), (.int c2)]) (rest := []) (own_mk3 hw hS.1 H7 l0 u0 l1 u1 l2 u2) own_pd15 rfl rfl rfl (by decide) (W := 0) (Nat.le_of_eq rfl) (by decide) (by decide) (by decide) (by decide) ?_
        intro v15 h13 q14
        obtain ⟨a17, y18, x19, rfl, H16⟩ := q14
        replace H16 : own_H Z h13 (own_ST a17 (.ref y18) (.int (0 : Int32)) :: own_HM b9 (.float (1061158912 : UInt32)) :: own_SD a3 (.ref b9) :: os8) ((y18, .byte, "[B", [(.int (own_by c0)), (.int (own_by c1)), (.int (own_by c2))]) :: (x19, .char, "[C", [(.int c0), (.int c1), (.int c2)]) :: []) := H16
        refine own_astore K own_d20_118 rfl (Ls' := #[.val (.int mo), .val (.int p0), .val (.int p1), .val (.int p2), .val (.ref a3), .val (.int (3 : Int32)), .val (.int c0), .val (.int c1), .val (.int c2), .val (.int (0 : Int32)), .val (.ref a17)]) rfl ?_
        refine own_aload K own_d20_120 rfl rfl ?_
        refine own_aload K own_d20_122 rfl rfl ?_
        refine own_static K own_d20_124 (own_w27 hw) (own_w28 hw) (own_w29 hw) (own_w30 hw) (argsL := [(.ref a17), (.ref a3)]) (rest := []) (own_nb3 hw hS H16 l0 u0 l1 u1 l2 u2 (by first | exact gw0 | exact Or.inl gw0 | exact Or.inr gw1 | exact Or.inr (Or.inl gw1) | exact Or.inr (Or.inr gw2))) own_pd13 rfl rfl rfl (by decide) (W := 0) (Nat.le_of_eq rfl) (by decide) (by decide) (by decide) (by decide) ?_
        intro v22 h20 q21
        obtain ⟨rfl, rfl⟩ := q21
        refine own_iconst K own_d20_127 (v := (1 : Int32)) rfl ?_
        exact own_retZ K (by first | exact Or.inl rfl | exact Or.inr rfl | decide) own_d20_128 (by decide) (by decide) (rfl)
      · refine own_iload K own_d20_65 rfl ?_
        refine own_iconst K own_d20_67 (v := (2 : Int32)) rfl ?_
        refine own_icmplt K own_d20_68 (fun q => absurd q (by decide)) (fun _ => ?_)
        refine own_iload K own_d20_71 rfl ?_
        refine own_static K own_d20_73 (own_w31 hw) (own_w32 hw) (own_w33 hw) (own_w34 hw) (argsL := [(.int c1)]) (rest := []) (own_wsM hw) own_pd14 rfl rfl rfl (by decide) (W := 0) (Nat.le_of_eq rfl) (by decide) (by decide) (by decide) (by decide) ?_
        intro v25 h23 q24
        obtain ⟨rfl, rfl⟩ := q24
        refine own_ifeq K own_d20_76 (fun gw1 => ?_) (fun gw1 => ?_)
        · refine own_iconst K own_d20_97 (v := (0 : Int32)) rfl ?_
          refine own_istore K own_d20_98 (Ls' := #[.val (.int mo), .val (.int p0), .val (.int p1), .val (.int p2), .val (.ref a3), .val (.int (3 : Int32)), .val (.int c0), .val (.int c1), .val (.int c2), .val (.int (0 : Int32)), .unset]) rfl ?_
          refine own_iload K own_d20_100 rfl ?_
          refine own_ifeq K own_d20_102 (fun _ => ?_) (fun q => absurd (by decide) q)
          refine own_iload K own_d20_107 rfl ?_
          refine own_iload K own_d20_109 rfl ?_
          refine own_iload K own_d20_111 rfl ?_
          refine own_iload K own_d20_113 rfl ?_
          refine own_static K own_d20_115 (own_w35 hw) (own_w36 hw) (own_w33 hw) (own_w37 hw) (argsL := [(.int (3 : Int32)), (.int c0), (.int c1), (.int c2)]) (rest := []) (own_mk3 hw hS.1 H7 l0 u0 l1 u1 l2 u2) own_pd15 rfl rfl rfl (by decide) (W := 0) (Nat.le_of_eq rfl) (by decide) (by decide) (by decide) (by decide) ?_
          intro v28 h26 q27
          obtain ⟨a30, y31, x32, rfl, H29⟩ := q27
          replace H29 : own_H Z h26 (own_ST a30 (.ref y31) (.int (0 : Int32)) :: own_HM b9 (.float (1061158912 : UInt32)) :: own_SD a3 (.ref b9) :: os8) ((y31, .byte, "[B", [(.int (own_by c0)), (.int (own_by c1)), (.int (own_by c2))]) :: (x32, .char, "[C", [(.int c0), (.int c1), (.int c2)]) :: []) := H29
          refine own_astore K own_d20_118 rfl (Ls' := #[.val (.int mo), .val (.int p0), .val (.int p1), .val (.int p2), .val (.ref a3), .val (.int (3 : Int32)), .val (.int c0), .val (.int c1), .val (.int c2), .val (.int (0 : Int32)), .val (.ref a30)]) rfl ?_
          refine own_aload K own_d20_120 rfl rfl ?_
          refine own_aload K own_d20_122 rfl rfl ?_
          refine own_static K own_d20_124 (own_w27 hw) (own_w28 hw) (own_w29 hw) (own_w30 hw) (argsL := [(.ref a30), (.ref a3)]) (rest := []) (own_nb3 hw hS H29 l0 u0 l1 u1 l2 u2 (by first | exact gw0 | exact Or.inl gw0 | exact Or.inr gw1 | exact Or.inr (Or.inl gw1) | exact Or.inr (Or.inr gw2))) own_pd13 rfl rfl rfl (by decide) (W := 0) (Nat.le_of_eq rfl) (by decide) (by decide) (by decide) (by decide) ?_
          intro v35 h33 q34
          obtain ⟨rfl, rfl⟩ := q34
          refine own_iconst K own_d20_127 (v := (1 : Int32)) rfl ?_
          exact own_retZ K (by first | exact Or.inl rfl | exact Or.inr rfl | decide) own_d20_128 (by decide) (by decide) (rfl)
        · refine own_iload K own_d20_79 rfl ?_
          refine own_iconst K own_d20_81 (v := (3 : Int32)) rfl ?_
          refine own_icmplt K own_d20_82 (fun q => absurd q (by decide)) (fun _ => ?_)
          refine own_iload K own_d20_85 rfl ?_
          refine own_static K own_d20_87 (own_w31 hw) (own_w32 hw) (own_w33 hw) (own_w34 hw) (argsL := [(.int c2)]) (rest := []) (own_wsM hw) own_pd14 rfl rfl rfl (by decide) (W := 0) (Nat.le_of_eq rfl) (by decide) (by decide) (by decide) (by decide) ?_
          intro v38 h36 q37
          obtain ⟨rfl, rfl⟩ := q37
          refine own_ifeq K own_d20_90 (fun gw2 => ?_) (fun gw2 => ?_)
          · refine own_iconst K own_d20_97 (v := (0 : Int32)) rfl ?_
            refine own_istore K own_d20_98 (Ls' := #[.val (.int mo), .val (.int p0), .val (.int p1), .val (.int p2), .val (.ref a3), .val (.int (3 : Int32)), .val (.int c0), .val (.int c1), .val (.int c2), .val (.int (0 : Int32)), .unset]) rfl ?_
            refine own_iload K own_d20_100 rfl ?_
            refine own_ifeq K own_d20_102 (fun _ => ?_) (fun q => absurd (by decide) q)
            refine own_iload K own_d20_107 rfl ?_
            refine own_iload K own_d20_109 rfl ?_
            refine own_iload K own_d20_111 rfl ?_
            refine own_iload K own_d20_113 rfl ?_
            refine own_static K own_d20_115 (own_w35 hw) (own_w36 hw) (own_w33 hw) (own_w37 hw) (argsL := [(.int (3 : Int32)), (.int c0), (.int c1), (.int c2)]) (rest := []) (own_mk3 hw hS.1 H7 l0 u0 l1 u1 l2 u2) own_pd15 rfl rfl rfl (by decide) (W := 0) (Nat.le_of_eq rfl) (by decide) (by decide) (by decide) (by decide) ?_
            intro v41 h39 q40
            obtain ⟨a43, y44, x45, rfl, H42⟩ := q40
            replace H42 : own_H Z h39 (own_ST a43 (.ref y44) (.int (0 : Int32)) :: own_HM b9 (.float (1061158912 : UInt32)) :: own_SD a3 (.ref b9) :: os8) ((y44, .byte, "[B", [(.int (own_by c0)), (.int (own_by c1)), (.int (own_by c2))]) :: (x45, .char, "[C", [(.int c0), (.int c1), (.int c2)]) :: []) := H42
            refine own_astore K own_d20_118 rfl (Ls' := #[.val (.int mo), .val (.int p0), .val (.int p1), .val (.int p2), .val (.ref a3), .val (.int (3 : Int32)), .val (.int c0), .val (.int c1), .val (.int c2), .val (.int (0 : Int32)), .val (.ref a43)]) rfl ?_
            refine own_aload K own_d20_120 rfl rfl ?_
            refine own_aload K own_d20_122 rfl rfl ?_
            refine own_static K own_d20_124 (own_w27 hw) (own_w28 hw) (own_w29 hw) (own_w30 hw) (argsL := [(.ref a43), (.ref a3)]) (rest := []) (own_nb3 hw hS H42 l0 u0 l1 u1 l2 u2 (by first | exact gw0 | exact Or.inl gw0 | exact Or.inr gw1 | exact Or.inr (Or.inl gw1) | exact Or.inr (Or.inr gw2))) own_pd13 rfl rfl rfl (by decide) (W := 0) (Nat.le_of_eq rfl) (by decide) (by decide) (by decide) (by decide) ?_
            intro v48 h46 q47
            obtain ⟨rfl, rfl⟩ := q47
            refine own_iconst K own_d20_127 (v := (1 : Int32)) rfl ?_
            exact own_retZ K (by first | exact Or.inl rfl | exact Or.inr rfl | decide) own_d20_128 (by decide) (by decide) (rfl)
          · refine own_iconst K own_d20_93 (v := (1 : Int32)) rfl ?_
            refine own_goto K own_d20_94 ?_
            refine own_istore K own_d20_98 (Ls' := #[.val (.int mo), .val (.int p0), .val (.int p1), .val (.int p2), .val (.ref a3), .val (.int (3 : Int32)), .val (.int c0), .val (.int c1), .val (.int c2), .val (.int (1 : Int32)), .unset]) rfl ?_
            refine own_iload K own_d20_100 rfl ?_
            refine own_ifeq K own_d20_102 (fun q => absurd q (by decide)) (fun _ => ?_)
            refine own_iconst K own_d20_105 (v := (1 : Int32)) rfl ?_
            exact own_retZ K (by first | exact Or.inl rfl | exact Or.inr rfl | decide) own_d20_106 (by decide) (by decide) (rfl)
    · refine own_aconstNull K own_d20_15 ?_
      refine own_aload K own_d20_16 rfl rfl ?_
      refine own_static K own_d20_18 (own_w27 hw) (own_w28 hw) (own_w29 hw) (own_w30 hw) (argsL := [.null, (.ref a3)]) (rest := []) (own_nbN hw) own_pd13 rfl rfl rfl (by decide) (W := 0) (Nat.le_of_eq rfl) (by decide) (by decide) (by decide) (by decide) ?_
      intro v51 h49 q50
      obtain ⟨rfl, rfl⟩ := q50
      refine own_iconst K own_d20_21 (v := (1 : Int32)) rfl ?_
      exact own_retZ K (by first | exact Or.inl rfl | exact Or.inr rfl | decide) own_d20_22 (by decide) (by decide) (rfl)
set_option maxRecDepth 65536 in
set_option maxHeartbeats 40000000 in
theorem comes_1 {Post : Tables → Env → Array Value → State → Outcome → State → Prop} (hpost : ∀ tb e args s v u, (limb_1_1.after args s (.returned v) u = true ∧ limb_1_2.after args s (.returned v) u = true ∧ True) → FrameEnd s (.returned v) u (Jvm.fieldLocs frame_1_writes args s ++ Jvm.arrayLocs frame_1_arrays args s ++ Jvm.staticLocs frame_1_statics s) 24 128 → Post tb e args s (.returned v) u) :
    ArmFor flags0 classFile x code maxLocals ret World_1 tables_1 room_1 Calls_1 rest_1 Pre_1 Post := by
  intro l hfl _ _ p e ha hc hk s m args below hf hA hF happ hP
  obtain ⟨hcalls, hrest, hpre⟩ := hP
  obtain ⟨-, -, -, hnamed, -, -, -, hat⟩ := (Spec.applies_iff hf).mp happ
  obtain ⟨hg, hn⟩ := and_e (Cond.before_iff.mp (show (Jvm.Cond.and given_1 narrow_1).before args s = true from hpre))
  obtain ⟨h1, hq0⟩ := and_e hg
  obtain ⟨hi0, hq1⟩ := and_e hq0
  obtain ⟨hi1, hq2⟩ := and_e hq1
  obtain ⟨hi2, hq3⟩ := and_e hq2
  have hi3 := hq3
  obtain ⟨w0, w1, w2, w3, rfl⟩ : ∃ w0 w1 w2 w3 : Value, args = #[w0, w1, w2, w3] := by
    have hs : args.size = 4 := by simpa [Cond.value, given_1] using h1
    obtain ⟨L⟩ := args
    match L, hs with
    | [w0, w1, w2, w3], _ => exact ⟨w0, w1, w2, w3, rfl⟩
  have hw : own_Z s #[w0, w1, w2, w3] := fun d (hd : d ∈ tables_1) => atoms_spec (ws := Jvm.Cond.code x code maxLocals ret :: tables_1) hat d (List.mem_cons_of_mem _ hd)
  obtain ⟨i0, e0⟩ := is_v hi0
  obtain rfl : w0 = (.int i0) := Option.some.inj e0
  obtain ⟨i1, e1⟩ := is_v hi1
  obtain rfl : w1 = (.int i1) := Option.some.inj e1
  obtain ⟨i2, e2⟩ := is_v hi2
  obtain rfl : w2 = (.int i2) := Option.some.inj e2
  obtain ⟨i3, e3⟩ := is_v hi3
  obtain rfl : w3 = (.int i3) := Option.some.inj e3
  obtain ⟨hsets, -⟩ := atoms_of _ (rest_1_c_eq ▸ (show rest_1_c.before _ s = true from hrest))
  obtain ⟨cs, ia, ta, cl, hS⟩ := own_stof hsets
  obtain ⟨n, o, h1, h2, h3, v, L, rfl, ⟨rfl, N, -⟩, hq⟩ := own_law hw hS p e ha hc hk s m _ below hf ((Spec.applies_iff_loose hf).mp happ).1 ⟨rfl, State.Warmed39.refl s, rfl⟩ trivial
  refine ⟨n, _, h1, h2, h3, hpost _ _ _ _ _ _ ⟨Cond.after_iff.mpr rfl, Cond.after_iff.mpr (eq_i res_at (Term.int_eval (1)) rfl), trivial⟩ ⟨hq.1, hq.2.1, (hq.2.2.sift fun y hy => Or.inr (N y hy)).mono (by decide) (by decide)⟩⟩
theorem main_1_1 : Claimed_1_1 := comes_1 fun _ _ _ _ _ _ h hF => ⟨h.1, hF⟩
theorem main_1_2 : Claimed_1_2 := comes_1 fun _ _ _ _ _ _ h hF => ⟨h.2.1, hF⟩
end Jvm.Pilot.@@N@@
namespace Jvm.Pilot.@@N@@
open Jvm Jvm.ClassFile Sem Op Lib Jvm.Free Jvm.Stand Jvm.Pilot.@@N@@.Jvm.D
/-! MADE BY PROGRAM (witnessworld.py) out of the Statement's table words and the real class files: 25 classes; the members and pool entries that the words name. The judged class is class 1, her method 3. -/
namespace start1
open Jvm.ClassFile
def u (s : String) : CpInfo := .utf8 (stringToUtf16 s)
/-- a pool by its gaps: so many unusable entries, then the entry; so many at the end -/
def gap : Nat → List CpInfo → List CpInfo
  | 0, r => r
  | n + 1, r => .unusable :: gap n r
def poolList (es : List (Nat × CpInfo)) (last : Nat) : List CpInfo := es.foldr (fun e r => gap e.1 (e.2 :: r)) (gap last [])
def pool (es : List (Nat × CpInfo)) (last : Nat) : Array CpInfo := ⟨poolList es last⟩
def fileOf (pool : Array CpInfo) (this : Nat) (attrs : Array Attribute := #[]) (ms : Array MethodInfo := #[]) (fl : Nat := 33) (sup : Nat := 0) (ifs : Array Nat := #[]) (fds : Array FieldInfo := #[]) : ClassFile where
  minorVersion := 0
  majorVersion := 65
  constantPool := pool
  accessFlags := fl
  thisClass := this
  superClass := sup
  interfaces := ifs
  fields := fds
  methods := ms
  attributes := attrs
def plain (name : String) (sup : Option ClassId) : Class where
  name := name
  kind := .ordinary
  loader := none
  accessFlags := 33
  super := sup
  interfaces := #[]
  cf := none
  fields := #[]
  methods := #[]
  instanceTypes := #[]
  staticTypes := #[]
  resolved := #[]
  callSites := []
  init := .initialized
  statics := none
  mirror := none

def pool0 : Array CpInfo := pool [(5, u "<init>"), (0, u "()V"), (1, .class_ 10), (1, u "java/lang/Object")] 113

def k0c0 : Code := { maxStack := 0, maxLocals := 1, code := object_method_1_code, exceptionTable := #[], attributes := #[] }
def k0m0 : Method := { name := "<init>", desc := "()V", sig := { parameters := [], returnType := none }, accessFlags := 1, code := some k0c0 }
/-- java/lang/Object -/
def k0 : Class := { plain "java/lang/Object" none with
  accessFlags := 33
  interfaces := #[]
  cf := some (fileOf pool0 8 #[] #[{ accessFlags := 1, nameIndex := 5, descriptorIndex := 6, attributes := #[] }] 33 0 #[] #[])
  fields := #[]
  methods := #[k0m0]
  instanceTypes := #[]
  staticTypes := #[]
  resolved := Array.replicate 124 none
  statics := none }

def pool1 : Array CpInfo := pool [(2, .class_ 4), (0, .nameAndType 5 6), (0, u "java/lang/Object"), (0, u "<init>"), (0, u "()V"), (0, .class_ 8), (0, u "java/lang/String"), (0, .methodref 7 10), (0, .nameAndType 5 11), (0, u "([C)V"), (0, .class_ 13), (0, u "com/example/cistern/cistern/config/SettingsDraft"), (0, .methodref 12 3), (0, .methodref 16 17), (0, .class_ 18), (0, .nameAndType 19 20), (0, u "com/example/cistern/cistern/config/Setting"), (0, u "notBlank"), (0, u "(Ljava/lang/String;Lcom/example/cistern/cistern/config/SettingsDraft;)V"), (0, .methodref 22 23), (0, .class_ 24), (0, .nameAndType 25 26), (0, u "com/example/cistern/cistern/config/SettingNotBlankPinLaw"), (0, u "ws"), (0, u "(C)Z"), (0, .methodref 22 28), (0, .nameAndType 29 30), (0, u "make"), (0, u "(ICCC)Ljava/lang/String;"), (3, u "law"), (0, u "(IIII)Z")] 2

def k1m0 : Method := { name := "<init>", desc := "()V", sig := { parameters := [], returnType := none }, accessFlags := 1, code := none }
def k1c1 : Code := { maxStack := 2, maxLocals := 1, code := method_2_code, exceptionTable := #[], attributes := #[] }
def k1m1 : Method := { name := "ws", desc := "(C)Z", sig := { parameters := [.char], returnType := some .boolean }, accessFlags := 10, code := some k1c1 }
def k1c2 : Code := { maxStack := 4, maxLocals := 5, code := method_3_code, exceptionTable := #[], attributes := #[] }
def k1m2 : Method := { name := "make", desc := "(ICCC)Ljava/lang/String;", sig := { parameters := [.int, .char, .char, .char], returnType := some (.object "java/lang/String") }, accessFlags := 10, code := some k1c2 }
def k1c3 : Code := { maxStack := 4, maxLocals := 11, code := code, exceptionTable := #[], attributes := #[] }
def k1m3 : Method := { name := "law", desc := "(IIII)Z", sig := { parameters := [.int, .int, .int, .int], returnType := some .boolean }, accessFlags := 9, code := some k1c3 }
/-- com/example/cistern/cistern/config/SettingNotBlankPinLaw -/
def k1 : Class := { plain "com/example/cistern/cistern/config/SettingNotBlankPinLaw" (some 0) with
  accessFlags := 49
  interfaces := #[]
  cf := some (fileOf pool1 22 #[] #[{ accessFlags := 1, nameIndex := 5, descriptorIndex := 6, attributes := #[] }, { accessFlags := 10, nameIndex := 25, descriptorIndex := 26, attributes := #[] }, { accessFlags := 10, nameIndex := 29, descriptorIndex := 30, attributes := #[] }, { accessFlags := 9, nameIndex := 34, descriptorIndex := 35, attributes := #[] }] 49 2 #[] #[])
  fields := #[]
  methods := #[k1m0, k1m1, k1m2, k1m3]
  instanceTypes := #[]
  staticTypes := #[]
  resolved := Array.replicate 38 none
  statics := none }

def pool2 : Array CpInfo := pool [(1, .methodref 2 3), (0, .class_ 4), (0, .nameAndType 5 6), (0, u "java/lang/Object"), (0, u "<init>"), (0, u "()V"), (0, .class_ 8), (0, u "java/util/HashMap"), (0, .methodref 7 3), (0, .fieldref 11 12), (0, .class_ 13), (0, .nameAndType 14 15), (0, u "com/example/cistern/cistern/config/SettingsDraft"), (0, u "values"), (0, u "Ljava/util/Map;")] 39

def k2c0 : Code := { maxStack := 3, maxLocals := 1, code := prog_10_method_1_code, exceptionTable := #[], attributes := #[] }
def k2m0 : Method := { name := "<init>", desc := "()V", sig := { parameters := [], returnType := none }, accessFlags := 1, code := some k2c0 }
/-- com/example/cistern/cistern/config/SettingsDraft -/
def k2 : Class := { plain "com/example/cistern/cistern/config/SettingsDraft" (some 0) with
  accessFlags := 49
  interfaces := #[]
  cf := some (fileOf pool2 11 #[] #[{ accessFlags := 1, nameIndex := 5, descriptorIndex := 6, attributes := #[] }] 49 2 #[] #[{ accessFlags := 18, nameIndex := 14, descriptorIndex := 15, attributes := #[] }])
  fields := #[{ name := "values", type := (.object "java/util/Map"), accessFlags := 18, slot := 0, constantValue := 0 }]
  methods := #[k2m0]
  instanceTypes := #[(.object "java/util/Map")]
  staticTypes := #[]
  resolved := Array.replicate 55 none
  statics := none }

def pool3 : Array CpInfo := pool [(2, .class_ 4), (1, u "java/util/Map"), (31, .class_ 37), (0, u "java/util/Map$Entry"), (55, .class_ 94), (0, u "java/lang/Object")] 168

/-- java/util/Map -/
def k3 : Class := { plain "java/util/Map" (some 0) with
  accessFlags := 1537
  interfaces := #[]
  cf := some (fileOf pool3 2 #[.nestMembers #[36]] #[] 1537 93 #[] #[])
  fields := #[]
  methods := #[]
  instanceTypes := #[]
  staticTypes := #[]
  resolved := Array.replicate 263 none
  statics := none }

def pool4 : Array CpInfo := pool [(1, .methodref 2 3), (0, .class_ 4), (0, .nameAndType 5 6), (0, u "java/lang/Object"), (0, u "<init>"), (0, u "()V"), (1, .class_ 10), (1, u "java/util/AbstractMap"), (42, .class_ 54), (0, u "java/util/Map"), (9, u "keySet"), (0, u "Ljava/util/Set;"), (0, .class_ 67), (0, u "java/util/AbstractMap$1"), (5, u "values"), (0, u "Ljava/util/Collection;"), (0, .class_ 76), (0, u "java/util/AbstractMap$2"), (104, .class_ 182), (0, u "java/util/AbstractMap$ViewCollection"), (0, .class_ 184), (0, u "java/util/AbstractMap$SimpleImmutableEntry"), (0, .class_ 186), (0, u "java/util/AbstractMap$SimpleEntry"), (0, .class_ 188), (0, u "java/util/AbstractMap$2$1"), (0, .class_ 190), (0, u "java/util/AbstractMap$1$1")] 5

def k4c0 : Code := { maxStack := 1, maxLocals := 1, code := jdk_71_method_1_code, exceptionTable := #[], attributes := #[] }
def k4m0 : Method := { name := "<init>", desc := "()V", sig := { parameters := [], returnType := none }, accessFlags := 4, code := some k4c0 }
/-- java/util/AbstractMap -/
def k4 : Class := { plain "java/util/AbstractMap" (some 0) with
  accessFlags := 1057
  interfaces := #[3]
  cf := some (fileOf pool4 8 #[.nestMembers #[181, 183, 185, 75, 187, 66, 189]] #[{ accessFlags := 4, nameIndex := 5, descriptorIndex := 6, attributes := #[] }] 1057 2 #[53] #[{ accessFlags := 128, nameIndex := 64, descriptorIndex := 65, attributes := #[] }, { accessFlags := 128, nameIndex := 73, descriptorIndex := 74, attributes := #[] }])
  fields := #[{ name := "keySet", type := (.object "java/util/Set"), accessFlags := 128, slot := 0, constantValue := 0 }, { name := "values", type := (.object "java/util/Collection"), accessFlags := 128, slot := 1, constantValue := 0 }]
  methods := #[k4m0]
  instanceTypes := #[(.object "java/util/Set"), (.object "java/util/Collection")]
  staticTypes := #[]
  resolved := Array.replicate 196 none
  statics := none }

def pool5 : Array CpInfo := pool [(1, .class_ 2), (0, u "java/lang/Cloneable"), (0, .class_ 4), (0, u "java/lang/Object")] 2

/-- java/lang/Cloneable -/
def k5 : Class := { plain "java/lang/Cloneable" (some 0) with
  accessFlags := 1537
  interfaces := #[]
  cf := some (fileOf pool5 1 #[] #[] 1537 3 #[] #[])
  fields := #[]
  methods := #[]
  instanceTypes := #[]
  staticTypes := #[]
  resolved := Array.replicate 7 none
  statics := none }

def pool6 : Array CpInfo := pool [(1, .class_ 2), (0, u "java/io/Serializable"), (0, .class_ 4), (0, u "java/lang/Object")] 2

/-- java/io/Serializable -/
def k6 : Class := { plain "java/io/Serializable" (some 0) with
  accessFlags := 1537
  interfaces := #[]
  cf := some (fileOf pool6 1 #[] #[] 1537 3 #[] #[])
  fields := #[]
  methods := #[]
  instanceTypes := #[]
  staticTypes := #[]
  resolved := Array.replicate 7 none
  statics := none }

def pool7 : Array CpInfo := pool [(40, .class_ 41), (0, u "java/util/HashMap"), (1, .methodref 44 45), (0, .class_ 46), (0, .nameAndType 47 48), (0, u "java/util/AbstractMap"), (0, u "<init>"), (0, u "()V"), (32, .fieldref 40 82), (0, .nameAndType 83 84), (0, u "loadFactor"), (0, u "F"), (5, u "threshold"), (0, u "I"), (0, .float 1061158912), (8, .class_ 103), (1, u "java/util/Map"), (0, u "size"), (2, u "table"), (0, u "[Ljava/util/HashMap$Node;"), (14, u "entrySet"), (39, .class_ 165), (1, u "java/util/HashMap$Node"), (14, .class_ 181), (0, u "java/util/HashMap$TreeNode"), (22, u "modCount"), (37, u "Ljava/util/Set;"), (0, .class_ 244), (0, u "java/util/HashMap$KeySet"), (18, .class_ 264), (0, u "java/util/HashMap$Values"), (3, .class_ 269), (0, u "java/util/HashMap$EntrySet"), (76, .class_ 348), (1, u "java/util/HashMap$UnsafeHolder"), (43, .class_ 393), (0, u "java/lang/Cloneable"), (0, .class_ 395), (0, u "java/io/Serializable"), (0, u "serialVersionUID"), (0, u "J"), (3, u "DEFAULT_INITIAL_CAPACITY"), (1, u "MAXIMUM_CAPACITY"), (0, u "DEFAULT_LOAD_FACTOR"), (0, u "TREEIFY_THRESHOLD"), (1, u "UNTREEIFY_THRESHOLD"), (1, u "MIN_TREEIFY_CAPACITY"), (186, .class_ 597), (0, u "java/util/HashMap$EntrySpliterator"), (0, .class_ 599), (0, u "java/util/HashMap$ValueSpliterator"), (0, .class_ 601), (0, u "java/util/HashMap$KeySpliterator"), (0, .class_ 603), (0, u "java/util/HashMap$HashMapSpliterator"), (0, .class_ 605), (0, u "java/util/HashMap$EntryIterator"), (0, .class_ 607), (0, u "java/util/HashMap$ValueIterator"), (0, .class_ 609), (0, u "java/util/HashMap$KeyIterator"), (0, .class_ 611), (0, u "java/util/HashMap$HashIterator")] 17

def k7c0 : Code := { maxStack := 2, maxLocals := 1, code := jdk_69_method_7_code, exceptionTable := #[], attributes := #[] }
def k7m0 : Method := { name := "<init>", desc := "()V", sig := { parameters := [], returnType := none }, accessFlags := 1, code := some k7c0 }
/-- java/util/HashMap -/
def k7 : Class := { plain "java/util/HashMap" (some 4) with
  accessFlags := 33
  interfaces := #[3, 5, 6]
  cf := some (fileOf pool7 40 #[.nestMembers #[180, 596, 598, 600, 602, 604, 606, 608, 610, 346, 268, 263, 243, 163]] #[{ accessFlags := 1, nameIndex := 47, descriptorIndex := 48, attributes := #[] }] 33 44 #[101, 392, 394] #[{ accessFlags := 26, nameIndex := 396, descriptorIndex := 397, attributes := #[] }, { accessFlags := 24, nameIndex := 401, descriptorIndex := 91, attributes := #[] }, { accessFlags := 24, nameIndex := 403, descriptorIndex := 91, attributes := #[] }, { accessFlags := 24, nameIndex := 404, descriptorIndex := 84, attributes := #[] }, { accessFlags := 24, nameIndex := 405, descriptorIndex := 91, attributes := #[] }, { accessFlags := 24, nameIndex := 407, descriptorIndex := 91, attributes := #[] }, { accessFlags := 24, nameIndex := 409, descriptorIndex := 91, attributes := #[] }, { accessFlags := 128, nameIndex := 107, descriptorIndex := 108, attributes := #[] }, { accessFlags := 128, nameIndex := 123, descriptorIndex := 242, attributes := #[] }, { accessFlags := 128, nameIndex := 104, descriptorIndex := 91, attributes := #[] }, { accessFlags := 128, nameIndex := 204, descriptorIndex := 91, attributes := #[] }, { accessFlags := 0, nameIndex := 90, descriptorIndex := 91, attributes := #[] }, { accessFlags := 16, nameIndex := 83, descriptorIndex := 84, attributes := #[] }])
  fields := #[{ name := "serialVersionUID", type := .long, accessFlags := 26, slot := 0, constantValue := 0 }, { name := "DEFAULT_INITIAL_CAPACITY", type := .int, accessFlags := 24, slot := 1, constantValue := 0 }, { name := "MAXIMUM_CAPACITY", type := .int, accessFlags := 24, slot := 2, constantValue := 0 }, { name := "DEFAULT_LOAD_FACTOR", type := .float, accessFlags := 24, slot := 3, constantValue := 0 }, { name := "TREEIFY_THRESHOLD", type := .int, accessFlags := 24, slot := 4, constantValue := 0 }, { name := "UNTREEIFY_THRESHOLD", type := .int, accessFlags := 24, slot := 5, constantValue := 0 }, { name := "MIN_TREEIFY_CAPACITY", type := .int, accessFlags := 24, slot := 6, constantValue := 0 }, { name := "table", type := (.array (.object "java/util/HashMap$Node")), accessFlags := 128, slot := 2, constantValue := 0 }, { name := "entrySet", type := (.object "java/util/Set"), accessFlags := 128, slot := 3, constantValue := 0 }, { name := "size", type := .int, accessFlags := 128, slot := 4, constantValue := 0 }, { name := "modCount", type := .int, accessFlags := 128, slot := 5, constantValue := 0 }, { name := "threshold", type := .int, accessFlags := 0, slot := 6, constantValue := 0 }, { name := "loadFactor", type := .float, accessFlags := 16, slot := 7, constantValue := 0 }]
  methods := #[k7m0]
  instanceTypes := #[(.object "java/util/Set"), (.object "java/util/Collection"), (.array (.object "java/util/HashMap$Node")), (.object "java/util/Set"), .int, .int, .int, .float]
  staticTypes := #[.long, .int, .int, .float, .int, .int, .int]
  resolved := Array.replicate 629 none
  statics := none }

def pool8 : Array CpInfo := pool [(2, .class_ 4), (1, u "com/example/cistern/cistern/config/Setting"), (3, .class_ 10), (1, u "java/lang/Object"), (3, u "name"), (0, u "Ljava/lang/String;"), (2, u "reader"), (0, u "Ljava/util/function/Function;"), (2, u "defaultValue"), (0, u "Ljava/lang/Object;"), (2, u "check"), (0, u "Lcom/example/cistern/cistern/config/Setting$Check;"), (2, u "secret"), (0, u "Z"), (2, u "ALL"), (0, u "Ljava/util/List;"), (20, .class_ 58), (1, u "com/example/cistern/cistern/config/Setting$Check"), (32, .methodref 92 93), (0, .class_ 94), (0, .nameAndType 95 96), (0, u "java/lang/String"), (0, u "isBlank"), (0, u "()Z"), (17, u "MAX_SIZE"), (0, u "Lcom/example/cistern/cistern/config/Setting;"), (56, u "USERNAME"), (2, u "PASSWORD"), (14, u "ISOLATION_LEVELS"), (0, u "Ljava/util/Map;"), (120, u "URL"), (8, u "DRIVER_CLASS_NAME"), (9, u "DRIVER_PROPERTIES"), (5, u "POOL_NAME"), (12, u "MIN_IDLE"), (4, u "INITIAL_SIZE"), (12, u "BORROW_TIMEOUT"), (6, u "IDLE_TIMEOUT"), (6, u "MAX_LIFETIME"), (6, u "VALIDATE_ON_BORROW"), (8, u "LEAK_THRESHOLD"), (8, u "CONNECTION_INIT_SQL"), (4, u "CONNECTION_RESET_SQL"), (4, u "AUTO_COMMIT"), (4, u "READ_ONLY"), (6, u "TRANSACTION_ISOLATION"), (5, u "CATALOG"), (4, u "SCHEMA"), (49, u "(Ljava/lang/String;Lcom/example/cistern/cistern/config/SettingsDraft;)V"), (7, u "notBlank")] 139

def k8c0 : Code := { maxStack := 3, maxLocals := 2, code := prog_7_method_18_code, exceptionTable := #[], attributes := #[] }
def k8m0 : Method := { name := "notBlank", desc := "(Ljava/lang/String;Lcom/example/cistern/cistern/config/SettingsDraft;)V", sig := { parameters := [(.object "java/lang/String"), (.object "com/example/cistern/cistern/config/SettingsDraft")], returnType := none }, accessFlags := 8, code := some k8c0 }
/-- com/example/cistern/cistern/config/Setting -/
def k8 : Class := { plain "com/example/cistern/cistern/config/Setting" (some 0) with
  accessFlags := 49
  interfaces := #[]
  cf := some (fileOf pool8 2 #[.nestMembers #[56]] #[{ accessFlags := 8, nameIndex := 498, descriptorIndex := 490, attributes := #[] }] 49 8 #[] #[{ accessFlags := 25, nameIndex := 312, descriptorIndex := 115, attributes := #[] }, { accessFlags := 25, nameIndex := 172, descriptorIndex := 115, attributes := #[] }, { accessFlags := 25, nameIndex := 175, descriptorIndex := 115, attributes := #[] }, { accessFlags := 25, nameIndex := 321, descriptorIndex := 115, attributes := #[] }, { accessFlags := 25, nameIndex := 331, descriptorIndex := 115, attributes := #[] }, { accessFlags := 25, nameIndex := 337, descriptorIndex := 115, attributes := #[] }, { accessFlags := 25, nameIndex := 114, descriptorIndex := 115, attributes := #[] }, { accessFlags := 25, nameIndex := 350, descriptorIndex := 115, attributes := #[] }, { accessFlags := 25, nameIndex := 355, descriptorIndex := 115, attributes := #[] }, { accessFlags := 25, nameIndex := 368, descriptorIndex := 115, attributes := #[] }, { accessFlags := 25, nameIndex := 375, descriptorIndex := 115, attributes := #[] }, { accessFlags := 25, nameIndex := 382, descriptorIndex := 115, attributes := #[] }, { accessFlags := 25, nameIndex := 389, descriptorIndex := 115, attributes := #[] }, { accessFlags := 25, nameIndex := 398, descriptorIndex := 115, attributes := #[] }, { accessFlags := 25, nameIndex := 407, descriptorIndex := 115, attributes := #[] }, { accessFlags := 25, nameIndex := 412, descriptorIndex := 115, attributes := #[] }, { accessFlags := 25, nameIndex := 417, descriptorIndex := 115, attributes := #[] }, { accessFlags := 25, nameIndex := 422, descriptorIndex := 115, attributes := #[] }, { accessFlags := 25, nameIndex := 429, descriptorIndex := 115, attributes := #[] }, { accessFlags := 25, nameIndex := 435, descriptorIndex := 115, attributes := #[] }, { accessFlags := 25, nameIndex := 440, descriptorIndex := 115, attributes := #[] }, { accessFlags := 26, nameIndex := 190, descriptorIndex := 191, attributes := #[] }, { accessFlags := 26, nameIndex := 34, descriptorIndex := 35, attributes := #[] }, { accessFlags := 18, nameIndex := 14, descriptorIndex := 15, attributes := #[] }, { accessFlags := 18, nameIndex := 18, descriptorIndex := 19, attributes := #[] }, { accessFlags := 18, nameIndex := 22, descriptorIndex := 23, attributes := #[] }, { accessFlags := 18, nameIndex := 26, descriptorIndex := 27, attributes := #[] }, { accessFlags := 18, nameIndex := 30, descriptorIndex := 31, attributes := #[] }])
  fields := #[{ name := "URL", type := (.object "com/example/cistern/cistern/config/Setting"), accessFlags := 25, slot := 0, constantValue := 0 }, { name := "USERNAME", type := (.object "com/example/cistern/cistern/config/Setting"), accessFlags := 25, slot := 1, constantValue := 0 }, { name := "PASSWORD", type := (.object "com/example/cistern/cistern/config/Setting"), accessFlags := 25, slot := 2, constantValue := 0 }, { name := "DRIVER_CLASS_NAME", type := (.object "com/example/cistern/cistern/config/Setting"), accessFlags := 25, slot := 3, constantValue := 0 }, { name := "DRIVER_PROPERTIES", type := (.object "com/example/cistern/cistern/config/Setting"), accessFlags := 25, slot := 4, constantValue := 0 }, { name := "POOL_NAME", type := (.object "com/example/cistern/cistern/config/Setting"), accessFlags := 25, slot := 5, constantValue := 0 }, { name := "MAX_SIZE", type := (.object "com/example/cistern/cistern/config/Setting"), accessFlags := 25, slot := 6, constantValue := 0 }, { name := "MIN_IDLE", type := (.object "com/example/cistern/cistern/config/Setting"), accessFlags := 25, slot := 7, constantValue := 0 }, { name := "INITIAL_SIZE", type := (.object "com/example/cistern/cistern/config/Setting"), accessFlags := 25, slot := 8, constantValue := 0 }, { name := "BORROW_TIMEOUT", type := (.object "com/example/cistern/cistern/config/Setting"), accessFlags := 25, slot := 9, constantValue := 0 }, { name := "IDLE_TIMEOUT", type := (.object "com/example/cistern/cistern/config/Setting"), accessFlags := 25, slot := 10, constantValue := 0 }, { name := "MAX_LIFETIME", type := (.object "com/example/cistern/cistern/config/Setting"), accessFlags := 25, slot := 11, constantValue := 0 }, { name := "VALIDATE_ON_BORROW", type := (.object "com/example/cistern/cistern/config/Setting"), accessFlags := 25, slot := 12, constantValue := 0 }, { name := "LEAK_THRESHOLD", type := (.object "com/example/cistern/cistern/config/Setting"), accessFlags := 25, slot := 13, constantValue := 0 }, { name := "CONNECTION_INIT_SQL", type := (.object "com/example/cistern/cistern/config/Setting"), accessFlags := 25, slot := 14, constantValue := 0 }, { name := "CONNECTION_RESET_SQL", type := (.object "com/example/cistern/cistern/config/Setting"), accessFlags := 25, slot := 15, constantValue := 0 }, { name := "AUTO_COMMIT", type := (.object "com/example/cistern/cistern/config/Setting"), accessFlags := 25, slot := 16, constantValue := 0 }, { name := "READ_ONLY", type := (.object "com/example/cistern/cistern/config/Setting"), accessFlags := 25, slot := 17, constantValue := 0 }, { name := "TRANSACTION_ISOLATION", type := (.object "com/example/cistern/cistern/config/Setting"), accessFlags := 25, slot := 18, constantValue := 0 }, { name := "CATALOG", type := (.object "com/example/cistern/cistern/config/Setting"), accessFlags := 25, slot := 19, constantValue := 0 }, { name := "SCHEMA", type := (.object "com/example/cistern/cistern/config/Setting"), accessFlags := 25, slot := 20, constantValue := 0 }, { name := "ISOLATION_LEVELS", type := (.object "java/util/Map"), accessFlags := 26, slot := 21, constantValue := 0 }, { name := "ALL", type := (.object "java/util/List"), accessFlags := 26, slot := 22, constantValue := 0 }, { name := "name", type := (.object "java/lang/String"), accessFlags := 18, slot := 0, constantValue := 0 }, { name := "reader", type := (.object "java/util/function/Function"), accessFlags := 18, slot := 1, constantValue := 0 }, { name := "defaultValue", type := (.object "java/lang/Object"), accessFlags := 18, slot := 2, constantValue := 0 }, { name := "check", type := (.object "com/example/cistern/cistern/config/Setting$Check"), accessFlags := 18, slot := 3, constantValue := 0 }, { name := "secret", type := .boolean, accessFlags := 18, slot := 4, constantValue := 0 }]
  methods := #[k8m0]
  instanceTypes := #[(.object "java/lang/String"), (.object "java/util/function/Function"), (.object "java/lang/Object"), (.object "com/example/cistern/cistern/config/Setting$Check"), .boolean]
  staticTypes := #[(.object "com/example/cistern/cistern/config/Setting"), (.object "com/example/cistern/cistern/config/Setting"), (.object "com/example/cistern/cistern/config/Setting"), (.object "com/example/cistern/cistern/config/Setting"), (.object "com/example/cistern/cistern/config/Setting"), (.object "com/example/cistern/cistern/config/Setting"), (.object "com/example/cistern/cistern/config/Setting"), (.object "com/example/cistern/cistern/config/Setting"), (.object "com/example/cistern/cistern/config/Setting"), (.object "com/example/cistern/cistern/config/Setting"), (.object "com/example/cistern/cistern/config/Setting"), (.object "com/example/cistern/cistern/config/Setting"), (.object "com/example/cistern/cistern/config/Setting"), (.object "com/example/cistern/cistern/config/Setting"), (.object "com/example/cistern/cistern/config/Setting"), (.object "com/example/cistern/cistern/config/Setting"), (.object "com/example/cistern/cistern/config/Setting"), (.object "com/example/cistern/cistern/config/Setting"), (.object "com/example/cistern/cistern/config/Setting"), (.object "com/example/cistern/cistern/config/Setting"), (.object "com/example/cistern/cistern/config/Setting"), (.object "java/util/Map"), (.object "java/util/List")]
  resolved := Array.replicate 638 none
  statics := none }

def pool9 : Array CpInfo := pool [(1, .class_ 2), (0, u "java/lang/Comparable"), (0, .class_ 4), (0, u "java/lang/Object")] 7

/-- java/lang/Comparable -/
def k9 : Class := { plain "java/lang/Comparable" (some 0) with
  accessFlags := 1537
  interfaces := #[]
  cf := some (fileOf pool9 1 #[] #[] 1537 3 #[] #[])
  fields := #[]
  methods := #[]
  instanceTypes := #[]
  staticTypes := #[]
  resolved := Array.replicate 12 none
  statics := none }

def pool10 : Array CpInfo := pool [(2, .class_ 4), (1, u "java/lang/CharSequence"), (42, .class_ 48), (0, u "java/lang/CharSequence$1CodePointIterator"), (10, .class_ 60), (0, u "java/lang/CharSequence$1CharIterator"), (5, .class_ 67), (0, u "java/lang/Object")] 63

/-- java/lang/CharSequence -/
def k10 : Class := { plain "java/lang/CharSequence" (some 0) with
  accessFlags := 1537
  interfaces := #[]
  cf := some (fileOf pool10 2 #[.nestMembers #[47, 59]] #[] 1537 66 #[] #[])
  fields := #[]
  methods := #[]
  instanceTypes := #[]
  staticTypes := #[]
  resolved := Array.replicate 131 none
  statics := none }

def pool11 : Array CpInfo := pool [(1, .class_ 2), (0, u "java/lang/constant/Constable"), (0, .class_ 4), (0, u "java/lang/Object")] 6

/-- java/lang/constant/Constable -/
def k11 : Class := { plain "java/lang/constant/Constable" (some 0) with
  accessFlags := 1537
  interfaces := #[]
  cf := some (fileOf pool11 1 #[] #[] 1537 3 #[] #[])
  fields := #[]
  methods := #[]
  instanceTypes := #[]
  staticTypes := #[]
  resolved := Array.replicate 11 none
  statics := none }

def pool12 : Array CpInfo := pool [(1, .class_ 2), (0, u "java/lang/constant/ConstantDesc"), (0, .class_ 4), (0, u "java/lang/Object")] 32

/-- java/lang/constant/ConstantDesc -/
def k12 : Class := { plain "java/lang/constant/ConstantDesc" (some 0) with
  accessFlags := 1537
  interfaces := #[]
  cf := some (fileOf pool12 1 #[] #[] 1537 3 #[] #[])
  fields := #[]
  methods := #[]
  instanceTypes := #[]
  staticTypes := #[]
  resolved := Array.replicate 37 none
  statics := none }

def pool13 : Array CpInfo := pool [(1, .methodref 2 3), (0, .class_ 4), (0, .nameAndType 5 6), (0, u "java/lang/Object"), (0, u "<init>"), (0, u "()V"), (2, .fieldref 10 11), (0, .class_ 12), (0, .nameAndType 13 14), (0, u "java/lang/String"), (0, u "value"), (0, u "[B"), (0, .fieldref 10 16), (0, .nameAndType 17 18), (0, u "coder"), (0, u "B"), (2, u "hash"), (0, u "I"), (2, u "hashIsZero"), (0, u "Z"), (0, .methodref 10 28), (0, .nameAndType 5 29), (0, u "([CIILjava/lang/Void;)V"), (8, .fieldref 10 39), (0, .nameAndType 40 26), (0, u "COMPACT_STRINGS"), (1, .class_ 44), (1, u "java/lang/StringUTF16"), (0, u "compress"), (1, .methodref 42 48), (0, .nameAndType 49 50), (0, u "coderFromArrayLen"), (0, u "([BI)B"), (56, .class_ 109), (1, u "java/lang/StringLatin1"), (32, u "()Z"), (34, .methodref 42 178), (0, .nameAndType 45 179), (0, u "([CII)[B"), (154, u "()I"), (0, .methodref 10 336), (0, .nameAndType 17 337), (0, u "()B"), (154, .methodref 10 493), (0, .nameAndType 494 142), (0, u "isLatin1"), (10, .methodref 10 506), (0, .nameAndType 507 334), (0, u "length"), (67, .class_ 576), (0, u "java/lang/CharSequence"), (22, u "CASE_INSENSITIVE_ORDER"), (0, u "Ljava/util/Comparator;"), (30, u "([B)I"), (244, .methodref 10 877), (0, .nameAndType 878 334), (0, u "indexOfNonWhitespace"), (45, .methodref 107 925), (0, .nameAndType 878 631), (26, u "isBlank"), (57, u "([C)V"), (90, u "serialPersistentFields"), (0, u "[Ljava/io/ObjectStreamField;"), (0, .class_ 1104), (0, u "java/lang/String$CaseInsensitiveComparator"), (1, .class_ 1107), (0, u "java/io/Serializable"), (0, .class_ 1109), (0, u "java/lang/Comparable"), (0, .class_ 1111), (0, u "java/lang/constant/Constable"), (0, .class_ 1113), (0, u "java/lang/constant/ConstantDesc"), (2, u "serialVersionUID"), (0, u "J"), (3, u "REPL"), (0, u "C"), (2, u "LATIN1"), (1, u "UTF16")] 323

def k13m0 : Method := { name := "<init>", desc := "()V", sig := { parameters := [], returnType := none }, accessFlags := 1, code := none }
def k13c1 : Code := { maxStack := 5, maxLocals := 2, code := jdk_42_method_3_code, exceptionTable := #[], attributes := #[] }
def k13m1 : Method := { name := "<init>", desc := "([C)V", sig := { parameters := [(.array .char)], returnType := none }, accessFlags := 1, code := some k13c1 }
def k13c2 : Code := { maxStack := 2, maxLocals := 1, code := jdk_42_method_54_code, exceptionTable := #[], attributes := #[] }
def k13m2 : Method := { name := "length", desc := "()I", sig := { parameters := [], returnType := some .int }, accessFlags := 1, code := some k13c2 }
def k13c3 : Code := { maxStack := 2, maxLocals := 1, code := jdk_42_method_117_code, exceptionTable := #[], attributes := #[] }
def k13m3 : Method := { name := "isBlank", desc := "()Z", sig := { parameters := [], returnType := some .boolean }, accessFlags := 1, code := some k13c3 }
def k13c4 : Code := { maxStack := 1, maxLocals := 1, code := jdk_42_method_120_code, exceptionTable := #[], attributes := #[] }
def k13m4 : Method := { name := "indexOfNonWhitespace", desc := "()I", sig := { parameters := [], returnType := some .int }, accessFlags := 2, code := some k13c4 }
def k13c5 : Code := { maxStack := 4, maxLocals := 6, code := jdk_42_method_149_code, exceptionTable := #[], attributes := #[] }
def k13m5 : Method := { name := "<init>", desc := "([CIILjava/lang/Void;)V", sig := { parameters := [(.array .char), .int, .int, (.object "java/lang/Void")], returnType := none }, accessFlags := 2, code := some k13c5 }
def k13c6 : Code := { maxStack := 1, maxLocals := 1, code := jdk_42_method_152_code, exceptionTable := #[], attributes := #[] }
def k13m6 : Method := { name := "coder", desc := "()B", sig := { parameters := [], returnType := some .byte }, accessFlags := 0, code := some k13c6 }
def k13c7 : Code := { maxStack := 1, maxLocals := 1, code := jdk_42_method_154_code, exceptionTable := #[], attributes := #[] }
def k13m7 : Method := { name := "isLatin1", desc := "()Z", sig := { parameters := [], returnType := some .boolean }, accessFlags := 0, code := some k13c7 }
/-- java/lang/String -/
def k13 : Class := { plain "java/lang/String" (some 0) with
  accessFlags := 49
  interfaces := #[6, 9, 10, 11, 12]
  cf := some (fileOf pool13 10 #[.nestMembers #[1103]] #[{ accessFlags := 1, nameIndex := 5, descriptorIndex := 6, attributes := #[] }, { accessFlags := 1, nameIndex := 5, descriptorIndex := 1010, attributes := #[] }, { accessFlags := 1, nameIndex := 507, descriptorIndex := 334, attributes := #[] }, { accessFlags := 1, nameIndex := 952, descriptorIndex := 142, attributes := #[] }, { accessFlags := 2, nameIndex := 878, descriptorIndex := 334, attributes := #[] }, { accessFlags := 2, nameIndex := 5, descriptorIndex := 29, attributes := #[] }, { accessFlags := 0, nameIndex := 17, descriptorIndex := 337, attributes := #[] }, { accessFlags := 0, nameIndex := 494, descriptorIndex := 142, attributes := #[] }] 49 2 #[1106, 1108, 575, 1110, 1112] #[{ accessFlags := 18, nameIndex := 13, descriptorIndex := 14, attributes := #[] }, { accessFlags := 18, nameIndex := 17, descriptorIndex := 18, attributes := #[] }, { accessFlags := 2, nameIndex := 21, descriptorIndex := 22, attributes := #[] }, { accessFlags := 2, nameIndex := 25, descriptorIndex := 26, attributes := #[] }, { accessFlags := 26, nameIndex := 1116, descriptorIndex := 1117, attributes := #[] }, { accessFlags := 24, nameIndex := 40, descriptorIndex := 26, attributes := #[] }, { accessFlags := 26, nameIndex := 1101, descriptorIndex := 1102, attributes := #[] }, { accessFlags := 26, nameIndex := 1121, descriptorIndex := 1122, attributes := #[] }, { accessFlags := 25, nameIndex := 599, descriptorIndex := 600, attributes := #[] }, { accessFlags := 24, nameIndex := 1125, descriptorIndex := 18, attributes := #[] }, { accessFlags := 24, nameIndex := 1127, descriptorIndex := 18, attributes := #[] }])
  fields := #[{ name := "value", type := (.array .byte), accessFlags := 18, slot := 0, constantValue := 0 }, { name := "coder", type := .byte, accessFlags := 18, slot := 1, constantValue := 0 }, { name := "hash", type := .int, accessFlags := 2, slot := 2, constantValue := 0 }, { name := "hashIsZero", type := .boolean, accessFlags := 2, slot := 3, constantValue := 0 }, { name := "serialVersionUID", type := .long, accessFlags := 26, slot := 0, constantValue := 0 }, { name := "COMPACT_STRINGS", type := .boolean, accessFlags := 24, slot := 1, constantValue := 0 }, { name := "serialPersistentFields", type := (.array (.object "java/io/ObjectStreamField")), accessFlags := 26, slot := 2, constantValue := 0 }, { name := "REPL", type := .char, accessFlags := 26, slot := 3, constantValue := 0 }, { name := "CASE_INSENSITIVE_ORDER", type := (.object "java/util/Comparator"), accessFlags := 25, slot := 4, constantValue := 0 }, { name := "LATIN1", type := .byte, accessFlags := 24, slot := 5, constantValue := 0 }, { name := "UTF16", type := .byte, accessFlags := 24, slot := 6, constantValue := 0 }]
  methods := #[k13m0, k13m1, k13m2, k13m3, k13m4, k13m5, k13m6, k13m7]
  instanceTypes := #[(.array .byte), .byte, .int, .boolean]
  staticTypes := #[.long, .boolean, (.array (.object "java/io/ObjectStreamField")), .char, (.object "java/util/Comparator"), .byte, .byte]
  resolved := Array.replicate 1451 none
  statics := some 0 }

def pool14 : Array CpInfo := pool [(6, .class_ 8), (1, u "java/lang/Object"), (0, u "<init>"), (0, u "()V"), (1, .class_ 14), (1, u "java/lang/StringUTF16"), (31, u "$assertionsDisabled"), (0, u "Z"), (13, u "HI_BYTE_SHIFT"), (0, u "I"), (2, u "LO_BYTE_SHIFT"), (49, .methodref 12 116), (0, .nameAndType 117 118), (0, u "compress"), (0, u "([CI[BII)I"), (3, u "([CII)[B"), (138, u "coderFromArrayLen"), (0, u "([BI)B"), (106, .class_ 371), (1, u "java/lang/StringUTF16$LinesSpliterator"), (58, u "MAX_LENGTH"), (196, .class_ 628), (0, u "java/lang/StringUTF16$CodePointsSpliterator"), (0, .class_ 630), (0, u "java/lang/StringUTF16$CharsSpliterator")] 4

def k14m0 : Method := { name := "<init>", desc := "()V", sig := { parameters := [], returnType := none }, accessFlags := 0, code := none }
def k14c1 : Code := { maxStack := 2, maxLocals := 2, code := jdk_52_method_15_code, exceptionTable := #[], attributes := #[] }
def k14m1 : Method := { name := "coderFromArrayLen", desc := "([BI)B", sig := { parameters := [(.array .byte), .int], returnType := some .byte }, accessFlags := 8, code := some k14c1 }
def k14c2 : Code := { maxStack := 5, maxLocals := 6, code := jdk_52_method_16_code, exceptionTable := #[], attributes := #[] }
def k14m2 : Method := { name := "compress", desc := "([CII)[B", sig := { parameters := [(.array .char), .int, .int], returnType := some (.array .byte) }, accessFlags := 9, code := some k14c2 }
def k14c3 : Code := { maxStack := 3, maxLocals := 7, code := jdk_52_method_21_code, exceptionTable := #[], attributes := #[] }
def k14m3 : Method := { name := "compress", desc := "([CI[BII)I", sig := { parameters := [(.array .char), .int, (.array .byte), .int, .int], returnType := some .int }, accessFlags := 9, code := some k14c3 }
/-- java/lang/StringUTF16 -/
def k14 : Class := { plain "java/lang/StringUTF16" (some 0) with
  accessFlags := 48
  interfaces := #[]
  cf := some (fileOf pool14 12 #[.nestMembers #[627, 629, 369]] #[{ accessFlags := 0, nameIndex := 9, descriptorIndex := 10, attributes := #[] }, { accessFlags := 8, nameIndex := 261, descriptorIndex := 262, attributes := #[] }, { accessFlags := 9, nameIndex := 117, descriptorIndex := 122, attributes := #[] }, { accessFlags := 9, nameIndex := 117, descriptorIndex := 118, attributes := #[] }] 48 6 #[] #[{ accessFlags := 26, nameIndex := 61, descriptorIndex := 62, attributes := #[] }, { accessFlags := 26, nameIndex := 65, descriptorIndex := 62, attributes := #[] }, { accessFlags := 24, nameIndex := 430, descriptorIndex := 62, attributes := #[] }, { accessFlags := 4120, nameIndex := 46, descriptorIndex := 47, attributes := #[] }])
  fields := #[{ name := "HI_BYTE_SHIFT", type := .int, accessFlags := 26, slot := 0, constantValue := 0 }, { name := "LO_BYTE_SHIFT", type := .int, accessFlags := 26, slot := 1, constantValue := 0 }, { name := "MAX_LENGTH", type := .int, accessFlags := 24, slot := 2, constantValue := 0 }, { name := "$assertionsDisabled", type := .boolean, accessFlags := 4120, slot := 3, constantValue := 0 }]
  methods := #[k14m0, k14m1, k14m2, k14m3]
  instanceTypes := #[]
  staticTypes := #[.int, .int, .int, .boolean]
  resolved := Array.replicate 635 none
  statics := none }

def pool15 : Array CpInfo := pool [(4, .class_ 6), (1, u "java/lang/Object"), (0, u "<init>"), (0, u "()V"), (5, .class_ 16), (1, u "java/lang/StringLatin1"), (33, .methodref 14 51), (0, .nameAndType 52 53), (0, u "getChar"), (0, u "([BI)C"), (3, u "([B)I"), (8, .fieldref 67 68), (0, .class_ 69), (0, .nameAndType 70 71), (0, u "java/lang/CharacterDataLatin1"), (0, u "instance"), (0, u "Ljava/lang/CharacterDataLatin1;"), (19, u "(I)Z"), (29, u "$assertionsDisabled"), (0, u "Z"), (88, .methodref 67 212), (0, .nameAndType 213 91), (0, u "isWhitespace"), (2, u "indexOfNonWhitespace"), (4, .class_ 223), (1, u "java/lang/StringLatin1$LinesSpliterator"), (166, .class_ 391), (0, u "java/lang/StringLatin1$CharsSpliterator")] 3

def k15m0 : Method := { name := "<init>", desc := "()V", sig := { parameters := [], returnType := none }, accessFlags := 0, code := none }
def k15c1 : Code := { maxStack := 2, maxLocals := 4, code := jdk_43_method_37_code, exceptionTable := #[], attributes := #[] }
def k15m1 : Method := { name := "indexOfNonWhitespace", desc := "([B)I", sig := { parameters := [(.array .byte)], returnType := some .int }, accessFlags := 9, code := some k15c1 }
def k15c2 : Code := { maxStack := 2, maxLocals := 2, code := jdk_43_method_44_code, exceptionTable := #[], attributes := #[] }
def k15m2 : Method := { name := "getChar", desc := "([BI)C", sig := { parameters := [(.array .byte), .int], returnType := some .char }, accessFlags := 9, code := some k15c2 }
/-- java/lang/StringLatin1 -/
def k15 : Class := { plain "java/lang/StringLatin1" (some 0) with
  accessFlags := 48
  interfaces := #[]
  cf := some (fileOf pool15 14 #[.nestMembers #[390, 221]] #[{ accessFlags := 0, nameIndex := 7, descriptorIndex := 8, attributes := #[] }, { accessFlags := 9, nameIndex := 216, descriptorIndex := 57, attributes := #[] }, { accessFlags := 9, nameIndex := 52, descriptorIndex := 53, attributes := #[] }] 48 4 #[] #[{ accessFlags := 4120, nameIndex := 121, descriptorIndex := 122, attributes := #[] }])
  fields := #[{ name := "$assertionsDisabled", type := .boolean, accessFlags := 4120, slot := 0, constantValue := 0 }]
  methods := #[k15m0, k15m1, k15m2]
  instanceTypes := #[]
  staticTypes := #[.boolean]
  resolved := Array.replicate 395 none
  statics := none }

def pool16 : Array CpInfo := pool [(2, .class_ 4), (1, u "java/lang/Object"), (0, u "<init>"), (0, u "()V"), (1, .class_ 10), (1, u "java/lang/CharacterData")] 75

def k16m0 : Method := { name := "<init>", desc := "()V", sig := { parameters := [], returnType := none }, accessFlags := 0, code := none }
/-- java/lang/CharacterData -/
def k16 : Class := { plain "java/lang/CharacterData" (some 0) with
  accessFlags := 1056
  interfaces := #[]
  cf := some (fileOf pool16 8 #[] #[{ accessFlags := 0, nameIndex := 5, descriptorIndex := 6, attributes := #[] }] 1056 2 #[] #[])
  fields := #[]
  methods := #[k16m0]
  instanceTypes := #[]
  staticTypes := #[]
  resolved := Array.replicate 86 none
  statics := none }

def pool17 : Array CpInfo := pool [(1, .fieldref 2 3), (0, .class_ 4), (0, .nameAndType 5 6), (0, u "java/lang/CharacterDataLatin1"), (0, u "A"), (0, u "[I"), (2, u "B"), (0, u "[C"), (3, u "(I)I"), (0, .methodref 2 16), (0, .nameAndType 17 14), (0, u "getProperties"), (3, u "(I)Z"), (5, u "DIGITS"), (0, u "[B"), (8, u "sharpsMap"), (1, .class_ 41), (1, u "java/lang/CharacterData"), (0, u "<init>"), (0, u "()V"), (3, u "instance"), (0, u "Ljava/lang/CharacterDataLatin1;"), (78, u "isWhitespace")] 13

def k17c0 : Code := { maxStack := 2, maxLocals := 4, code := jdk_116_method_1_code, exceptionTable := #[], attributes := #[] }
def k17m0 : Method := { name := "getProperties", desc := "(I)I", sig := { parameters := [.int], returnType := some .int }, accessFlags := 0, code := some k17c0 }
def k17c1 : Code := { maxStack := 2, maxLocals := 3, code := jdk_116_method_26_code, exceptionTable := #[], attributes := #[] }
def k17m1 : Method := { name := "isWhitespace", desc := "(I)Z", sig := { parameters := [.int], returnType := some .boolean }, accessFlags := 0, code := some k17c1 }
def k17m2 : Method := { name := "<init>", desc := "()V", sig := { parameters := [], returnType := none }, accessFlags := 2, code := none }
/-- java/lang/CharacterDataLatin1 -/
def k17 : Class := { plain "java/lang/CharacterDataLatin1" (some 16) with
  accessFlags := 32
  interfaces := #[]
  cf := some (fileOf pool17 2 #[] #[{ accessFlags := 0, nameIndex := 17, descriptorIndex := 14, attributes := #[] }, { accessFlags := 0, nameIndex := 127, descriptorIndex := 21, attributes := #[] }, { accessFlags := 2, nameIndex := 42, descriptorIndex := 43, attributes := #[] }] 32 39 #[] #[{ accessFlags := 26, nameIndex := 27, descriptorIndex := 28, attributes := #[] }, { accessFlags := 8, nameIndex := 37, descriptorIndex := 10, attributes := #[] }, { accessFlags := 24, nameIndex := 47, descriptorIndex := 48, attributes := #[] }, { accessFlags := 24, nameIndex := 5, descriptorIndex := 6, attributes := #[] }, { accessFlags := 24, nameIndex := 9, descriptorIndex := 10, attributes := #[] }])
  fields := #[{ name := "DIGITS", type := (.array .byte), accessFlags := 26, slot := 0, constantValue := 0 }, { name := "sharpsMap", type := (.array .char), accessFlags := 8, slot := 1, constantValue := 0 }, { name := "instance", type := (.object "java/lang/CharacterDataLatin1"), accessFlags := 24, slot := 2, constantValue := 0 }, { name := "A", type := (.array .int), accessFlags := 24, slot := 3, constantValue := 0 }, { name := "B", type := (.array .char), accessFlags := 24, slot := 4, constantValue := 0 }]
  methods := #[k17m0, k17m1, k17m2]
  instanceTypes := #[]
  staticTypes := #[(.array .byte), (.array .char), (.object "java/lang/CharacterDataLatin1"), (.array .int), (.array .char)]
  resolved := Array.replicate 141 none
  statics := some 1 }

def pool18 : Array CpInfo := pool [(2, .class_ 4), (1, u "java/lang/Object"), (0, u "<init>"), (0, u "()V"), (17, .class_ 26), (1, u "jdk/internal/util/Preconditions"), (28, .class_ 56), (0, u "jdk/internal/util/Preconditions$4"), (57, .class_ 115), (0, u "jdk/internal/util/Preconditions$1"), (7, u "SIOOBE_FORMATTER"), (0, u "Ljava/util/function/BiFunction;"), (0, .class_ 126), (0, u "jdk/internal/util/Preconditions$2"), (3, u "AIOOBE_FORMATTER"), (0, .class_ 132), (0, u "jdk/internal/util/Preconditions$3"), (3, u "IOOBE_FORMATTER")] 57

def k18m0 : Method := { name := "<init>", desc := "()V", sig := { parameters := [], returnType := none }, accessFlags := 1, code := none }
/-- jdk/internal/util/Preconditions -/
def k18 : Class := { plain "jdk/internal/util/Preconditions" (some 0) with
  accessFlags := 33
  interfaces := #[]
  cf := some (fileOf pool18 24 #[.nestMembers #[55, 131, 125, 114]] #[{ accessFlags := 1, nameIndex := 5, descriptorIndex := 6, attributes := #[] }] 33 2 #[] #[{ accessFlags := 25, nameIndex := 123, descriptorIndex := 124, attributes := #[] }, { accessFlags := 25, nameIndex := 130, descriptorIndex := 124, attributes := #[] }, { accessFlags := 25, nameIndex := 136, descriptorIndex := 124, attributes := #[] }])
  fields := #[{ name := "SIOOBE_FORMATTER", type := (.object "java/util/function/BiFunction"), accessFlags := 25, slot := 0, constantValue := 0 }, { name := "AIOOBE_FORMATTER", type := (.object "java/util/function/BiFunction"), accessFlags := 25, slot := 1, constantValue := 0 }, { name := "IOOBE_FORMATTER", type := (.object "java/util/function/BiFunction"), accessFlags := 25, slot := 2, constantValue := 0 }]
  methods := #[k18m0]
  instanceTypes := #[]
  staticTypes := #[(.object "java/util/function/BiFunction"), (.object "java/util/function/BiFunction"), (.object "java/util/function/BiFunction")]
  resolved := Array.replicate 194 none
  statics := some 2 }

/-- the primitive byte -/
def k19 : Class := { plain "byte" none with kind := .primitive 'B', accessFlags := 0x411 }
/-- [B -/
def k20 : Class := { plain "[B" (some 0) with kind := .array 19 .byte, interfaces := #[5, 6], accessFlags := 1041 }

/-- the primitive char -/
def k21 : Class := { plain "char" none with kind := .primitive 'C', accessFlags := 0x411 }
/-- [C -/
def k22 : Class := { plain "[C" (some 0) with kind := .array 21 .char, interfaces := #[5, 6], accessFlags := 1041 }

/-- the primitive int -/
def k23 : Class := { plain "int" none with kind := .primitive 'I', accessFlags := 0x411 }
/-- [I -/
def k24 : Class := { plain "[I" (some 0) with kind := .array 23 .int, interfaces := #[5, 6], accessFlags := 1041 }

/-- jdk/internal/util/ArraysSupport -/
def k25 : Class := { plain "jdk/internal/util/ArraysSupport" (some 0) with accessFlags := 33 }

def heap : Heap := #[{ cls := 13, slots := #[.long 0, .int 1, .null, .int 0, .null, .int 0, .int 0], vm := .statics 13 },
  { cls := 17, slots := #[.null, .null, .ref 3, .ref 4, .null], vm := .statics 17 },
  { cls := 18, slots := #[.null, .null, .null], vm := .statics 18 },
  { cls := 17, slots := #[], vm := .none },
  { cls := 24, slots := #[.int 1207963663, .int 1207963663, .int 1207963663, .int 1207963663, .int 1207963663, .int 1207963663, .int 1207963663, .int 1207963663, .int 1207963663, .int 1476411407, .int 1342193679, .int 1476411407, .int 1610629135, .int 1342193679, .int 1207963663, .int 1207963663, .int 1207963663, .int 1207963663, .int 1207963663, .int 1207963663, .int 1207963663, .int 1207963663, .int 1207963663, .int 1207963663, .int 1207963663, .int 1207963663, .int 1207963663, .int 1207963663, .int 1342193679, .int 1342193679, .int 1342193679, .int 1476411407, .int 1610629132, .int 1744830488, .int 1744830488, .int 671088664, .int 671113242, .int 671088664, .int 1744830488, .int 1744830488, .int (-402653163), .int (-402653162), .int 1744830488, .int 536870937, .int 939524120, .int 536870932, .int 939524120, .int 939524120, .int 402667017, .int 402667017, .int 402667017, .int 402667017, .int 402667017, .int 402667017, .int 402667017, .int 402667017, .int 402667017, .int 402667017, .int 939524120, .int 1744830488, .int (-402653159), .int 1744830489, .int (-402653159), .int 1744830488, .int 1744830488, .int 8552417, .int 8552417, .int 8552417, .int 8552417, .int 8552417, .int 8552417, .int 8552417, .int 8552417, .int 8552417, .int 8552417, .int 8552417, .int 8552417, .int 8552417, .int 8552417, .int 8552417, .int 8552417, .int 8552417, .int 8552417, .int 8552417, .int 8552417, .int 8552417, .int 8552417, .int 8552417, .int 8552417, .int 8552417, .int 8552417, .int (-402653163), .int 1744830488, .int (-402653162), .int 1744830491, .int 1744850967, .int 1744830491, .int 8486882, .int 8486882, .int 8486882, .int 8486882, .int 8486882, .int 8486882, .int 8486882, .int 8486882, .int 8486882, .int 8486882, .int 8486882, .int 8486882, .int 8486882, .int 8486882, .int 8486882, .int 8486882, .int 8486882, .int 8486882, .int 8486882, .int 8486882, .int 8486882, .int 8486882, .int 8486882, .int 8486882, .int 8486882, .int 8486882, .int (-402653163), .int 1744830489, .int (-402653162), .int 1744830489, .int 1207963663, .int 1207963663, .int 1207963663, .int 1207963663, .int 1207963663, .int 1207963663, .int 1342181391, .int 1207963663, .int 1207963663, .int 1207963663, .int 1207963663, .int 1207963663, .int 1207963663, .int 1207963663, .int 1207963663, .int 1207963663, .int 1207963663, .int 1207963663, .int 1207963663, .int 1207963663, .int 1207963663, .int 1207963663, .int 1207963663, .int 1207963663, .int 1207963663, .int 1207963663, .int 1207963663, .int 1207963663, .int 1207963663, .int 1207963663, .int 1207963663, .int 1207963663, .int 1207963663, .int 939524108, .int 1744830488, .int 671113242, .int 671113242, .int 671113242, .int 671113242, .int 1744830492, .int 1744830488, .int 1744830491, .int 1744830492, .int 28677, .int (-402653155), .int 1744830489, .int 1207963664, .int 1744830492, .int 1744830491, .int 671088668, .int 671088665, .int 402654731, .int 402654731, .int 1744830491, .int 134049794, .int 1744830488, .int 1744830488, .int 1744830491, .int 402654475, .int 28677, .int (-402653154), .int 1744832523, .int 1744832523, .int 1744832523, .int 1744830488, .int 8548353, .int 8548353, .int 8548353, .int 8548353, .int 8548353, .int 8548353, .int 8548353, .int 8548353, .int 8548353, .int 8548353, .int 8548353, .int 8548353, .int 8548353, .int 8548353, .int 8548353, .int 8548353, .int 8548353, .int 8548353, .int 8548353, .int 8548353, .int 8548353, .int 8548353, .int 8548353, .int 1744830489, .int 8548353, .int 8548353, .int 8548353, .int 8548353, .int 8548353, .int 8548353, .int 8548353, .int 134049794, .int 8482818, .int 8482818, .int 8482818, .int 8482818, .int 8482818, .int 8482818, .int 8482818, .int 8482818, .int 8482818, .int 8482818, .int 8482818, .int 8482818, .int 8482818, .int 8482818, .int 8482818, .int 8482818, .int 8482818, .int 8482818, .int 8482818, .int 8482818, .int 8482818, .int 8482818, .int 8482818, .int 1744830489, .int 8482818, .int 8482818, .int 8482818, .int 8482818, .int 8482818, .int 8482818, .int 8482818, .int 102592514], vm := .none }]
def classes : Array Class := #[k0, k1, k2, k3, k4, k5, k6, k7, k8, k9, k10, k11, k12, k13, k14, k15, k16, k17, k18, k19, k20, k21, k22, k23, k24, k25]
def interned : List (Array UInt16 × Addr) := []
def slotsUsed : Nat := 271
def theMethod : MethodId := ⟨1, 3⟩
def args0 : Array Value := #[.int 1, .int 65, .int 66, .int 67]
def aboutOver (below : List Frame) : State where
  vm := { classes := classes, interned := interned.toArray }
  heap := heap
  slotsUsed := slotsUsed
  threads := #[{ frames := .invoking theMethod args0 :: below }]
def below0 : List Frame := [.native { method := ⟨0, 0⟩, args := #[] }]
def about1 : State := aboutOver below0
def p0 : Program := .bare "" "" ""
def e0 : Env := launch0.env 0 0 0
theorem w_frames : about1.frames = Frame.invoking theMethod args0 :: below0 := rfl
set_option maxRecDepth 65536 in
theorem w_args : argsFit about1.vm theMethod args0 = true := by decide +kernel
set_option maxRecDepth 65536 in
theorem w_heap : heapFits about1 = true := by decide +kernel
set_option maxRecDepth 65536 in
theorem w_runnable : about1.curStatus? = some .runnable := by decide +kernel
set_option maxRecDepth 65536 in
theorem w_alone : about1.alone = true := by decide +kernel
set_option maxRecDepth 65536 in
theorem w_named : about1.methodNamed? x = some theMethod := by decide +kernel
set_option maxRecDepth 65536 in
theorem w_hears : about1.hears theMethod below0 = true := by decide +kernel
set_option maxRecDepth 65536 in
theorem w_ripe : about1.ripe theMethod args0 below0 = true := by decide +kernel
theorem w_running : about1.status = .running := rfl
set_option maxRecDepth 65536 in
theorem w_room : about1.hasRoom e0.platform room_1 = true :=
  launch0.hasRoom_least _ room_1 (by decide +kernel) (by decide +kernel) (by decide +kernel) (by decide +kernel) (by decide +kernel) (by decide +kernel)
theorem allAtoms_all (ts : List Jvm.Cond) (a : Array Jvm.Value) (st : Jvm.State) : (allAtoms ts).before a st = ts.all (fun c => c.before a st) := by
  induction ts with
  | nil => rfl
  | cons c t ih =>
    show (Jvm.Cond.and c (allAtoms t)).before a st = _
    rw [Jvm.Cond.before_and, ih, List.all_cons]
def words1 : List Jvm.Cond := Jvm.Cond.code x code maxLocals ret :: tables_1
/-- a 'code' word, met by the world's own term for the bytes: nothing is compared byte by byte -/
theorem code_word {y : MethodName} {bytes : ByteArray} {mx : Nat} {rt : Option FieldType} {a : Array Value} {s : State} {m : MethodId} {meth : Method} {c : Code} (h1 : s.methodNamed? y = some m) (h2 : s.vm.method? m = some meth) (h3 : meth.code = some c) (h4 : c.code = bytes)
    (h5 : (c.maxLocals == mx && c.exceptionTable.isEmpty && decide (c.maxStack ≤ mostOperands) && decide (meth.sig.returnType = rt) && !meth.locks && decide (parseMethodDescriptor y.desc = some meth.sig)) = true) : (Jvm.Cond.code y bytes mx rt).before a s = true := by
  simp only [Bool.and_eq_true, beq_iff_eq, Bool.not_eq_true', decide_eq_true_eq] at h5
  obtain ⟨⟨⟨⟨⟨g1, g2⟩, g3⟩, g4⟩, g5⟩, g6⟩ := h5
  simp [Cond.before, Cond.holds, Cond.value, h1, h2, h3, h4, g1, g2, g3, g4, g5, g6]
def isCode : Jvm.Cond → Bool
  | .code _ _ _ _ => true
  | _ => false
theorem all_split {L : List Jvm.Cond} {P : Jvm.Cond → Bool} (h1 : L.all (fun c => isCode c || P c) = true) (h2 : ∀ c ∈ L.filter isCode, P c = true) : L.all P = true := by
  refine List.all_eq_true.mpr fun c hc => ?_
  have h := List.all_eq_true.mp h1 c hc
  rcases Bool.eq_false_or_eq_true (isCode c) with hi | hi
  · exact h2 c (List.mem_filter.mpr ⟨hc, hi⟩)
  · simpa [hi] using h
set_option maxRecDepth 65536 in
theorem w_c0 : (Jvm.Cond.code x code maxLocals ret).before args0 about1 = true := code_word (m := ⟨1, 3⟩) (meth := k1m3) (c := k1c3) (by decide +kernel) rfl rfl rfl (by decide +kernel)
set_option maxRecDepth 65536 in
theorem w_c1 : (Jvm.Cond.code ({ cls := "com/example/cistern/cistern/config/SettingsDraft", name := "<init>", desc := "()V" } : Jvm.MethodName) prog_10_method_1_code (1 : Nat) (Option.none : Option Jvm.ClassFile.FieldType)).before args0 about1 = true := code_word (m := ⟨2, 0⟩) (meth := k2m0) (c := k2c0) (by decide +kernel) rfl rfl rfl (by decide +kernel)
set_option maxRecDepth 65536 in
theorem w_c2 : (Jvm.Cond.code ({ cls := "java/lang/Object", name := "<init>", desc := "()V" } : Jvm.MethodName) object_method_1_code (1 : Nat) (Option.none : Option Jvm.ClassFile.FieldType)).before args0 about1 = true := code_word (m := ⟨0, 0⟩) (meth := k0m0) (c := k0c0) (by decide +kernel) rfl rfl rfl (by decide +kernel)
set_option maxRecDepth 65536 in
theorem w_c3 : (Jvm.Cond.code ({ cls := "java/util/HashMap", name := "<init>", desc := "()V" } : Jvm.MethodName) jdk_69_method_7_code (1 : Nat) (Option.none : Option Jvm.ClassFile.FieldType)).before args0 about1 = true := code_word (m := ⟨7, 0⟩) (meth := k7m0) (c := k7c0) (by decide +kernel) rfl rfl rfl (by decide +kernel)
set_option maxRecDepth 65536 in
theorem w_c4 : (Jvm.Cond.code ({ cls := "java/util/AbstractMap", name := "<init>", desc := "()V" } : Jvm.MethodName) jdk_71_method_1_code (1 : Nat) (Option.none : Option Jvm.ClassFile.FieldType)).before args0 about1 = true := code_word (m := ⟨4, 0⟩) (meth := k4m0) (c := k4c0) (by decide +kernel) rfl rfl rfl (by decide +kernel)
set_option maxRecDepth 65536 in
theorem w_c5 : (Jvm.Cond.code ({ cls := "com/example/cistern/cistern/config/Setting", name := "notBlank", desc := "(Ljava/lang/String;Lcom/example/cistern/cistern/config/SettingsDraft;)V" } : Jvm.MethodName) prog_7_method_18_code (2 : Nat) (Option.none : Option Jvm.ClassFile.FieldType)).before args0 about1 = true := code_word (m := ⟨8, 0⟩) (meth := k8m0) (c := k8c0) (by decide +kernel) rfl rfl rfl (by decide +kernel)
set_option maxRecDepth 65536 in
theorem w_c6 : (Jvm.Cond.code ({ cls := "com/example/cistern/cistern/config/SettingNotBlankPinLaw", name := "ws", desc := "(C)Z" } : Jvm.MethodName) method_2_code (1 : Nat) (Option.some Jvm.ClassFile.FieldType.boolean)).before args0 about1 = true := code_word (m := ⟨1, 1⟩) (meth := k1m1) (c := k1c1) (by decide +kernel) rfl rfl rfl (by decide +kernel)
set_option maxRecDepth 65536 in
theorem w_c7 : (Jvm.Cond.code ({ cls := "com/example/cistern/cistern/config/SettingNotBlankPinLaw", name := "make", desc := "(ICCC)Ljava/lang/String;" } : Jvm.MethodName) method_3_code (5 : Nat) (Option.some (Jvm.ClassFile.FieldType.object "java/lang/String"))).before args0 about1 = true := code_word (m := ⟨1, 2⟩) (meth := k1m2) (c := k1c2) (by decide +kernel) rfl rfl rfl (by decide +kernel)
set_option maxRecDepth 65536 in
theorem w_c8 : (Jvm.Cond.code ({ cls := "java/lang/String", name := "<init>", desc := "([C)V" } : Jvm.MethodName) jdk_42_method_3_code (2 : Nat) (Option.none : Option Jvm.ClassFile.FieldType)).before args0 about1 = true := code_word (m := ⟨13, 1⟩) (meth := k13m1) (c := k13c1) (by decide +kernel) rfl rfl rfl (by decide +kernel)
set_option maxRecDepth 65536 in
theorem w_c9 : (Jvm.Cond.code ({ cls := "java/lang/String", name := "<init>", desc := "([CIILjava/lang/Void;)V" } : Jvm.MethodName) jdk_42_method_149_code (6 : Nat) (Option.none : Option Jvm.ClassFile.FieldType)).before args0 about1 = true := code_word (m := ⟨13, 5⟩) (meth := k13m5) (c := k13c5) (by decide +kernel) rfl rfl rfl (by decide +kernel)
set_option maxRecDepth 65536 in
theorem w_c10 : (Jvm.Cond.code ({ cls := "java/lang/StringUTF16", name := "compress", desc := "([CII)[B" } : Jvm.MethodName) jdk_52_method_16_code (6 : Nat) (Option.some (Jvm.ClassFile.FieldType.array Jvm.ClassFile.FieldType.byte))).before args0 about1 = true := code_word (m := ⟨14, 2⟩) (meth := k14m2) (c := k14c2) (by decide +kernel) rfl rfl rfl (by decide +kernel)
set_option maxRecDepth 65536 in
theorem w_c11 : (Jvm.Cond.code ({ cls := "java/lang/StringUTF16", name := "compress", desc := "([CI[BII)I" } : Jvm.MethodName) jdk_52_method_21_code (7 : Nat) (Option.some Jvm.ClassFile.FieldType.int)).before args0 about1 = true := code_word (m := ⟨14, 3⟩) (meth := k14m3) (c := k14c3) (by decide +kernel) rfl rfl rfl (by decide +kernel)
set_option maxRecDepth 65536 in
theorem w_c12 : (Jvm.Cond.code ({ cls := "java/lang/StringUTF16", name := "coderFromArrayLen", desc := "([BI)B" } : Jvm.MethodName) jdk_52_method_15_code (2 : Nat) (Option.some Jvm.ClassFile.FieldType.byte)).before args0 about1 = true := code_word (m := ⟨14, 1⟩) (meth := k14m1) (c := k14c1) (by decide +kernel) rfl rfl rfl (by decide +kernel)
set_option maxRecDepth 65536 in
theorem w_c13 : (Jvm.Cond.code ({ cls := "java/lang/String", name := "isBlank", desc := "()Z" } : Jvm.MethodName) jdk_42_method_117_code (1 : Nat) (Option.some Jvm.ClassFile.FieldType.boolean)).before args0 about1 = true := code_word (m := ⟨13, 3⟩) (meth := k13m3) (c := k13c3) (by decide +kernel) rfl rfl rfl (by decide +kernel)
set_option maxRecDepth 65536 in
theorem w_c14 : (Jvm.Cond.code ({ cls := "java/lang/String", name := "indexOfNonWhitespace", desc := "()I" } : Jvm.MethodName) jdk_42_method_120_code (1 : Nat) (Option.some Jvm.ClassFile.FieldType.int)).before args0 about1 = true := code_word (m := ⟨13, 4⟩) (meth := k13m4) (c := k13c4) (by decide +kernel) rfl rfl rfl (by decide +kernel)
set_option maxRecDepth 65536 in
theorem w_c15 : (Jvm.Cond.code ({ cls := "java/lang/String", name := "isLatin1", desc := "()Z" } : Jvm.MethodName) jdk_42_method_154_code (1 : Nat) (Option.some Jvm.ClassFile.FieldType.boolean)).before args0 about1 = true := code_word (m := ⟨13, 7⟩) (meth := k13m7) (c := k13c7) (by decide +kernel) rfl rfl rfl (by decide +kernel)
set_option maxRecDepth 65536 in
theorem w_c16 : (Jvm.Cond.code ({ cls := "java/lang/StringLatin1", name := "indexOfNonWhitespace", desc := "([B)I" } : Jvm.MethodName) jdk_43_method_37_code (4 : Nat) (Option.some Jvm.ClassFile.FieldType.int)).before args0 about1 = true := code_word (m := ⟨15, 1⟩) (meth := k15m1) (c := k15c1) (by decide +kernel) rfl rfl rfl (by decide +kernel)
set_option maxRecDepth 65536 in
theorem w_c17 : (Jvm.Cond.code ({ cls := "java/lang/StringLatin1", name := "getChar", desc := "([BI)C" } : Jvm.MethodName) jdk_43_method_44_code (2 : Nat) (Option.some Jvm.ClassFile.FieldType.char)).before args0 about1 = true := code_word (m := ⟨15, 2⟩) (meth := k15m2) (c := k15c2) (by decide +kernel) rfl rfl rfl (by decide +kernel)
set_option maxRecDepth 65536 in
theorem w_c18 : (Jvm.Cond.code ({ cls := "java/lang/CharacterDataLatin1", name := "isWhitespace", desc := "(I)Z" } : Jvm.MethodName) jdk_116_method_26_code (3 : Nat) (Option.some Jvm.ClassFile.FieldType.boolean)).before args0 about1 = true := code_word (m := ⟨17, 1⟩) (meth := k17m1) (c := k17c1) (by decide +kernel) rfl rfl rfl (by decide +kernel)
set_option maxRecDepth 65536 in
theorem w_c19 : (Jvm.Cond.code ({ cls := "java/lang/CharacterDataLatin1", name := "getProperties", desc := "(I)I" } : Jvm.MethodName) jdk_116_method_1_code (4 : Nat) (Option.some Jvm.ClassFile.FieldType.int)).before args0 about1 = true := code_word (m := ⟨17, 0⟩) (meth := k17m0) (c := k17c0) (by decide +kernel) rfl rfl rfl (by decide +kernel)
set_option maxRecDepth 65536 in
theorem w_c20 : (Jvm.Cond.code ({ cls := "java/lang/String", name := "length", desc := "()I" } : Jvm.MethodName) jdk_42_method_54_code (1 : Nat) (Option.some Jvm.ClassFile.FieldType.int)).before args0 about1 = true := code_word (m := ⟨13, 2⟩) (meth := k13m2) (c := k13c2) (by decide +kernel) rfl rfl rfl (by decide +kernel)
set_option maxRecDepth 65536 in
theorem w_c21 : (Jvm.Cond.code ({ cls := "java/lang/String", name := "coder", desc := "()B" } : Jvm.MethodName) jdk_42_method_152_code (1 : Nat) (Option.some Jvm.ClassFile.FieldType.byte)).before args0 about1 = true := code_word (m := ⟨13, 6⟩) (meth := k13m6) (c := k13c6) (by decide +kernel) rfl rfl rfl (by decide +kernel)
def codes1 : List Jvm.Cond := [Jvm.Cond.code x code maxLocals ret, Jvm.Cond.code ({ cls := "com/example/cistern/cistern/config/SettingsDraft", name := "<init>", desc := "()V" } : Jvm.MethodName) prog_10_method_1_code (1 : Nat) (Option.none : Option Jvm.ClassFile.FieldType), Jvm.Cond.code ({ cls := "java/lang/Object", name := "<init>", desc := "()V" } : Jvm.MethodName) object_method_1_code (1 : Nat) (Option.none : Option Jvm.ClassFile.FieldType), Jvm.Cond.code ({ cls := "java/util/HashMap", name := "<init>", desc := "()V" } : Jvm.MethodName) jdk_69_method_7_code (1 : Nat) (Option.none : Option Jvm.ClassFile.FieldType), Jvm.Cond.code ({ cls := "java/util/AbstractMap", name := "<init>", desc := "()V" } : Jvm.MethodName) jdk_71_method_1_code (1 : Nat) (Option.none : Option Jvm.ClassFile.FieldType), Jvm.Cond.code ({ cls := "com/example/cistern/cistern/config/Setting", name := "notBlank", desc := "(Ljava/lang/String;Lcom/example/cistern/cistern/config/SettingsDraft;)V" } : Jvm.MethodName) prog_7_method_18_code (2 : Nat) (Option.none : Option Jvm.ClassFile.FieldType), Jvm.Cond.code ({ cls := "com/example/cistern/cistern/config/SettingNotBlankPinLaw", name := "ws", desc := "(C)Z" } : Jvm.MethodName) method_2_code (1 : Nat) (Option.some Jvm.ClassFile.FieldType.boolean), Jvm.Cond.code ({ cls := "com/example/cistern/cistern/config/SettingNotBlankPinLaw", name := "make", desc := "(ICCC)Ljava/lang/String;" } : Jvm.MethodName) method_3_code (5 : Nat) (Option.some (Jvm.ClassFile.FieldType.object "java/lang/String")), Jvm.Cond.code ({ cls := "java/lang/String", name := "<init>", desc := "([C)V" } : Jvm.MethodName) jdk_42_method_3_code (2 : Nat) (Option.none : Option Jvm.ClassFile.FieldType), Jvm.Cond.code ({ cls := "java/lang/String", name := "<init>", desc := "([CIILjava/lang/Void;)V" } : Jvm.MethodName) jdk_42_method_149_code (6 : Nat) (Option.none : Option Jvm.ClassFile.FieldType), Jvm.Cond.code ({ cls := "java/lang/StringUTF16", name := "compress", desc := "([CII)[B" } : Jvm.MethodName) jdk_52_method_16_code (6 : Nat) (Option.some (Jvm.ClassFile.FieldType.array Jvm.ClassFile.FieldType.byte)), Jvm.Cond.code ({ cls := "java/lang/StringUTF16", name := "compress", desc := "([CI[BII)I" } : Jvm.MethodName) jdk_52_method_21_code (7 : Nat) (Option.some Jvm.ClassFile.FieldType.int), Jvm.Cond.code ({ cls := "java/lang/StringUTF16", name := "coderFromArrayLen", desc := "([BI)B" } : Jvm.MethodName) jdk_52_method_15_code (2 : Nat) (Option.some Jvm.ClassFile.FieldType.byte), Jvm.Cond.code ({ cls := "java/lang/String", name := "isBlank", desc := "()Z" } : Jvm.MethodName) jdk_42_method_117_code (1 : Nat) (Option.some Jvm.ClassFile.FieldType.boolean), Jvm.Cond.code ({ cls := "java/lang/String", name := "indexOfNonWhitespace", desc := "()I" } : Jvm.MethodName) jdk_42_method_120_code (1 : Nat) (Option.some Jvm.ClassFile.FieldType.int), Jvm.Cond.code ({ cls := "java/lang/String", name := "isLatin1", desc := "()Z" } : Jvm.MethodName) jdk_42_method_154_code (1 : Nat) (Option.some Jvm.ClassFile.FieldType.boolean), Jvm.Cond.code ({ cls := "java/lang/StringLatin1", name := "indexOfNonWhitespace", desc := "([B)I" } : Jvm.MethodName) jdk_43_method_37_code (4 : Nat) (Option.some Jvm.ClassFile.FieldType.int), Jvm.Cond.code ({ cls := "java/lang/StringLatin1", name := "getChar", desc := "([BI)C" } : Jvm.MethodName) jdk_43_method_44_code (2 : Nat) (Option.some Jvm.ClassFile.FieldType.char), Jvm.Cond.code ({ cls := "java/lang/CharacterDataLatin1", name := "isWhitespace", desc := "(I)Z" } : Jvm.MethodName) jdk_116_method_26_code (3 : Nat) (Option.some Jvm.ClassFile.FieldType.boolean), Jvm.Cond.code ({ cls := "java/lang/CharacterDataLatin1", name := "getProperties", desc := "(I)I" } : Jvm.MethodName) jdk_116_method_1_code (4 : Nat) (Option.some Jvm.ClassFile.FieldType.int), Jvm.Cond.code ({ cls := "java/lang/String", name := "length", desc := "()I" } : Jvm.MethodName) jdk_42_method_54_code (1 : Nat) (Option.some Jvm.ClassFile.FieldType.int), Jvm.Cond.code ({ cls := "java/lang/String", name := "coder", desc := "()B" } : Jvm.MethodName) jdk_42_method_152_code (1 : Nat) (Option.some Jvm.ClassFile.FieldType.byte)]
set_option maxRecDepth 65536 in
theorem codes_eq : words1.filter isCode = codes1 := rfl
theorem w_codes : ∀ c ∈ words1.filter isCode, c.before args0 about1 = true := by
  rw [codes_eq]
  intro c hc
  simp only [codes1, List.mem_cons, List.not_mem_nil, or_false] at hc
  rcases hc with rfl | rfl | rfl | rfl | rfl | rfl | rfl | rfl | rfl | rfl | rfl | rfl | rfl | rfl | rfl | rfl | rfl | rfl | rfl | rfl | rfl | rfl
  · exact w_c0
  · exact w_c1
  · exact w_c2
  · exact w_c3
  · exact w_c4
  · exact w_c5
  · exact w_c6
  · exact w_c7
  · exact w_c8
  · exact w_c9
  · exact w_c10
  · exact w_c11
  · exact w_c12
  · exact w_c13
  · exact w_c14
  · exact w_c15
  · exact w_c16
  · exact w_c17
  · exact w_c18
  · exact w_c19
  · exact w_c20
  · exact w_c21
set_option maxRecDepth 65536 in
theorem w_t1 : (words1.take 24).all (fun c => isCode c || c.before args0 about1) = true := by decide +kernel
set_option maxRecDepth 65536 in
theorem w_t2 : ((words1.drop 24).take 24).all (fun c => isCode c || c.before args0 about1) = true := by decide +kernel
set_option maxRecDepth 65536 in
theorem w_t3 : (((words1.drop 24).drop 24).take 24).all (fun c => isCode c || c.before args0 about1) = true := by decide +kernel
set_option maxRecDepth 65536 in
theorem w_t4 : ((((words1.drop 24).drop 24).drop 24).take 24).all (fun c => isCode c || c.before args0 about1) = true := by decide +kernel
set_option maxRecDepth 65536 in
theorem w_t5 : ((((words1.drop 24).drop 24).drop 24).drop 24).all (fun c => isCode c || c.before args0 about1) = true := by decide +kernel
theorem w_tables : (allAtoms (Jvm.Cond.code x code maxLocals ret :: tables_1)).before args0 about1 = true := by
  rw [allAtoms_all]
  show words1.all (fun c => c.before args0 about1) = true
  refine all_split ?_ w_codes
  rw [← List.take_append_drop 24 words1, List.all_append, w_t1, ← List.take_append_drop 24 (words1.drop 24), List.all_append, w_t2, ← List.take_append_drop 24 ((words1.drop 24).drop 24), List.all_append, w_t3, ← List.take_append_drop 24 (((words1.drop 24).drop 24).drop 24), List.all_append, w_t4, w_t5]
  rfl
set_option maxRecDepth 65536 in
theorem w_rest : rest_1_c.before args0 about1 = true := by decide +kernel
set_option maxRecDepth 65536 in
theorem w_case : (Jvm.Cond.and given_1 narrow_1).before args0 about1 = true := by decide +kernel
theorem w_applies : (headSpec (Jvm.Cond.code x code maxLocals ret :: tables_1) room_1).applies x e0.platform about1 = true :=
  (Spec.applies_iff w_frames).mpr ⟨w_running, w_runnable, w_alone, w_named, w_hears, w_ripe, w_room, w_tables⟩
theorem atStart : AtStart classFile x code maxLocals ret World_1 tables_1 room_1 Calls_1 rest_1 Pre_1 launch0 p0 e0 about1 theMethod args0 below0 :=
  ⟨lists_1, trivial, launch0.admits_env _ _ _, launch0.least_env, fairChoices_fair.cas, fairChoices_fair.clock, w_frames, w_args, w_heap, w_applies, trivial, w_rest, w_case⟩
end start1
theorem witness_1 : WitnessClaimed_1 := ⟨start1.p0, start1.e0, start1.about1, start1.theMethod, start1.args0, start1.below0, start1.atStart⟩
end Jvm.Pilot.@@N@@
