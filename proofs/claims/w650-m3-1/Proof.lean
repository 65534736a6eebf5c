import JvmDerived
import JvmDerived.Pilot.@@N@@Statement
import JvmDerived.Pilot.@@N@@Code
set_option linter.unusedVariables false
set_option linter.unusedSimpArgs false
@@BLOCK:NumsL.lean.txt@@
namespace Jvm.OwnKit
open Sem ClassFile Op Lib Jvm.Stand Jvm.Free Jvm.LawKit Jvm.RoadKit
/-! A small heap of our own: the cells made since the law began, in the order of their making: an array (its component type, its values) or an object (its class, its fields). -/
abbrev Cel := Sum (FieldType × List Value) (String × List (String × String × Value))
abbrev Cont := Nat → List Slot → List Value → List Cel → Nat → Nat → Prop
/-- the address of the i-th cell made -/
def ad (n i : Nat) : Nat := n + i
/-- every field of the list is laid in the class; one name, one descriptor -/
def LaidAll (Z : State) (C : String) (fs : List (String × String × Value)) : Prop := ∃ a0, ∀ f ∈ fs, Laid Z a0 C C f.1 f.2.1 ∧ (∃ ty, parseFieldDescriptor f.2.1 = some ty) ∧ ∀ f' ∈ fs, f'.1 = f.1 → f'.2.1 = f.2.1
def RepC (Z : State) (h : Heap) (a : Addr) : Cel → Prop
  | .inl (ty, vs) => ∃ cl : Cell, Arr Z h a cl ty ∧ cl.slots = vs.toArray
  | .inr (C, fs) => Exa Z h a C ∧ (∀ f ∈ fs, Fld Z h a C f.1 f.2.1 f.2.2) ∧ LaidAll Z C fs
def Rep (Z : State) (b h : Heap) (H : List Cel) : Prop := h.size = b.size + H.length ∧ ∀ i c, H[i]? = some c → RepC Z h (ad b.size i) c
theorem RepC.ext {Z : State} {h h' : Heap} {a : Addr} {c : Cel} (E : Ext h h') (r : RepC Z h a c) : RepC Z h' a c := by
  rcases c with ⟨ty, vs⟩ | ⟨C, fs⟩
  · obtain ⟨cl, A, e⟩ := r; exact ⟨cl, A.ext E, e⟩
  · exact ⟨r.1.ext E, fun f hf => (r.2.1 f hf).ext E, r.2.2⟩
theorem Rep.push {Z : State} {b h h' : Heap} {H : List Cel} {c : Cel} (r : Rep Z b h H) (E : Ext h h') (hs : h'.size = h.size + 1) (hc : RepC Z h' h.size c) : Rep Z b h' (H ++ [c]) := by
  refine ⟨by rw [hs, r.1]; simp [Nat.add_assoc], fun i c' hi => ?_⟩
  rcases Nat.lt_trichotomy i H.length with q | q | q
  · rw [List.getElem?_append_left q] at hi
    exact (r.2 i c' hi).ext E
  · subst q
    simp at hi; subst hi
    have e : ad b.size H.length = h.size := by rw [r.1]; rfl
    rw [e]; exact hc
  · rw [List.getElem?_eq_none (by simp; omega)] at hi; cases hi
theorem RepC.other {Z : State} {h h' : Heap} {a a' : Addr} {sl : Nat} {v : Value} {c : Cel} (W : Wr h h' a' sl v) (hne : a ≠ a') (r : RepC Z h a c) : RepC Z h' a c := by
  rcases c with ⟨ty, vs⟩ | ⟨C, fs⟩
  · obtain ⟨cl, A, e⟩ := r; exact ⟨cl, A.other W hne, e⟩
  · exact ⟨r.1.wr W, fun f hf => (r.2.1 f hf).other W (Or.inl hne), r.2.2⟩
theorem Rep.set {Z : State} {b h h' : Heap} {H : List Cel} {i : Nat} {c' : Cel} {sl : Nat} {v : Value} (r : Rep Z b h H) (W : Wr h h' (ad b.size i) sl v) (hc : RepC Z h' (ad b.size i) c') : Rep Z b h' (H.set i c') := by
  refine ⟨by rw [W.size, r.1]; simp, fun j c hj => ?_⟩
  by_cases e : j = i
  · subst e
    by_cases q : j < H.length
    · rw [List.getElem?_set_self q] at hj; cases hj; exact hc
    · rw [List.getElem?_eq_none (by simp; omega)] at hj; cases hj
  · rw [List.getElem?_set_ne (Ne.symm e)] at hj
    exact (r.2 j c hj).other W (by simp [ad]; omega)
theorem Rep.setArr {Z : State} {b h h' : Heap} {H : List Cel} {i : Nat} {ty : FieldType} {vs : List Value} {sl : Nat} {v : Value} (r : Rep Z b h H) (hi : H[i]? = some (.inl (ty, vs))) (W : Wr h h' (ad b.size i) sl v) : Rep Z b h' (H.set i (.inl (ty, vs.set sl v))) := by
  obtain ⟨cl, A, e⟩ := r.2 i _ hi
  exact r.set W ⟨_, A.same W, by simp [Cell.setSlot, e]⟩

/-! Where the walk stands, in plain words: from here the invocation ends, and what it returns and leaves fits K. -/
def G (code : ByteArray) (own nm : String) (maxL : Nat) (ret : Option FieldType) (R : Room) (W : List Jvm.Cond) (l : Launch) (Z : State) (b : Heap) (rc rs : Nat) (K : Option Value → List Cel → Prop)
    (pc : Nat) (ls : List Slot) (st : List Value) (H : List Cel) (cN sN : Nat) : Prop :=
  ∀ (p : Program) (e : Env) (s : State) (m : MethodId) (args : Array Value) (below : List Frame) (meth : Method) (c : Code) (T : State) (locs : List Loc) (a0 : Array Value),
    p.tables.exec = Jvm.exec → c.code = code → c.maxLocals = maxL → meth.sig.returnType = ret → meth.locks = false → meth.name = nm → Z.Warmed39 s.vm → s.vm.findClass own = some m.cls → (∀ d ∈ W, d.before a0 Z = true) →
    Stand p l e R s m args below meth c T locs cN sN → Fr b.size locs → Rep Z b T.heap H →
    ∃ s₂ o, Steps p.tables e below (T.setTop (mkF m pc ls.toArray st)) s₂ ∧ s₂.status = .running ∧ Ended s₂ below o ∧ ∃ v L, o = .returned v ∧ (Fr b.size L ∧ ∃ H', Rep Z b s₂.heap H' ∧ K v H') ∧ FrameEnd s o s₂ L rc rs
/-- what a method does, at these arguments and this heap -/
def Con (W : List Jvm.Cond) (l : Launch) (Z : State) (b : Heap) (y : MethodName) (bytes : ByteArray) (maxL : Nat) (ret : Option FieldType) (rm : Room) (as : List Value) (H : List Cel) (K : Option Value → List Cel → Prop) : Prop :=
  ∀ (a0 : Array Value) (h : Heap), (∀ d ∈ W, d.before a0 Z = true) → Rep Z b h H →
    MetFree l y (head1 [Jvm.Cond.code y bytes maxL ret] rm) (fun a U => a = as.toArray ∧ Z.Warmed39 U.vm ∧ U.heap = h) (fun _ _ _ _ _ => True)
      (fun _ U o U' => ∃ v L, o = .returned v ∧ (Fr b.size L ∧ ∃ H', Rep Z b U'.heap H' ∧ K v H') ∧ FrameEnd U o U' L rm.cells rm.slots)

section Steps
variable {code : ByteArray} {own nm : String} {maxL : Nat} {ret : Option FieldType} {R : Room} {W : List Jvm.Cond} {l : Launch} {Z : State} {b : Heap} {rc rs : Nat} {K : Option Value → List Cel → Prop}
variable {pc pc' : Nat} {ls ls' : List Slot} {st st' : List Value} {H H' : List Cel} {cN sN cN' sN' : Nat}
/-- a step that moves the frame alone -/
theorem G.pure (f : ∀ (p : Program) (e : Env) (s : State) (m : MethodId) (args : Array Value) (below : List Frame) (meth : Method) (c : Code) (T : State) (locs : List Loc) (a0 : Array Value),
      p.tables.exec = Jvm.exec → c.code = code → Z.Warmed39 s.vm → s.vm.findClass own = some m.cls → (∀ d ∈ W, d.before a0 Z = true) → Stand p l e R s m args below meth c T locs cN sN → Rep Z b T.heap H →
      ∀ target, Steps p.tables e below (T.setTop (mkF m pc' ls'.toArray st')) target → Steps p.tables e below (T.setTop (mkF m pc ls.toArray st)) target)
    (h : G code own nm maxL ret R W l Z b rc rs K pc' ls' st' H cN sN) : G code own nm maxL ret R W l Z b rc rs K pc ls st H cN sN := by
  intro p e s m args below meth c T locs a0 hx hc hm hr hk hn hZ ho hw X hF hR
  obtain ⟨s₂, o, h1, h2⟩ := h p e s m args below meth c T locs a0 hx hc hm hr hk hn hZ ho hw X hF hR
  exact ⟨s₂, o, f p e s m args below meth c T locs a0 hx hc hZ ho hw X hR _ h1, h2⟩
/-- a step that moves the heap too -/
theorem G.move (f : ∀ (p : Program) (e : Env) (s : State) (m : MethodId) (args : Array Value) (below : List Frame) (meth : Method) (c : Code) (T : State) (locs : List Loc) (a0 : Array Value),
      p.tables.exec = Jvm.exec → c.code = code → c.maxLocals = maxL → meth.name = nm → Z.Warmed39 s.vm → s.vm.findClass own = some m.cls → (∀ d ∈ W, d.before a0 Z = true) → Stand p l e R s m args below meth c T locs cN sN → Fr b.size locs → Rep Z b T.heap H →
      ∃ T' locs', Stand p l e R s m args below meth c T' locs' cN' sN' ∧ Fr b.size locs' ∧ Rep Z b T'.heap H' ∧
        ∀ target, Steps p.tables e below (T'.setTop (mkF m pc' ls'.toArray st')) target → Steps p.tables e below (T.setTop (mkF m pc ls.toArray st)) target)
    (h : G code own nm maxL ret R W l Z b rc rs K pc' ls' st' H' cN' sN') : G code own nm maxL ret R W l Z b rc rs K pc ls st H cN sN := by
  intro p e s m args below meth c T locs a0 hx hc hm hr hk hn hZ ho hw X hF hR
  obtain ⟨T', locs', X', hF', hR', st⟩ := f p e s m args below meth c T locs a0 hx hc hm hn hZ ho hw X hF hR
  obtain ⟨s₂, o, h1, h2⟩ := h p e s m args below meth c T' locs' a0 hx hc hm hr hk hn hZ ho hw X' hF' hR'
  exact ⟨s₂, o, st _ h1, h2⟩
/-- the return -/
theorem G.leave {v : Option Value} (hv : ret = none → v = none)
    (f : ∀ (p : Program) (e : Env) (s : State) (m : MethodId) (args : Array Value) (below : List Frame) (meth : Method) (c : Code) (T : State) (locs : List Loc),
      p.tables.exec = Jvm.exec → c.code = code → meth.sig.returnType = ret → Stand p l e R s m args below meth c T locs cN sN →
      ∀ fs, (∀ (f : JFrame) (acts : List Action), f.method = m → f.locked = none → f.entered = [] → (doReturn e (T.setTop f) acts v).1 = T.setFrames fs) →
      Steps p.tables e below (T.setTop (mkF m pc ls.toArray st)) (T.setFrames fs))
    (hc : cN ≤ rc) (hs : sN ≤ rs) (hK : K v H) : G code own nm maxL ret R W l Z b rc rs K pc ls st H cN sN := by
  intro p e s m args below meth c T locs a0 hx hcd hm hr hk hn hZ ho hw X hF hR
  obtain ⟨fs, hfs, hrun, hended, hW, hsame⟩ := X.leave (v := v) (fun q => hv (hr ▸ q)) hk
  exact ⟨_, _, f p e s m args below meth c T locs hx hcd hr X fs hfs, hrun, hended, v, locs, rfl, ⟨hF, H, hR, hK⟩, ⟨v, rfl⟩, hW, hsame.mono hc hs⟩
/-- a walk from the entry, as a free contract -/
theorem G.met {y : MethodName} {rm : Room} {as : List Value} {ws : List Jvm.Cond} (hy : plainFor y = true) (ef : ∀ m, entryFrame m as.toArray maxL = mkF m 0 ls.toArray [])
    (g : G code y.cls y.name maxL ret rm W l Z b rc rs K 0 ls [] H 0 0) (a0 : Array Value) (h : Heap) (hw : ∀ d ∈ W, d.before a0 Z = true) (hR : Rep Z b h H) :
    MetFree l y (head1 (Jvm.Cond.code y code maxL ret :: ws) rm) (fun a U => a = as.toArray ∧ Z.Warmed39 U.vm ∧ U.heap = h) (fun _ _ _ _ _ => True)
      (fun _ U o U' => ∃ v L, o = .returned v ∧ (Fr b.size L ∧ ∃ H', Rep Z b U'.heap H' ∧ K v H') ∧ FrameEnd U o U' L rc rs) := by
  refine MetFree.of_bodySF hy hisR ?_
  intro p e s m args below meth c s₁ Bd hml hP _
  obtain ⟨rfl, hZ, hh⟩ := hP
  have X0 : Stand p l e rm s m as.toArray below meth c s₁ [] 0 0 := Stand.of_body Bd
  have e0 : s₁.heap = h := by rw [← hh, Bd.state]; rfl
  obtain ⟨s₂, o, h1, h2, h3, v, L, h4, h5, h6⟩ := g p e s m _ below meth c s₁ [] a0 Bd.exec Bd.bytes hml Bd.returns Bd.notSynchronized (name_of_methodNamed Bd.named Bd.method).1 hZ (findClass_of_methodNamed Bd.named) hw X0 (Fr.nil _) (by rw [e0]; exact hR)
  exact ⟨s₂, o, castTop (ef m) h1, h2, h3, v, L, h4, h5, h6⟩
theorem G.con {y : MethodName} {rm : Room} {as : List Value} (hy : plainFor y = true) (ef : ∀ m, entryFrame m as.toArray maxL = mkF m 0 ls.toArray [])
    (g : G code y.cls y.name maxL ret rm W l Z b rm.cells rm.slots K 0 ls [] H 0 0) : Con W l Z b y code maxL ret rm as H K := fun a0 h hw hR => G.met hy ef g a0 h hw hR
/-- just this is returned, just this heap left -/
def is (v : Option Value) (H : List Cel) : Option Value → List Cel → Prop := fun v' H' => v' = v ∧ H' = H
/-- some byte is returned, the heap left as it was -/
def byt (H : List Cel) : Option Value → List Cel → Prop := fun v H' => ∃ y, v = some (.int y) ∧ nar .byte y = y ∧ H' = H
theorem is_self {v : Option Value} {H : List Cel} : is v H v H := ⟨rfl, rfl⟩
end Steps
end Jvm.OwnKit
namespace Jvm.OwnKit
open Sem ClassFile Op Lib Jvm.Stand Jvm.Free Jvm.LawKit Jvm.RoadKit
def popI (st : List Value) (f : Int32 → List Value → Prop) : Prop := match st with | .int x :: r => f x r | _ => False
def popJ (st : List Value) (f : Int64 → List Value → Prop) : Prop := match st with | .long x :: r => f x r | _ => False
def popR (st : List Value) (f : Nat → List Value → Prop) : Prop := match st with | .ref x :: r => f x r | _ => False
def pop1 (st : List Value) (f : Value → List Value → Prop) : Prop := match st with | .int x :: r => f (.int x) r | .ref x :: r => f (.ref x) r | .null :: r => f .null r | _ => False
def popA (st : List Value) (f : Value → List Value → Prop) : Prop := match st with | .ref x :: r => f (.ref x) r | .null :: r => f .null r | _ => False
theorem popI_c {x : Int32} {r : List Value} {f : Int32 → List Value → Prop} : popI (.int x :: r) f = f x r := propext Iff.rfl
theorem popJ_c {x : Int64} {r : List Value} {f : Int64 → List Value → Prop} : popJ (.long x :: r) f = f x r := propext Iff.rfl
theorem popR_c {x : Nat} {r : List Value} {f : Nat → List Value → Prop} : popR (.ref x :: r) f = f x r := propext Iff.rfl
theorem pop1_i {x : Int32} {r : List Value} {f : Value → List Value → Prop} : pop1 (.int x :: r) f = f (.int x) r := propext Iff.rfl
theorem pop1_r {x : Nat} {r : List Value} {f : Value → List Value → Prop} : pop1 (.ref x :: r) f = f (.ref x) r := propext Iff.rfl
theorem pop1_n {r : List Value} {f : Value → List Value → Prop} : pop1 (.null :: r) f = f .null r := propext Iff.rfl
theorem popA_r {x : Nat} {r : List Value} {f : Value → List Value → Prop} : popA (.ref x :: r) f = f (.ref x) r := propext Iff.rfl
theorem popA_n {r : List Value} {f : Value → List Value → Prop} : popA (.null :: r) f = f .null r := propext Iff.rfl
theorem popI_e {st : List Value} {f : Int32 → List Value → Prop} (h : popI st f) : ∃ x r, st = .int x :: r ∧ f x r := by unfold popI at h; split at h <;> first | exact ⟨_, _, rfl, h⟩ | exact h.elim
theorem popJ_e {st : List Value} {f : Int64 → List Value → Prop} (h : popJ st f) : ∃ x r, st = .long x :: r ∧ f x r := by unfold popJ at h; split at h <;> first | exact ⟨_, _, rfl, h⟩ | exact h.elim
theorem popR_e {st : List Value} {f : Nat → List Value → Prop} (h : popR st f) : ∃ x r, st = .ref x :: r ∧ f x r := by unfold popR at h; split at h <;> first | exact ⟨_, _, rfl, h⟩ | exact h.elim
theorem pop1_e {st : List Value} {f : Value → List Value → Prop} (h : pop1 st f) : ∃ x r, st = x :: r ∧ x.category = 1 ∧ f x r := by unfold pop1 at h; split at h <;> first | exact ⟨_, _, rfl, rfl, h⟩ | exact h.elim
theorem popA_e {st : List Value} {f : Value → List Value → Prop} (h : popA st f) : ∃ x r, st = x :: r ∧ x.isRef = true ∧ x.category = 1 ∧ f x r := by unfold popA at h; split at h <;> first | exact ⟨_, _, rfl, rfl, rfl, h⟩ | exact h.elim
/-! the local variables -/
def ldI (ls : List Slot) (k : Nat) (f : Int32 → Prop) : Prop := match ls[k]? with | some (.val (.int v)) => f v | _ => False
def ldJ (ls : List Slot) (k : Nat) (f : Int64 → Prop) : Prop := match ls[k]? with | some (.val (.long v)) => f v | _ => False
def ldA (ls : List Slot) (k : Nat) (f : Value → Prop) : Prop := match ls[k]? with | some (.val (.ref v)) => f (.ref v) | some (.val .null) => f .null | _ => False
theorem ldI_z {v : Int32} {r : List Slot} {f : Int32 → Prop} : ldI (.val (.int v) :: r) 0 f = f v := propext Iff.rfl
theorem ldJ_z {v : Int64} {r : List Slot} {f : Int64 → Prop} : ldJ (.val (.long v) :: r) 0 f = f v := propext Iff.rfl
theorem ldA_z {v : Nat} {r : List Slot} {f : Value → Prop} : ldA (.val (.ref v) :: r) 0 f = f (.ref v) := propext Iff.rfl
theorem ldA_n {r : List Slot} {f : Value → Prop} : ldA (.val .null :: r) 0 f = f .null := propext Iff.rfl
theorem ldI_s {x : Slot} {r : List Slot} {k : Nat} {f : Int32 → Prop} : ldI (x :: r) (k + 1) f = ldI r k f := propext Iff.rfl
theorem ldJ_s {x : Slot} {r : List Slot} {k : Nat} {f : Int64 → Prop} : ldJ (x :: r) (k + 1) f = ldJ r k f := propext Iff.rfl
theorem ldA_s {x : Slot} {r : List Slot} {k : Nat} {f : Value → Prop} : ldA (x :: r) (k + 1) f = ldA r k f := propext Iff.rfl
theorem ldI_e {ls : List Slot} {k : Nat} {f : Int32 → Prop} (h : ldI ls k f) : ∃ v, ls[k]? = some (.val (.int v)) ∧ f v := by unfold ldI at h; split at h <;> first | exact ⟨_, by assumption, h⟩ | exact h.elim
theorem ldJ_e {ls : List Slot} {k : Nat} {f : Int64 → Prop} (h : ldJ ls k f) : ∃ v, ls[k]? = some (.val (.long v)) ∧ f v := by unfold ldJ at h; split at h <;> first | exact ⟨_, by assumption, h⟩ | exact h.elim
theorem ldA_e {ls : List Slot} {k : Nat} {f : Value → Prop} (h : ldA ls k f) : ∃ v, ls[k]? = some (.val v) ∧ v.isRef = true ∧ f v := by unfold ldA at h; split at h <;> first | exact ⟨_, by assumption, rfl, h⟩ | exact h.elim
/-- a store of one word: where it falls into half of a long, the other half is unset -/
def sto1 (ls : List Slot) (k : Nat) (v : Value) (f : List Slot → Prop) : Prop := match ls[k]? with
  | some .unset => f (ls.set k (.val v))
  | some (.val (.int _)) => f (ls.set k (.val v))
  | some (.val (.ref _)) => f (ls.set k (.val v))
  | some (.val .null) => f (ls.set k (.val v))
  | _ => False
/-- a store of two words, over places that hold no half of another long; or over the very same long -/
def free1 (o : Option Slot) : Bool := match o with | some .unset => true | some (.val (.int _)) => true | some (.val (.ref _)) => true | some (.val .null) => true | _ => false
def sto2 (ls : List Slot) (k : Nat) (v : Value) (f : List Slot → Prop) : Prop := match ls[k]? with
  | some (.val (.long _)) => ls[k + 1]? = some .second ∧ f ((ls.set k (.val v)).set (k + 1) .second)
  | o => free1 o = true ∧ free1 ls[k + 1]? = true ∧ f ((ls.set k (.val v)).set (k + 1) .second)
theorem sto1_u {r : List Slot} {v : Value} {f : List Slot → Prop} : sto1 (.unset :: r) 0 v f = f (.val v :: r) := propext Iff.rfl
theorem sto1_i {x : Int32} {r : List Slot} {v : Value} {f : List Slot → Prop} : sto1 (.val (.int x) :: r) 0 v f = f (.val v :: r) := propext Iff.rfl
theorem sto1_r {x : Nat} {r : List Slot} {v : Value} {f : List Slot → Prop} : sto1 (.val (.ref x) :: r) 0 v f = f (.val v :: r) := propext Iff.rfl
theorem sto1_n {r : List Slot} {v : Value} {f : List Slot → Prop} : sto1 (.val .null :: r) 0 v f = f (.val v :: r) := propext Iff.rfl
theorem sto1_s {x : Slot} {r : List Slot} {k : Nat} {v : Value} {f : List Slot → Prop} : sto1 (x :: r) (k + 1) v f = sto1 r k v fun l => f (x :: l) := propext Iff.rfl
theorem sto2_u {r : List Slot} {v : Value} {f : List Slot → Prop} : sto2 (.unset :: .unset :: r) 0 v f = f (.val v :: .second :: r) := by simp [sto2, free1]
theorem sto2_l {x : Int64} {r : List Slot} {v : Value} {f : List Slot → Prop} : sto2 (.val (.long x) :: .second :: r) 0 v f = f (.val v :: .second :: r) := by simp [sto2]
theorem sto2_s {x : Slot} {r : List Slot} {k : Nat} {v : Value} {f : List Slot → Prop} : sto2 (x :: r) (k + 1) v f = sto2 r k v fun l => f (x :: l) := by simp [sto2]
theorem sto1_e {ls : List Slot} {k : Nat} {v : Value} {f : List Slot → Prop} (hv : v.category = 1) (h : sto1 ls k v f) : ∃ l', storeLocals ls.toArray k v = some l'.toArray ∧ f l' := by
  unfold sto1 at h
  split at h
  all_goals first
    | exact h.elim
    | (rename_i q
       refine ⟨_, ?_, h⟩
       rw [storeLocals_cat1 (by rw [List.getElem?_toArray]; exact q) hv (by first | exact trivial | rfl)]
       simp)
theorem free1_e {o : Option Slot} (h : free1 o = true) : ∃ x, o = some x ∧ (x = .unset ∨ ∃ w, x = .val w ∧ w.category = 1) := by
  unfold free1 at h
  split at h
  all_goals first
    | exact ⟨_, rfl, Or.inl rfl⟩
    | exact ⟨_, rfl, Or.inr ⟨_, rfl, rfl⟩⟩
    | cases h
theorem sto2_e {ls : List Slot} {k : Nat} {v : Value} {f : List Slot → Prop} (hv : v.category = 2) (h : sto2 ls k v f) : ∃ l', storeLocals ls.toArray k v = some l'.toArray ∧ f l' := by
  unfold sto2 at h
  split at h
  · rename_i w q
    obtain ⟨q1, h⟩ := h
    refine ⟨_, ?_, h⟩
    rw [Fl.storeLocals_cat2 (by rw [List.getElem?_toArray]; exact q) (by rw [List.getElem?_toArray]; exact q1) hv (Or.inr ⟨⟨_, rfl, rfl⟩, rfl⟩)]
    simp
  · rename_i o _
    obtain ⟨q, q1, h⟩ := h
    refine ⟨_, ?_, h⟩
    obtain ⟨x, q, hx⟩ := free1_e q
    obtain ⟨x1, q1, hx1⟩ := free1_e q1
    have px : Fl.Plain1 x := by rcases hx with rfl | ⟨w, rfl, hw⟩ <;> first | exact trivial | exact hw
    have px1 : Fl.Plain1 x1 := by rcases hx1 with rfl | ⟨w, rfl, hw⟩ <;> first | exact trivial | exact hw
    rw [Fl.storeLocals_cat2 (by rw [List.getElem?_toArray]; exact q) (by rw [List.getElem?_toArray]; exact q1) hv (Or.inl ⟨px, px1⟩)]
    simp
/-! the cells -/
def arrI (H : List Cel) (i : Nat) (f : FieldType → List Value → Prop) : Prop := match H[i]? with | some (.inl (ty, vs)) => f ty vs | _ => False
def arr (H : List Cel) (n a : Nat) (f : Nat → FieldType → List Value → Prop) : Prop := ∃ i, a = ad n i ∧ arrI H i (f i)
theorem arrI_z {ty : FieldType} {vs : List Value} {H : List Cel} {f : FieldType → List Value → Prop} : arrI (.inl (ty, vs) :: H) 0 f = f ty vs := propext Iff.rfl
theorem arrI_s {c : Cel} {H : List Cel} {i : Nat} {f : FieldType → List Value → Prop} : arrI (c :: H) (i + 1) f = arrI H i f := propext Iff.rfl
theorem arr_c {H : List Cel} {n i : Nat} {f : Nat → FieldType → List Value → Prop} : arr H n (ad n i) f = arrI H i (f i) :=
  propext ⟨fun ⟨j, e, h⟩ => by obtain rfl : i = j := by simp [ad] at e; exact e
                               exact h, fun h => ⟨i, rfl, h⟩⟩
theorem arr_e {H : List Cel} {n a : Nat} {f : Nat → FieldType → List Value → Prop} (h : arr H n a f) : ∃ i ty vs, a = ad n i ∧ H[i]? = some (.inl (ty, vs)) ∧ f i ty vs := by
  obtain ⟨i, e, h⟩ := h
  unfold arrI at h
  split at h
  · exact ⟨i, _, _, e, by assumption, h⟩
  · exact h.elim
def idxN (vs : List Value) (n : Nat) (f : Value → Prop) : Prop := match vs[n]? with | some v => f v | none => False
theorem idxN_z {v : Value} {vs : List Value} {f : Value → Prop} : idxN (v :: vs) 0 f = f v := propext Iff.rfl
theorem idxN_s {v : Value} {vs : List Value} {n : Nat} {f : Value → Prop} : idxN (v :: vs) (n + 1) f = idxN vs n f := propext Iff.rfl
theorem idxN_c {v : Value} {vs : List Value} {n : Nat} {f : Value → Prop} : idxN (v :: vs) n f = if n = 0 then f v else idxN vs (n - 1) f := by cases n <;> simp [idxN]
def idx (vs : List Value) (j : Int32) (f : Value → Prop) : Prop := if j < 0 then False else idxN vs j.toNatClampNeg f
theorem idx_c {vs : List Value} {j : Int32} {f : Value → Prop} : idx vs j f = if j < 0 then False else idxN vs j.toNatClampNeg f := propext Iff.rfl
theorem idx_e {vs : List Value} {j : Int32} {f : Value → Prop} (h : idx vs j f) : ¬ j < 0 ∧ ∃ v, vs[j.toNatClampNeg]? = some v ∧ f v := by
  unfold idx at h
  split at h
  · exact h.elim
  · rename_i h1
    unfold idxN at h
    split at h
    · exact ⟨h1, _, by assumption, h⟩
    · exact h.elim
/-- the list with its n-th place set -/
def setN (vs : List Value) (n : Nat) (v : Value) (f : List Value → Prop) : Prop := f (vs.set n v)
theorem setN_c {x v : Value} {vs : List Value} {n : Nat} {f : List Value → Prop} : setN (x :: vs) n v f = if n = 0 then f (v :: vs) else setN vs (n - 1) v fun l => f (x :: l) := by cases n <;> simp [setN]
def setL (vs : List Slot) (n : Nat) (v : Slot) (f : List Slot → Prop) : Prop := f (vs.set n v)
theorem setL_z {x v : Slot} {vs : List Slot} {f : List Slot → Prop} : setL (x :: vs) 0 v f = f (v :: vs) := propext Iff.rfl
theorem setL_s {x v : Slot} {vs : List Slot} {n : Nat} {f : List Slot → Prop} : setL (x :: vs) (n + 1) v f = setL vs n v fun l => f (x :: l) := propext Iff.rfl
def setH (H : List Cel) (n : Nat) (v : Cel) (f : List Cel → Prop) : Prop := f (H.set n v)
theorem setH_z {x v : Cel} {H : List Cel} {f : List Cel → Prop} : setH (x :: H) 0 v f = f (v :: H) := propext Iff.rfl
theorem setH_s {x v : Cel} {H : List Cel} {n : Nat} {f : List Cel → Prop} : setH (x :: H) (n + 1) v f = setH H n v fun l => f (x :: l) := propext Iff.rfl
def snoc (H : List Cel) (c : Cel) (f : List Cel → Prop) : Prop := f (H ++ [c])
theorem snoc_z {c : Cel} {f : List Cel → Prop} : snoc [] c f = f [c] := propext Iff.rfl
theorem snoc_s {x c : Cel} {H : List Cel} {f : List Cel → Prop} : snoc (x :: H) c f = snoc H c fun l => f (x :: l) := propext Iff.rfl
def onLen (H : List Cel) (f : Nat → Prop) : Prop := f H.length
theorem onLen_0 {f : Nat → Prop} : onLen [] f = f 0 := propext Iff.rfl
theorem onLen_1 {a : Cel} {f : Nat → Prop} : onLen [a] f = f 1 := propext Iff.rfl
theorem onLen_2 {a c : Cel} {f : Nat → Prop} : onLen [a, c] f = f 2 := propext Iff.rfl
theorem onLen_3 {a c d : Cel} {f : Nat → Prop} : onLen [a, c, d] f = f 3 := propext Iff.rfl
theorem onLen_4 {a c d e : Cel} {f : Nat → Prop} : onLen [a, c, d, e] f = f 4 := propext Iff.rfl
/-- a new array's values: n of them, all alike -/
def repN (n : Nat) (v : Value) (f : List Value → Prop) : Prop := f (List.replicate n v)
theorem repN_c {n : Nat} {v : Value} {f : List Value → Prop} : repN n v f = if n = 0 then f [] else repN (n - 1) v fun l => f (v :: l) := by cases n <;> simp [repN, List.replicate_succ]
def objI (H : List Cel) (i : Nat) (f : String → List (String × String × Value) → Prop) : Prop := match H[i]? with | some (.inr (C, fs)) => f C fs | _ => False
def obj (H : List Cel) (n a : Nat) (f : Nat → String → List (String × String × Value) → Prop) : Prop := ∃ i, a = ad n i ∧ objI H i (f i)
theorem objI_z {C : String} {fs : List (String × String × Value)} {H : List Cel} {f : String → List (String × String × Value) → Prop} : objI (.inr (C, fs) :: H) 0 f = f C fs := propext Iff.rfl
theorem objI_s {c : Cel} {H : List Cel} {i : Nat} {f : String → List (String × String × Value) → Prop} : objI (c :: H) (i + 1) f = objI H i f := propext Iff.rfl
theorem obj_c {H : List Cel} {n i : Nat} {f : Nat → String → List (String × String × Value) → Prop} : obj H n (ad n i) f = objI H i (f i) :=
  propext ⟨fun ⟨j, e, h⟩ => by obtain rfl : i = j := by simp [ad] at e; exact e
                               exact h, fun h => ⟨i, rfl, h⟩⟩
theorem obj_e {H : List Cel} {n a : Nat} {f : Nat → String → List (String × String × Value) → Prop} (h : obj H n a f) : ∃ i C fs, a = ad n i ∧ H[i]? = some (.inr (C, fs)) ∧ f i C fs := by
  obtain ⟨i, e, h⟩ := h
  unfold objI at h
  split at h
  · exact ⟨i, _, _, e, by assumption, h⟩
  · exact h.elim
theorem ifF_e {c : Prop} [Decidable c] {h : Prop} (q : if c then h else False) : c ∧ h := by split at q <;> first | exact ⟨by assumption, q⟩ | exact q.elim
/-- a branch's target -/
def tgt (pc : Nat) (o : Int) (f : Nat → Prop) : Prop := f ((pc : Int) + o).toNat
def look {α : Type} : List (Nat × α) → Nat → Option α
  | [], _ => none
  | (k, v) :: r, n => if n = k then some v else look r n
theorem look_z {α : Type} {k : Nat} {v : α} {r : List (Nat × α)} : look ((k, v) :: r) k = some v := by simp [look]
theorem look_s {α : Type} {k n : Nat} {v : α} {r : List (Nat × α)} (h : (n = k) = False) : look ((k, v) :: r) n = look r n := by simp [look, h]
theorem look_mem {α : Type} {L : List (Nat × α)} {n : Nat} {v : α} (h : look L n = some v) : (n, v) ∈ L := by
  induction L with
  | nil => cases h
  | cons x r ih =>
    obtain ⟨k, w⟩ := x
    unfold look at h
    split at h
    · rename_i e; cases h; subst e; exact List.mem_cons_self ..
    · exact List.mem_cons_of_mem _ (ih h)
def onSome {α : Type} (o : Option α) (f : α → Prop) : Prop := match o with | some v => f v | none => False
theorem onSome_c {α : Type} {v : α} {f : α → Prop} : onSome (some v) f = f v := propext Iff.rfl
theorem onSome_e {α : Type} {o : Option α} {f : α → Prop} (h : onSome o f) : ∃ v, o = some v ∧ f v := by unfold onSome at h; split at h <;> first | exact ⟨_, rfl, h⟩ | exact h.elim
/-- Java's int remainder, as the model spells it -/
def remI (x y : Int32) : Int32 := x - (x / y) * y
def remJ (x y : Int64) : Int64 := x - (x / y) * y
def retv (t : FieldType) (x : Int32) : Int32 := nar t x
def ilen : Instr → Nat
  | .aload _ | .astore _ | .iload _ | .istore _ | .lload _ | .lstore _ | .bipush _ | .ldc _ | .newarray _ => 2
  | .sipush _ | .ldc2_w _ | .ldc_w _ | .iinc _ _ | .goto _ | .ifCond _ _ | .if_icmp _ _ | .ifnull _ | .ifnonnull _ | .new _ | .getfield _ | .putfield _ | .invokestatic _ | .invokespecial _ | .invokevirtual _ | .checkcast _ | .anewarray _ => 3
  | _ => 1
def off : Instr → Int
  | .goto o | .ifCond _ o | .if_icmp _ o | .ifnull o | .ifnonnull o => o
  | _ => 0
def at1 (code : ByteArray) (pc : Nat) : Option Instr := match decode code pc with
  | .ok (i, n) => if n = ilen i ∧ 0 ≤ (pc : Int) + off i then some i else none
  | _ => none
theorem at1_of {code : ByteArray} {pc n : Nat} {i : Instr} (h : decode code pc = .ok (i, n)) (hn : n = ilen i) (ho : 0 ≤ (pc : Int) + off i) : at1 code pc = some i := by
  simp [at1, h, hn, ho]
theorem at1_o {code : ByteArray} {pc : Nat} {i : Instr} (h : at1 code pc = some i) : decode code pc = .ok (i, ilen i) ∧ 0 ≤ (pc : Int) + off i := by
  unfold at1 at h
  split at h
  · rename_i j n q
    split at h
    · rename_i e; cases h; rw [q, e.1]; exact ⟨rfl, e.2⟩
    · cases h
  · cases h
theorem at1_e {code : ByteArray} {pc : Nat} {i : Instr} (h : at1 code pc = some i) : decode code pc = .ok (i, ilen i) := (at1_o h).1

def fget (fs : List (String × String × Value)) (n d : String) : Option Value := match fs with
  | [] => none
  | (n', d', v) :: r => if n = n' ∧ d = d' then some v else fget r n d
theorem fget_mem {fs : List (String × String × Value)} {n d : String} {v : Value} (h : fget fs n d = some v) : (n, d, v) ∈ fs := by
  induction fs with
  | nil => cases h
  | cons x r ih =>
    obtain ⟨n', d', w⟩ := x
    unfold fget at h
    split at h
    · rename_i e; cases h; obtain ⟨rfl, rfl⟩ := e; exact List.mem_cons_self ..
    · exact List.mem_cons_of_mem _ (ih h)
def fgt (fs : List (String × String × Value)) (n d : String) (f : Value → Prop) : Prop := onSome (fget fs n d) f
theorem fgt_c {n n' d d' : String} {v : Value} {r : List (String × String × Value)} {f : Value → Prop} : fgt ((n', d', v) :: r) n d f = if n = n' ∧ d = d' then f v else fgt r n d f := by
  unfold fgt
  rw [fget]
  split <;> rfl
theorem nar_bb {x : Int32} : nar .byte (nar .byte x) = nar .byte x := by simp [nar]
theorem nar_cc {x : Int32} : nar .char (nar .char x) = nar .char x := by simp only [nar, UInt32.toUInt32_toInt32, UInt16.toUInt16_toUInt32]
theorem nar_b0 : nar .boolean 0 = 0 := by decide
theorem nar_b1 : nar .boolean 1 = 1 := by decide
theorem i32_nl {x y : Int32} (h : x < y) : (x = y) = False := eq_false fun e => by subst e; exact Int32.lt_irrefl h
theorem i32_ng {x y : Int32} (h : y < x) : (x = y) = False := eq_false fun e => by subst e; exact Int32.lt_irrefl h
theorem i64_nl {x y : Int64} (h : x < y) : (x = y) = False := eq_false fun e => by subst e; exact Int64.lt_irrefl h
theorem i64_ng {x y : Int64} (h : y < x) : (x = y) = False := eq_false fun e => by subst e; exact Int64.lt_irrefl h
theorem cmpL_lt {x y : Int64} : (XT.cmpL x y < 0) = (x < y) := by
  have h1 := @Int64.lt_iff_toInt_lt x y
  have h2 := @Int64.lt_iff_toInt_lt y x
  have h3 : x = y ↔ x.toInt = y.toInt := Int64.toInt_inj.symm
  unfold XT.cmpL
  split
  · rw [show ((1 : Int32) < 0) = False by decide]; simp only [h1, h2, h3] at *; exact propext ⟨False.elim, fun _ => by omega⟩
  · split
    · rw [show ((0 : Int32) < 0) = False by decide]; simp only [h1, h2, h3] at *; exact propext ⟨False.elim, fun _ => by omega⟩
    · rw [show ((-1 : Int32) < 0) = True by decide]; simp only [h1, h2, h3] at *; exact propext ⟨fun _ => by omega, fun _ => trivial⟩
theorem cmpL_gt {x y : Int64} : (0 < XT.cmpL x y) = (y < x) := by
  have h1 := @Int64.lt_iff_toInt_lt x y
  have h2 := @Int64.lt_iff_toInt_lt y x
  have h3 : x = y ↔ x.toInt = y.toInt := Int64.toInt_inj.symm
  unfold XT.cmpL
  split
  · rw [show ((0 : Int32) < 1) = True by decide]; simp only [h1, h2, h3] at *; exact propext ⟨fun _ => by omega, fun _ => trivial⟩
  · split
    · rw [show ((0 : Int32) < 0) = False by decide]; simp only [h1, h2, h3] at *; exact propext ⟨False.elim, fun _ => by omega⟩
    · rw [show ((0 : Int32) < -1) = False by decide]; simp only [h1, h2, h3] at *; exact propext ⟨False.elim, fun _ => by omega⟩
theorem cmpL_eq {x y : Int64} : (XT.cmpL x y = 0) = (x = y) := by
  have h1 := @Int64.lt_iff_toInt_lt x y
  have h2 := @Int64.lt_iff_toInt_lt y x
  have h3 : x = y ↔ x.toInt = y.toInt := Int64.toInt_inj.symm
  unfold XT.cmpL
  split
  · rw [show ((1 : Int32) = 0) = False by decide]; simp only [h1, h2, h3] at *; exact propext ⟨False.elim, fun _ => by omega⟩
  · split
    · rename_i q; rw [show ((0 : Int32) = 0) = True by decide]; exact propext ⟨fun _ => q, fun _ => trivial⟩
    · rename_i q; rw [show ((-1 : Int32) = 0) = False by decide]; exact propext ⟨False.elim, fun z => absurd z q⟩
def fset (fs : List (String × String × Value)) (n : String) (v : Value) : List (String × String × Value) := match fs with
  | [] => []
  | (n', d', w) :: r => if n' = n then (n', d', v) :: fset r n v else (n', d', w) :: fset r n v
theorem fset_mem {fs : List (String × String × Value)} {n : String} {v : Value} {f : String × String × Value} (h : f ∈ fset fs n v) : (f.1 = n ∧ f.2.2 = v ∧ ∃ w, (f.1, f.2.1, w) ∈ fs) ∨ (f.1 ≠ n ∧ f ∈ fs) := by
  induction fs with
  | nil => cases h
  | cons x r ih =>
    obtain ⟨n', d', w⟩ := x
    unfold fset at h
    split at h
    · rename_i e
      rcases List.mem_cons.mp h with rfl | h
      · exact Or.inl ⟨e, rfl, w, List.mem_cons_self ..⟩
      · rcases ih h with ⟨q1, q2, w', q3⟩ | ⟨q1, q2⟩
        · exact Or.inl ⟨q1, q2, w', List.mem_cons_of_mem _ q3⟩
        · exact Or.inr ⟨q1, List.mem_cons_of_mem _ q2⟩
    · rename_i e
      rcases List.mem_cons.mp h with rfl | h
      · exact Or.inr ⟨e, List.mem_cons_self ..⟩
      · rcases ih h with ⟨q1, q2, w', q3⟩ | ⟨q1, q2⟩
        · exact Or.inl ⟨q1, q2, w', List.mem_cons_of_mem _ q3⟩
        · exact Or.inr ⟨q1, List.mem_cons_of_mem _ q2⟩
def fst (fs : List (String × String × Value)) (n : String) (v : Value) (f : List (String × String × Value) → Prop) : Prop := f (fset fs n v)
theorem fst_n {n : String} {v : Value} {f : List (String × String × Value) → Prop} : fst [] n v f = f [] := propext Iff.rfl
theorem fst_c {n n' d : String} {v w : Value} {r : List (String × String × Value)} {f : List (String × String × Value) → Prop} : fst ((n', d, w) :: r) n v f = if n' = n then fst r n v fun l => f ((n', d, v) :: l) else fst r n v fun l => f ((n', d, w) :: l) := by
  unfold fst
  rw [fset]
  split <;> rfl
theorem LaidAll.set {Z : State} {C n : String} {v : Value} {fs : List (String × String × Value)} (h : LaidAll Z C fs) : LaidAll Z C (fset fs n v) := by
  obtain ⟨a0, h⟩ := h
  have key : ∀ f ∈ fset fs n v, ∃ w, (f.1, f.2.1, w) ∈ fs := fun f hf => by
    rcases fset_mem hf with ⟨-, -, w, q⟩ | ⟨-, q⟩
    · exact ⟨w, q⟩
    · exact ⟨f.2.2, q⟩
  refine ⟨a0, fun f hf => ?_⟩
  obtain ⟨w, q⟩ := key f hf
  obtain ⟨h1, h2, h3⟩ := h _ q
  refine ⟨h1, h2, fun g hg e => ?_⟩
  obtain ⟨w', q'⟩ := key g hg
  exact h3 (g.1, g.2.1, w') q' e
section Objs
variable {code : ByteArray} {own nm : String} {maxL : Nat} {ret : Option FieldType} {R : Room} {W : List Jvm.Cond} {l : Launch} {Z : State} {b : Heap} {rc rs : Nat} {K : Option Value → List Cel → Prop}
variable {pc : Nat} {ls : List Slot} {st : List Value} {H : List Cel} {cN sN : Nat}
/-- what the sheet's words say of a class that is made: its fields at their first values -/
def NewOk (W : List Jvm.Cond) (own : String) (idx : Nat) (C : String) (n : Nat) (fs : List (String × String × Value)) : Prop :=
  Jvm.Cond.classLink own idx C ∈ W ∧ Jvm.Cond.instantiable C n ∈ W ∧ Jvm.Cond.initialized C ∈ W ∧ ∀ f ∈ fs, (Jvm.Cond.lays C C f.1 f.2.1 ∈ W ∨ Jvm.Cond.laysFinal C C f.1 f.2.1 ∈ W) ∧ (∃ ty, parseFieldDescriptor f.2.1 = some ty ∧ f.2.2 = defaultValue ty) ∧ ∀ f' ∈ fs, f'.1 = f.1 → f'.2.1 = f.2.1
theorem G.new {idx n : Nat} {C : String} {fs : List (String × String × Value)} (hN : NewOk W own idx C n fs)
    (hd : decode code pc = .ok (.new idx, 3)) (hc1 : cN + 1 ≤ R.cells) (hs1 : sN + n ≤ R.slots)
    (k : G code own nm maxL ret R W l Z b rc rs K (pc + 3) ls (.ref (ad b.size H.length) :: st) (H ++ [.inr (C, fs)]) (cN + 1) (sN + n)) : G code own nm maxL ret R W l Z b rc rs K pc ls st H cN sN := by
  obtain ⟨w1, w2, w3, hfs⟩ := hN
  refine G.move (fun p e s m args below meth c T locs a0 hx hc hm hn hZ ho hw X hF hR => ?_) k
  obtain ⟨vm', cC, kC, h1, h2, h3, h4, X', sp⟩ := X.newCold hx ho (mv hZ (hw _ w1)) (mv hZ (hw _ w2)) (mv hZ (hw _ w3)) (g := mkF m pc ls.toArray st) rfl (hb hc hd) hc1 hs1
  have ea : ad b.size H.length = T.heap.size := by rw [hR.1]; rfl
  rw [hZ.alike.findClass] at h1
  obtain ⟨kZ, z1, -⟩ := Vm.findClass_spec h1
  obtain ⟨k', z2, z3⟩ := hZ.alike.2.2 _ _ z1
  cases h2.symm.trans z2
  have ei : kC.instanceTypes = kZ.instanceTypes := by rw [z3]
  have hN : (T.heap.push { cls := cC, slots := kC.instanceTypes.map defaultValue, vm := .none })[T.heap.size]? = some { cls := cC, slots := kC.instanceTypes.map defaultValue, vm := .none } := by simp
  refine ⟨_, _, X', hF, hR.push (h' := T.heap.push { cls := cC, slots := kC.instanceTypes.map defaultValue, vm := .none }) ⟨by simp, fun a c h => ?_⟩ (by simp) ⟨⟨_, kZ, hN, h1, z1, rfl, fun _ => by simp [ei]⟩, fun f hf => ?_, a0, fun f hf => ?_⟩, by rw [ea]; exact sp⟩
  · rw [Array.getElem?_push_lt (Array.getElem?_eq_some_iff.mp h).1]; exact (Array.getElem?_eq_getElem _).symm.trans h
  · obtain ⟨L, ⟨ty, ht, hv⟩, -⟩ := hfs f hf
    obtain ⟨c1, k1, cf, kf, i, fl, a1, a2, a3, a4, a5, a6, -⟩ := Laid.spec (a0 := a0) (L.imp (hw _) (hw _))
    cases h1.symm.trans a1
    cases z1.symm.trans a2
    rw [hv]
    exact ⟨_, cf, kf, i, fl, hN, a3, a4, by simp, rfl, a5, by simp [ei, a6, (State.fieldFound?_type a3 ht).2]⟩
  · obtain ⟨L, ⟨ty, ht, hv⟩, u⟩ := hfs f hf
    exact ⟨L.imp (hw _) (hw _), ⟨ty, ht⟩, u⟩
/-- what the sheet's words say of a field that is written here -/
def PutOk (W : List Jvm.Cond) (own nm : String) (idx : Nat) (C n d : String) (ty : FieldType) : Prop :=
  Jvm.Cond.fieldLink own idx C n d ∈ W ∧ (Jvm.Cond.lays C C n d ∈ W ∨ (Jvm.Cond.laysFinal C C n d ∈ W ∧ own = C ∧ nm = "<init>")) ∧ (∃ kk, Jvm.Cond.instantiable C kk ∈ W) ∧ parseFieldDescriptor d = some ty
theorem G.putf {idx i : Nat} {C n d : String} {ty : FieldType} {v v' old : Value} {fs : List (String × String × Value)} {rest : List Value} (hP : PutOk W own nm idx C n d ty) (hn : narrow ty v = v') (hft : fits ty v' = true)
    (hd : decode code pc = .ok (.putfield idx, 3)) (hi : H[i]? = some (.inr (C, fs))) (hg : fget fs n d = some old)
    (k : G code own nm maxL ret R W l Z b rc rs K (pc + 3) ls rest (H.set i (.inr (C, fset fs n v'))) cN sN) : G code own nm maxL ret R W l Z b rc rs K pc ls (v :: .ref (ad b.size i) :: rest) H cN sN := by
  obtain ⟨w1, wl, ⟨kk, wi⟩, hty⟩ := hP
  refine G.move (fun p e s m args below meth c T locs a0 hx hc hm hnm hZ ho hw X hF hR => ?_) k
  obtain ⟨E, F, LA⟩ := hR.2 _ _ hi
  obtain ⟨T', h', X', e2, Wt, sp⟩ := putFN X hx hZ ho (hw _ w1) Via.refl rfl (F _ (fget_mem hg)) E (wl.imp (hw _) fun q => ⟨hw _ q.1, q.2.1, hnm.trans q.2.2⟩) (hw _ wi) hty hn hft (g := mkF m pc ls.toArray (v :: .ref (ad b.size i) :: rest)) rfl rfl (hb hc hd)
  refine ⟨T', _, X', hF.app (fun y hy => by cases List.mem_singleton.mp hy; exact Nat.le_add_right _ _), ?_, sp⟩
  rw [e2]
  refine hR.set Wt ⟨E.wr Wt, fun f hf => ?_, LA.set⟩
  obtain ⟨a1, hall⟩ := LA
  obtain ⟨L2, -, un⟩ := hall _ (fget_mem hg)
  rcases fset_mem hf with ⟨q1, q2, w, q3⟩ | ⟨q1, q2⟩
  · have qd : f.2.1 = d := un (f.1, f.2.1, w) q3 q1
    have := F _ q3
    rw [q1, q2, qd]
    simp only [q1, qd] at this
    exact this.same Wt
  · obtain ⟨L1, ⟨ty1, t1⟩, -⟩ := hall _ q2
    exact (F _ q2).other Wt (Or.inr (slot_ne (a0 := a1) (C := C) L1 L2 q1 t1 hty))
end Objs
section New
variable {p : Program} {l : Launch} {e : Env} {R : Room} {s : State} {m : MethodId} {args : Array Value} {below : List Frame} {meth : Method} {c : Code} {T : State} {locs : List Loc} {cells slots : Nat}
theorem retI (X : Stand p l e R s m args below meth c T locs cells slots) (hx : p.tables.exec = Jvm.exec) {pc : Nat} {Ls : Array Slot} {z : Int32} {rest : List Value} (hret : meth.sig.returnType = some .int) (hd : decode c.code pc = .ok (.ireturn, 1)) {fs : List Frame}
    (hl : ∀ (f : JFrame) (acts : List Action), f.method = m → f.locked = none → f.entered = [] → (doReturn e (T.setTop f) acts (some (.int z))).1 = T.setFrames fs) : Steps p.tables e below (T.setTop (mkF m pc Ls (.int z :: rest))) (T.setFrames fs) :=
  retOut X hx hret rfl (Or.inl ⟨rfl, Or.inl rfl, _, rfl⟩) hd hl
theorem newA_step {Z : State} {b : Heap} {a0 : Array Value} {H : List Cel} {t : ArrayType} {pc : Nat} {ls : List Slot} {n : Int32} {r : List Value} (X : Stand p l e R s m args below meth c T locs cells slots) (hx : p.tables.exec = Jvm.exec) (hZ : Z.Warmed39 s.vm) (w : (Jvm.Cond.arrayClass (newarray.typeOf t)).before a0 Z = true) (hF : Fr b.size locs) (hR : Rep Z b T.heap H)
    (hd : decode c.code pc = .ok (.newarray t, 2)) (hn : ¬ n < 0) (hcap : n.toNatClampNeg ≤ 65536) (hc : cells + 1 ≤ R.cells) (hs : slots + n.toNatClampNeg ≤ R.slots) :
    ∃ T' locs', Stand p l e R s m args below meth c T' locs' (cells + 1) (slots + n.toNatClampNeg) ∧ Fr b.size locs' ∧ Rep Z b T'.heap (H ++ [.inl (newarray.typeOf t, List.replicate n.toNatClampNeg (defaultValue (newarray.typeOf t)))]) ∧
      ∀ target, Steps p.tables e below (T'.setTop (mkF m (pc + 2) ls.toArray (.ref (ad b.size H.length) :: r))) target → Steps p.tables e below (T.setTop (mkF m pc ls.toArray (.int n :: r))) target := by
  have hcb : componentBytes (newarray.typeOf t) ≤ 8 := by cases t <;> decide
  obtain ⟨cA, kA, comp, h1, h2, h3, X', sp⟩ := X.newarrayPrim hx (mvA hZ w) (g := mkF m pc ls.toArray (.int n :: r)) rfl hd rfl hn (Nat.le_trans (Nat.mul_le_mul hcap hcb) (by decide)) hc hs
  rw [hZ.alike.findClass] at h1
  obtain ⟨kZ, z1, -⟩ := Vm.findClass_spec h1
  obtain ⟨k', z2, z3⟩ := hZ.alike.2.2 _ _ z1
  cases h2.symm.trans z2
  have ea : ad b.size H.length = T.heap.size := by rw [hR.1]; rfl
  refine ⟨_, _, X', hF, hR.push (h' := T.heap.push _) ⟨by simp, fun a c h => ?_⟩ (by simp) ⟨_, ⟨by simp; rfl, ⟨by simp, kZ, z1, comp, by rw [← h3, z3]⟩, by simp⟩, by simp⟩, by rw [ea]; exact sp⟩
  rw [Array.getElem?_push_lt (Array.getElem?_eq_some_iff.mp h).1]; exact (Array.getElem?_eq_getElem _).symm.trans h
end New
set_option maxHeartbeats 4000000 in
def W1 (CI : List (Nat × Int32)) (CL : List (Nat × Int64)) (FL : List (Nat × String × String × String)) (AL : List FieldType) (PL : List (Nat × String × String × String × FieldType)) (NL : List (Nat × String × Nat × List (String × String × Value))) (ret : Option FieldType) (R : Room) (n0 rc rs : Nat) (K : Option Value → List Cel → Prop) (g : Cont) (i : Instr) (pc : Nat) (ls : List Slot) (st : List Value) (H : List Cel) (cN sN : Nat) (k : Cont) : Prop := match i with
  | .iload_n j => ldI ls j.val fun v => k (pc + 1) ls (.int v :: st) H cN sN
  | .iload j => ldI ls j fun v => k (pc + 2) ls (.int v :: st) H cN sN
  | .lload_n j => ldJ ls j.val fun v => k (pc + 1) ls (.long v :: st) H cN sN
  | .lload j => ldJ ls j fun v => k (pc + 2) ls (.long v :: st) H cN sN
  | .aload_n j => ldA ls j.val fun v => k (pc + 1) ls (v :: st) H cN sN
  | .aload j => ldA ls j fun v => k (pc + 2) ls (v :: st) H cN sN
  | .istore_n j => popI st fun v r => sto1 ls j.val (.int v) fun l' => k (pc + 1) l' r H cN sN
  | .istore j => popI st fun v r => sto1 ls j (.int v) fun l' => k (pc + 2) l' r H cN sN
  | .lstore_n j => popJ st fun v r => sto2 ls j.val (.long v) fun l' => k (pc + 1) l' r H cN sN
  | .lstore j => popJ st fun v r => sto2 ls j (.long v) fun l' => k (pc + 2) l' r H cN sN
  | .astore_n j => popA st fun v r => sto1 ls j.val v fun l' => k (pc + 1) l' r H cN sN
  | .astore j => popA st fun v r => sto1 ls j v fun l' => k (pc + 2) l' r H cN sN
  | .iconst i => k (pc + 1) ls (.int (Int32.ofInt i) :: st) H cN sN
  | .lconst i => k (pc + 1) ls (.long (Int64.ofNat i) :: st) H cN sN
  | .bipush i => k (pc + 2) ls (.int (Int8.ofInt i).toInt32 :: st) H cN sN
  | .sipush i => k (pc + 3) ls (.int (Int16.ofInt i).toInt32 :: st) H cN sN
  | .aconst_null => k (pc + 1) ls (.null :: st) H cN sN
  | .ldc i => onSome (look CI i) fun v => k (pc + 2) ls (.int v :: st) H cN sN
  | .ldc2_w i => onSome (look CL i) fun v => k (pc + 3) ls (.long v :: st) H cN sN
  | .iadd => popI st fun y r => popI r fun x r => k (pc + 1) ls (.int (x + y) :: r) H cN sN
  | .isub => popI st fun y r => popI r fun x r => k (pc + 1) ls (.int (x - y) :: r) H cN sN
  | .imul => popI st fun y r => popI r fun x r => k (pc + 1) ls (.int (x * y) :: r) H cN sN
  | .iand => popI st fun y r => popI r fun x r => k (pc + 1) ls (.int (x &&& y) :: r) H cN sN
  | .ior => popI st fun y r => popI r fun x r => k (pc + 1) ls (.int (x ||| y) :: r) H cN sN
  | .ixor => popI st fun y r => popI r fun x r => k (pc + 1) ls (.int (x ^^^ y) :: r) H cN sN
  | .ishl => popI st fun y r => popI r fun x r => k (pc + 1) ls (.int (x <<< (y &&& 31)) :: r) H cN sN
  | .ishr => popI st fun y r => popI r fun x r => k (pc + 1) ls (.int (x >>> (y &&& 31)) :: r) H cN sN
  | .iushr => popI st fun y r => popI r fun x r => k (pc + 1) ls (.int (XT.ushr x y) :: r) H cN sN
  | .idiv => popI st fun y r => popI r fun x r => y ≠ 0 ∧ k (pc + 1) ls (.int (x / y) :: r) H cN sN
  | .irem => popI st fun y r => popI r fun x r => y ≠ 0 ∧ k (pc + 1) ls (.int (remI x y) :: r) H cN sN
  | .ladd => popJ st fun y r => popJ r fun x r => k (pc + 1) ls (.long (x + y) :: r) H cN sN
  | .lsub => popJ st fun y r => popJ r fun x r => k (pc + 1) ls (.long (x - y) :: r) H cN sN
  | .lmul => popJ st fun y r => popJ r fun x r => k (pc + 1) ls (.long (x * y) :: r) H cN sN
  | .land => popJ st fun y r => popJ r fun x r => k (pc + 1) ls (.long (x &&& y) :: r) H cN sN
  | .lor => popJ st fun y r => popJ r fun x r => k (pc + 1) ls (.long (x ||| y) :: r) H cN sN
  | .lxor => popJ st fun y r => popJ r fun x r => k (pc + 1) ls (.long (x ^^^ y) :: r) H cN sN
  | .ldiv => popJ st fun y r => popJ r fun x r => y ≠ 0 ∧ k (pc + 1) ls (.long (x / y) :: r) H cN sN
  | .lrem => popJ st fun y r => popJ r fun x r => y ≠ 0 ∧ k (pc + 1) ls (.long (remJ x y) :: r) H cN sN
  | .lshl => popI st fun y r => popJ r fun x r => k (pc + 1) ls (.long (x <<< (y.toInt64 &&& 63)) :: r) H cN sN
  | .lshr => popI st fun y r => popJ r fun x r => k (pc + 1) ls (.long (x >>> (y.toInt64 &&& 63)) :: r) H cN sN
  | .lushr => popI st fun y r => popJ r fun x r => k (pc + 1) ls (.long (XT.ushrL x y) :: r) H cN sN
  | .lcmp => popJ st fun y r => popJ r fun x r => k (pc + 1) ls (.int (XT.cmpL x y) :: r) H cN sN
  | .i2l => popI st fun x r => k (pc + 1) ls (.long (x.toInt64) :: r) H cN sN
  | .l2i => popJ st fun x r => k (pc + 1) ls (.int (x.toInt32) :: r) H cN sN
  | .i2b => popI st fun x r => k (pc + 1) ls (.int (nar .byte x) :: r) H cN sN
  | .i2c => popI st fun x r => k (pc + 1) ls (.int (nar .char x) :: r) H cN sN
  | .i2s => popI st fun x r => k (pc + 1) ls (.int (nar .short x) :: r) H cN sN
  | .ineg => popI st fun x r => k (pc + 1) ls (.int (-x) :: r) H cN sN
  | .dup => pop1 st fun x r => k (pc + 1) ls (x :: x :: r) H cN sN
  | .pop => pop1 st fun x r => k (pc + 1) ls r H cN sN
  | .dup_x1 => pop1 st fun x r => pop1 r fun y r => k (pc + 1) ls (x :: y :: x :: r) H cN sN
  | .iinc j i => ldI ls j fun v => setL ls j (.val (.int (v + Int32.ofInt i))) fun l' => k (pc + 3) l' st H cN sN
  | .goto o => tgt pc o fun t => k (t) ls st H cN sN
  | .ifCond .eq o => popI st fun x r => if x = 0 then (tgt pc o fun t => k (t) ls r H cN sN) else (k (pc + 3) ls r H cN sN)
  | .ifCond .ne o => popI st fun x r => if x = 0 then (k (pc + 3) ls r H cN sN) else (tgt pc o fun t => k (t) ls r H cN sN)
  | .ifCond .lt o => popI st fun x r => if x < 0 then (tgt pc o fun t => k (t) ls r H cN sN) else (k (pc + 3) ls r H cN sN)
  | .ifCond .ge o => popI st fun x r => if x < 0 then (k (pc + 3) ls r H cN sN) else (tgt pc o fun t => k (t) ls r H cN sN)
  | .ifCond .gt o => popI st fun x r => if 0 < x then (tgt pc o fun t => k (t) ls r H cN sN) else (k (pc + 3) ls r H cN sN)
  | .ifCond .le o => popI st fun x r => if 0 < x then (k (pc + 3) ls r H cN sN) else (tgt pc o fun t => k (t) ls r H cN sN)
  | .if_icmp .eq o => popI st fun y r => popI r fun x r => if x = y then (tgt pc o fun t => k (t) ls r H cN sN) else (k (pc + 3) ls r H cN sN)
  | .if_icmp .ne o => popI st fun y r => popI r fun x r => if x = y then (k (pc + 3) ls r H cN sN) else (tgt pc o fun t => k (t) ls r H cN sN)
  | .if_icmp .lt o => popI st fun y r => popI r fun x r => if x < y then (tgt pc o fun t => k (t) ls r H cN sN) else (k (pc + 3) ls r H cN sN)
  | .if_icmp .ge o => popI st fun y r => popI r fun x r => if x < y then (k (pc + 3) ls r H cN sN) else (tgt pc o fun t => k (t) ls r H cN sN)
  | .if_icmp .gt o => popI st fun y r => popI r fun x r => if y < x then (tgt pc o fun t => k (t) ls r H cN sN) else (k (pc + 3) ls r H cN sN)
  | .if_icmp .le o => popI st fun y r => popI r fun x r => if y < x then (k (pc + 3) ls r H cN sN) else (tgt pc o fun t => k (t) ls r H cN sN)
  | .ifnull o => match st with | .null :: r => tgt pc o fun t => k (t) ls r H cN sN | .ref _ :: r => k (pc + 3) ls r H cN sN | _ => False
  | .ifnonnull o => match st with | .null :: r => k (pc + 3) ls r H cN sN | .ref _ :: r => tgt pc o fun t => k (t) ls r H cN sN | _ => False
  | .arraylength => popR st fun a r => arr H n0 a fun i ty vs => k (pc + 1) ls (.int (Int32.ofNat vs.length) :: r) H cN sN
  | .baload => popI st fun j r => popR r fun a r => arr H n0 a fun i ty vs => if ty = .byte then idx vs j fun v => k (pc + 1) ls (v :: r) H cN sN else False
  | .caload => popI st fun j r => popR r fun a r => arr H n0 a fun i ty vs => if ty = .char then idx vs j fun v => k (pc + 1) ls (v :: r) H cN sN else False
  | .iaload => popI st fun j r => popR r fun a r => arr H n0 a fun i ty vs => if ty = .int then idx vs j fun v => k (pc + 1) ls (v :: r) H cN sN else False
  | .laload => popI st fun j r => popR r fun a r => arr H n0 a fun i ty vs => if ty = .long then idx vs j fun v => k (pc + 1) ls (v :: r) H cN sN else False
  | .bastore => popI st fun x r => popI r fun j r => popR r fun a r => arr H n0 a fun i ty vs => if ty = .byte then idx vs j fun _ => setN vs j.toNatClampNeg (.int (nar .byte x)) fun vs' => setH H i (.inl (.byte, vs')) fun H' => k (pc + 1) ls r H' cN sN else False
  | .castore => popI st fun x r => popI r fun j r => popR r fun a r => arr H n0 a fun i ty vs => if ty = .char then idx vs j fun _ => setN vs j.toNatClampNeg (.int (nar .char x)) fun vs' => setH H i (.inl (.char, vs')) fun H' => k (pc + 1) ls r H' cN sN else False
  | .iastore => popI st fun x r => popI r fun j r => popR r fun a r => arr H n0 a fun i ty vs => if ty = .int then idx vs j fun _ => setN vs j.toNatClampNeg (.int x) fun vs' => setH H i (.inl (.int, vs')) fun H' => k (pc + 1) ls r H' cN sN else False
  | .lastore => popJ st fun x r => popI r fun j r => popR r fun a r => arr H n0 a fun i ty vs => if ty = .long then idx vs j fun _ => setN vs j.toNatClampNeg (.long x) fun vs' => setH H i (.inl (.long, vs')) fun H' => k (pc + 1) ls r H' cN sN else False
  | .newarray t => popI st fun n r => if ¬ n < 0 ∧ newarray.typeOf t ∈ AL ∧ n.toNatClampNeg ≤ 65536 ∧ cN + 1 ≤ R.cells ∧ sN + n.toNatClampNeg ≤ R.slots then onLen H fun i => repN n.toNatClampNeg (defaultValue (newarray.typeOf t)) fun vs => snoc H (.inl (newarray.typeOf t, vs)) fun H' => k (pc + 2) ls (.ref (ad n0 i) :: r) H' (cN + 1) (sN + n.toNatClampNeg) else False
  | .ireturn => popI st fun x r => if cN ≤ rc ∧ sN ≤ rs then (match ret with | some .int => K (some (.int x)) H | some .boolean => K (some (.int (nar .boolean x))) H | some .byte => K (some (.int (nar .byte x))) H | some .char => K (some (.int (nar .char x))) H | some .short => K (some (.int (nar .short x))) H | _ => False) else False
  | .lreturn => popJ st fun x r => if cN ≤ rc ∧ sN ≤ rs ∧ r = [] ∧ ret = some .long then K (some (.long x)) H else False
  | .areturn => popR st fun x r => if cN ≤ rc ∧ sN ≤ rs ∧ ret = some (.array .byte) then K (some (.ref x)) H else False
  | .return_ => if cN ≤ rc ∧ sN ≤ rs ∧ ret = none ∧ st = [] then K none H else False
  | .getfield j => popR st fun a r => onSome (look FL j) fun q => obj H n0 a fun i C fs => if C = q.1 then fgt fs q.2.1 q.2.2 fun v => k (pc + 3) ls (v :: r) H cN sN else False
  | .new j => onSome (look NL j) fun q => if cN + 1 ≤ R.cells ∧ sN + q.2.1 ≤ R.slots then onLen H fun i => snoc H (.inr (q.1, q.2.2)) fun H' => k (pc + 3) ls (.ref (ad n0 i) :: st) H' (cN + 1) (sN + q.2.1) else False
  | .putfield j => onSome (look PL j) fun q => match q.2.2.2 with | .long => popJ st fun x r => popR r fun a r => obj H n0 a fun i C fs => if C = q.1 then fgt fs q.2.1 q.2.2.1 fun _ => fst fs q.2.1 (.long x) fun fs' => setH H i (.inr (C, fs')) fun H' => k (pc + 3) ls r H' cN sN else False | .int => popI st fun x r => popR r fun a r => obj H n0 a fun i C fs => if C = q.1 then fgt fs q.2.1 q.2.2.1 fun _ => fst fs q.2.1 (.int x) fun fs' => setH H i (.inr (C, fs')) fun H' => k (pc + 3) ls r H' cN sN else False | .boolean => popI st fun x r => popR r fun a r => obj H n0 a fun i C fs => if C = q.1 then fgt fs q.2.1 q.2.2.1 fun _ => fst fs q.2.1 (.int (nar .boolean x)) fun fs' => setH H i (.inr (C, fs')) fun H' => k (pc + 3) ls r H' cN sN else False | .object _ => popA st fun x r => popR r fun a r => obj H n0 a fun i C fs => if C = q.1 then fgt fs q.2.1 q.2.2.1 fun _ => fst fs q.2.1 (x) fun fs' => setH H i (.inr (C, fs')) fun H' => k (pc + 3) ls r H' cN sN else False | .array _ => popA st fun x r => popR r fun a r => obj H n0 a fun i C fs => if C = q.1 then fgt fs q.2.1 q.2.2.1 fun _ => fst fs q.2.1 (x) fun fs' => setH H i (.inr (C, fs')) fun H' => k (pc + 3) ls r H' cN sN else False | _ => False
  | _ => g pc ls st H cN sN
/-- n steps from here -/
def Wn (S : List Nat) (code : ByteArray) (CI : List (Nat × Int32)) (CL : List (Nat × Int64)) (FL : List (Nat × String × String × String)) (AL : List FieldType) (PL : List (Nat × String × String × String × FieldType)) (NL : List (Nat × String × Nat × List (String × String × Value))) (ret : Option FieldType) (R : Room) (n0 rc rs : Nat) (K : Option Value → List Cel → Prop) (g : Cont) : Nat → Cont
  | 0 => g
  | n + 1 => fun pc ls st H cN sN => if pc ∈ S then g pc ls st H cN sN else onSome (at1 code pc) fun i => W1 CI CL FL AL PL NL ret R n0 rc rs K g i pc ls st H cN sN (Wn S code CI CL FL AL PL NL ret R n0 rc rs K g n)

section Sound
variable {code : ByteArray} {own nm : String} {maxL : Nat} {ret : Option FieldType} {R : Room} {W : List Jvm.Cond} {l : Launch} {Z : State} {b : Heap} {rc rs : Nat} {K : Option Value → List Cel → Prop}
variable {CI : List (Nat × Int32)} {CL : List (Nat × Int64)} {FL : List (Nat × String × String × String)} {AL : List FieldType} {PL : List (Nat × String × String × String × FieldType)} {NL : List (Nat × String × Nat × List (String × String × Value))}
set_option maxHeartbeats 40000000 in
theorem W1_sound (hCI : ∀ x ∈ CI, Jvm.Cond.constant own x.1 x.2 ∈ W) (hCL : ∀ x ∈ CL, Jvm.Cond.constantLong own x.1 x.2 ∈ W) (hFL : ∀ x ∈ FL, Jvm.Cond.fieldLink own x.1 x.2.1 x.2.2.1 x.2.2.2 ∈ W) (hAL : ∀ x ∈ AL, Jvm.Cond.arrayClass x ∈ W) (hPL : ∀ x ∈ PL, PutOk W own nm x.1 x.2.1 x.2.2.1 x.2.2.2.1 x.2.2.2.2) (hNL : ∀ x ∈ NL, NewOk W own x.1 x.2.1 x.2.2.1 x.2.2.2) {i : Instr} {pc : Nat} {ls : List Slot} {st : List Value} {H : List Cel} {cN sN : Nat} {k : Cont}
    (hd0 : decode code pc = .ok (i, ilen i)) (hoff : 0 ≤ (pc : Int) + off i) (hk : ∀ pc ls st H cN sN, k pc ls st H cN sN → G code own nm maxL ret R W l Z b rc rs K pc ls st H cN sN)
    (h : W1 CI CL FL AL PL NL ret R b.size rc rs K (G code own nm maxL ret R W l Z b rc rs K) i pc ls st H cN sN k) : G code own nm maxL ret R W l Z b rc rs K pc ls st H cN sN := by
  unfold W1 at h
  split at h
  · have hd := hd0; simp only [ilen] at hd; have hh := ldI_e h; clear h; obtain ⟨v, q, h⟩ := hh; exact G.pure (fun p e s m args below meth c T locs a0 hx hc hZ ho hw X hR tg hs => XS.iloadN X.here hx rfl (hb hc hd) (by simpa using q) hs) (hk _ _ _ _ _ _ h)
  · have hd := hd0; simp only [ilen] at hd; have hh := ldI_e h; clear h; obtain ⟨v, q, h⟩ := hh; exact G.pure (fun p e s m args below meth c T locs a0 hx hc hZ ho hw X hR tg hs => XS.iload X.here hx rfl (hb hc hd) (by simpa using q) hs) (hk _ _ _ _ _ _ h)
  · have hd := hd0; simp only [ilen] at hd; have hh := ldJ_e h; clear h; obtain ⟨v, q, h⟩ := hh; exact G.pure (fun p e s m args below meth c T locs a0 hx hc hZ ho hw X hR tg hs => XT.lloadN X.here hx rfl (hb hc hd) (by simpa using q) hs) (hk _ _ _ _ _ _ h)
  · have hd := hd0; simp only [ilen] at hd; have hh := ldJ_e h; clear h; obtain ⟨v, q, h⟩ := hh; exact G.pure (fun p e s m args below meth c T locs a0 hx hc hZ ho hw X hR tg hs => XT.lload X.here hx rfl (hb hc hd) (by simpa using q) hs) (hk _ _ _ _ _ _ h)
  · have hd := hd0; simp only [ilen] at hd; have hh := ldA_e h; clear h; obtain ⟨v, q, hv, h⟩ := hh; exact G.pure (fun p e s m args below meth c T locs a0 hx hc hZ ho hw X hR tg hs => XS.aloadN X.here hx rfl (hb hc hd) (by simpa using q) hv hs) (hk _ _ _ _ _ _ h)
  · have hd := hd0; simp only [ilen] at hd; have hh := ldA_e h; clear h; obtain ⟨v, q, hv, h⟩ := hh; exact G.pure (fun p e s m args below meth c T locs a0 hx hc hZ ho hw X hR tg hs => XS.aload X.here hx rfl (hb hc hd) (by simpa using q) hv hs) (hk _ _ _ _ _ _ h)
  · have hd := hd0; simp only [ilen] at hd; have hh := popI_e h; clear h; obtain ⟨v, r, rfl, h⟩ := hh; have hh := sto1_e rfl h; clear h; obtain ⟨l', q, h⟩ := hh; exact G.pure (fun p e s m args below meth c T locs a0 hx hc hZ ho hw X hR tg hs => XS.istoreN X.here hx rfl (hb hc hd) rfl q hs) (hk _ _ _ _ _ _ h)
  · have hd := hd0; simp only [ilen] at hd; have hh := popI_e h; clear h; obtain ⟨v, r, rfl, h⟩ := hh; have hh := sto1_e rfl h; clear h; obtain ⟨l', q, h⟩ := hh; exact G.pure (fun p e s m args below meth c T locs a0 hx hc hZ ho hw X hR tg hs => XS.istore X.here hx rfl (hb hc hd) rfl q hs) (hk _ _ _ _ _ _ h)
  · have hd := hd0; simp only [ilen] at hd; have hh := popJ_e h; clear h; obtain ⟨v, r, rfl, h⟩ := hh; have hh := sto2_e rfl h; clear h; obtain ⟨l', q, h⟩ := hh; exact G.pure (fun p e s m args below meth c T locs a0 hx hc hZ ho hw X hR tg hs => XT.lstoreN X.here hx rfl (hb hc hd) rfl q hs) (hk _ _ _ _ _ _ h)
  · have hd := hd0; simp only [ilen] at hd; have hh := popJ_e h; clear h; obtain ⟨v, r, rfl, h⟩ := hh; have hh := sto2_e rfl h; clear h; obtain ⟨l', q, h⟩ := hh; exact G.pure (fun p e s m args below meth c T locs a0 hx hc hZ ho hw X hR tg hs => XT.lstore X.here hx rfl (hb hc hd) rfl q hs) (hk _ _ _ _ _ _ h)
  · have hd := hd0; simp only [ilen] at hd; have hh := popA_e h; clear h; obtain ⟨v, r, rfl, hv, hv1, h⟩ := hh; have hh := sto1_e hv1 h; clear h; obtain ⟨l', q, h⟩ := hh; exact G.pure (fun p e s m args below meth c T locs a0 hx hc hZ ho hw X hR tg hs => XS.astoreN X.here hx rfl (hb hc hd) rfl hv q hs) (hk _ _ _ _ _ _ h)
  · have hd := hd0; simp only [ilen] at hd; have hh := popA_e h; clear h; obtain ⟨v, r, rfl, hv, hv1, h⟩ := hh; have hh := sto1_e hv1 h; clear h; obtain ⟨l', q, h⟩ := hh; exact G.pure (fun p e s m args below meth c T locs a0 hx hc hZ ho hw X hR tg hs => XS.astore X.here hx rfl (hb hc hd) rfl hv q hs) (hk _ _ _ _ _ _ h)
  · have hd := hd0; simp only [ilen] at hd; exact G.pure (fun p e s m args below meth c T locs a0 hx hc hZ ho hw X hR tg hs => XS.iconst X.here hx rfl (hb hc hd) hs) (hk _ _ _ _ _ _ h)
  · have hd := hd0; simp only [ilen] at hd; exact G.pure (fun p e s m args below meth c T locs a0 hx hc hZ ho hw X hR tg hs => XT.lconst X.here hx rfl (hb hc hd) hs) (hk _ _ _ _ _ _ h)
  · have hd := hd0; simp only [ilen] at hd; exact G.pure (fun p e s m args below meth c T locs a0 hx hc hZ ho hw X hR tg hs => XS.bipush X.here hx rfl (hb hc hd) hs) (hk _ _ _ _ _ _ h)
  · have hd := hd0; simp only [ilen] at hd; exact G.pure (fun p e s m args below meth c T locs a0 hx hc hZ ho hw X hR tg hs => XS.sipush X.here hx rfl (hb hc hd) hs) (hk _ _ _ _ _ _ h)
  · have hd := hd0; simp only [ilen] at hd; exact G.pure (fun p e s m args below meth c T locs a0 hx hc hZ ho hw X hR tg hs => XS.aconstNull X.here hx rfl (hb hc hd) hs) (hk _ _ _ _ _ _ h)
  · have hd := hd0; simp only [ilen] at hd; have hh := onSome_e h; clear h; obtain ⟨v, q, h⟩ := hh; exact G.pure (fun p e s m args below meth c T locs a0 hx hc hZ ho hw X hR tg hs => X.ldcInt hx ho (mvT hZ (hw _ (hCI _ (look_mem q)))) (g := mkF m pc ls.toArray st) rfl (hb hc hd) _ hs) (hk _ _ _ _ _ _ h)
  · have hd := hd0; simp only [ilen] at hd; have hh := onSome_e h; clear h; obtain ⟨v, q, h⟩ := hh; exact G.pure (fun p e s m args below meth c T locs a0 hx hc hZ ho hw X hR tg hs => X.ldc2Long hx ho (mvT hZ (hw _ (hCL _ (look_mem q)))) (g := mkF m pc ls.toArray st) rfl (hb hc hd) _ hs) (hk _ _ _ _ _ _ h)
  · have hd := hd0; simp only [ilen] at hd; have hh := popI_e h; clear h; obtain ⟨y, r, rfl, h⟩ := hh; have hh := popI_e h; clear h; obtain ⟨x, r, rfl, h⟩ := hh; exact G.pure (fun p e s m args below meth c T locs a0 hx hc hZ ho hw X hR tg hs => XS.iadd X.here hx rfl (hb hc hd) rfl hs) (hk _ _ _ _ _ _ h)
  · have hd := hd0; simp only [ilen] at hd; have hh := popI_e h; clear h; obtain ⟨y, r, rfl, h⟩ := hh; have hh := popI_e h; clear h; obtain ⟨x, r, rfl, h⟩ := hh; exact G.pure (fun p e s m args below meth c T locs a0 hx hc hZ ho hw X hR tg hs => XS.isub X.here hx rfl (hb hc hd) rfl hs) (hk _ _ _ _ _ _ h)
  · have hd := hd0; simp only [ilen] at hd; have hh := popI_e h; clear h; obtain ⟨y, r, rfl, h⟩ := hh; have hh := popI_e h; clear h; obtain ⟨x, r, rfl, h⟩ := hh; exact G.pure (fun p e s m args below meth c T locs a0 hx hc hZ ho hw X hR tg hs => XS.imul X.here hx rfl (hb hc hd) rfl hs) (hk _ _ _ _ _ _ h)
  · have hd := hd0; simp only [ilen] at hd; have hh := popI_e h; clear h; obtain ⟨y, r, rfl, h⟩ := hh; have hh := popI_e h; clear h; obtain ⟨x, r, rfl, h⟩ := hh; exact G.pure (fun p e s m args below meth c T locs a0 hx hc hZ ho hw X hR tg hs => XS.iand X.here hx rfl (hb hc hd) rfl hs) (hk _ _ _ _ _ _ h)
  · have hd := hd0; simp only [ilen] at hd; have hh := popI_e h; clear h; obtain ⟨y, r, rfl, h⟩ := hh; have hh := popI_e h; clear h; obtain ⟨x, r, rfl, h⟩ := hh; exact G.pure (fun p e s m args below meth c T locs a0 hx hc hZ ho hw X hR tg hs => XT.ior X.here hx rfl (hb hc hd) rfl hs) (hk _ _ _ _ _ _ h)
  · have hd := hd0; simp only [ilen] at hd; have hh := popI_e h; clear h; obtain ⟨y, r, rfl, h⟩ := hh; have hh := popI_e h; clear h; obtain ⟨x, r, rfl, h⟩ := hh; exact G.pure (fun p e s m args below meth c T locs a0 hx hc hZ ho hw X hR tg hs => XT.ixor X.here hx rfl (hb hc hd) rfl hs) (hk _ _ _ _ _ _ h)
  · have hd := hd0; simp only [ilen] at hd; have hh := popI_e h; clear h; obtain ⟨y, r, rfl, h⟩ := hh; have hh := popI_e h; clear h; obtain ⟨x, r, rfl, h⟩ := hh; exact G.pure (fun p e s m args below meth c T locs a0 hx hc hZ ho hw X hR tg hs => XT.ishl X.here hx rfl (hb hc hd) rfl hs) (hk _ _ _ _ _ _ h)
  · have hd := hd0; simp only [ilen] at hd; have hh := popI_e h; clear h; obtain ⟨y, r, rfl, h⟩ := hh; have hh := popI_e h; clear h; obtain ⟨x, r, rfl, h⟩ := hh; exact G.pure (fun p e s m args below meth c T locs a0 hx hc hZ ho hw X hR tg hs => XT.ishr X.here hx rfl (hb hc hd) rfl hs) (hk _ _ _ _ _ _ h)
  · have hd := hd0; simp only [ilen] at hd; have hh := popI_e h; clear h; obtain ⟨y, r, rfl, h⟩ := hh; have hh := popI_e h; clear h; obtain ⟨x, r, rfl, h⟩ := hh; exact G.pure (fun p e s m args below meth c T locs a0 hx hc hZ ho hw X hR tg hs => XT.iushr X.here hx rfl (hb hc hd) rfl hs) (hk _ _ _ _ _ _ h)
  · have hd := hd0; simp only [ilen] at hd; have hh := popI_e h; clear h; obtain ⟨y, r, rfl, h⟩ := hh; have hh := popI_e h; clear h; obtain ⟨x, r, rfl, h⟩ := hh; obtain ⟨hy, h⟩ := h; exact G.pure (fun p e s m args below meth c T locs a0 hx hc hZ ho hw X hR tg hs => XS.idiv X.here hx rfl (hb hc hd) rfl hy hs) (hk _ _ _ _ _ _ h)
  · have hd := hd0; simp only [ilen] at hd; have hh := popI_e h; clear h; obtain ⟨y, r, rfl, h⟩ := hh; have hh := popI_e h; clear h; obtain ⟨x, r, rfl, h⟩ := hh; obtain ⟨hy, h⟩ := h; exact G.pure (fun p e s m args below meth c T locs a0 hx hc hZ ho hw X hR tg hs => XS.irem X.here hx rfl (hb hc hd) rfl hy hs) (hk _ _ _ _ _ _ h)
  · have hd := hd0; simp only [ilen] at hd; have hh := popJ_e h; clear h; obtain ⟨y, r, rfl, h⟩ := hh; have hh := popJ_e h; clear h; obtain ⟨x, r, rfl, h⟩ := hh; exact G.pure (fun p e s m args below meth c T locs a0 hx hc hZ ho hw X hR tg hs => XT.ladd X.here hx rfl (hb hc hd) rfl hs) (hk _ _ _ _ _ _ h)
  · have hd := hd0; simp only [ilen] at hd; have hh := popJ_e h; clear h; obtain ⟨y, r, rfl, h⟩ := hh; have hh := popJ_e h; clear h; obtain ⟨x, r, rfl, h⟩ := hh; exact G.pure (fun p e s m args below meth c T locs a0 hx hc hZ ho hw X hR tg hs => XT.lsub X.here hx rfl (hb hc hd) rfl hs) (hk _ _ _ _ _ _ h)
  · have hd := hd0; simp only [ilen] at hd; have hh := popJ_e h; clear h; obtain ⟨y, r, rfl, h⟩ := hh; have hh := popJ_e h; clear h; obtain ⟨x, r, rfl, h⟩ := hh; exact G.pure (fun p e s m args below meth c T locs a0 hx hc hZ ho hw X hR tg hs => XT.lmul X.here hx rfl (hb hc hd) rfl hs) (hk _ _ _ _ _ _ h)
  · have hd := hd0; simp only [ilen] at hd; have hh := popJ_e h; clear h; obtain ⟨y, r, rfl, h⟩ := hh; have hh := popJ_e h; clear h; obtain ⟨x, r, rfl, h⟩ := hh; exact G.pure (fun p e s m args below meth c T locs a0 hx hc hZ ho hw X hR tg hs => XT.land X.here hx rfl (hb hc hd) rfl hs) (hk _ _ _ _ _ _ h)
  · have hd := hd0; simp only [ilen] at hd; have hh := popJ_e h; clear h; obtain ⟨y, r, rfl, h⟩ := hh; have hh := popJ_e h; clear h; obtain ⟨x, r, rfl, h⟩ := hh; exact G.pure (fun p e s m args below meth c T locs a0 hx hc hZ ho hw X hR tg hs => XT.lor X.here hx rfl (hb hc hd) rfl hs) (hk _ _ _ _ _ _ h)
  · have hd := hd0; simp only [ilen] at hd; have hh := popJ_e h; clear h; obtain ⟨y, r, rfl, h⟩ := hh; have hh := popJ_e h; clear h; obtain ⟨x, r, rfl, h⟩ := hh; exact G.pure (fun p e s m args below meth c T locs a0 hx hc hZ ho hw X hR tg hs => XT.lxor X.here hx rfl (hb hc hd) rfl hs) (hk _ _ _ _ _ _ h)
  · have hd := hd0; simp only [ilen] at hd; have hh := popJ_e h; clear h; obtain ⟨y, r, rfl, h⟩ := hh; have hh := popJ_e h; clear h; obtain ⟨x, r, rfl, h⟩ := hh; obtain ⟨hy, h⟩ := h; exact G.pure (fun p e s m args below meth c T locs a0 hx hc hZ ho hw X hR tg hs => XT.ldiv X.here hx rfl (hb hc hd) rfl hy hs) (hk _ _ _ _ _ _ h)
  · have hd := hd0; simp only [ilen] at hd; have hh := popJ_e h; clear h; obtain ⟨y, r, rfl, h⟩ := hh; have hh := popJ_e h; clear h; obtain ⟨x, r, rfl, h⟩ := hh; obtain ⟨hy, h⟩ := h; exact G.pure (fun p e s m args below meth c T locs a0 hx hc hZ ho hw X hR tg hs => XT.lrem X.here hx rfl (hb hc hd) rfl hy hs) (hk _ _ _ _ _ _ h)
  · have hd := hd0; simp only [ilen] at hd; have hh := popI_e h; clear h; obtain ⟨y, r, rfl, h⟩ := hh; have hh := popJ_e h; clear h; obtain ⟨x, r, rfl, h⟩ := hh; exact G.pure (fun p e s m args below meth c T locs a0 hx hc hZ ho hw X hR tg hs => XT.lshl X.here hx rfl (hb hc hd) rfl hs) (hk _ _ _ _ _ _ h)
  · have hd := hd0; simp only [ilen] at hd; have hh := popI_e h; clear h; obtain ⟨y, r, rfl, h⟩ := hh; have hh := popJ_e h; clear h; obtain ⟨x, r, rfl, h⟩ := hh; exact G.pure (fun p e s m args below meth c T locs a0 hx hc hZ ho hw X hR tg hs => XT.lshr X.here hx rfl (hb hc hd) rfl hs) (hk _ _ _ _ _ _ h)
  · have hd := hd0; simp only [ilen] at hd; have hh := popI_e h; clear h; obtain ⟨y, r, rfl, h⟩ := hh; have hh := popJ_e h; clear h; obtain ⟨x, r, rfl, h⟩ := hh; exact G.pure (fun p e s m args below meth c T locs a0 hx hc hZ ho hw X hR tg hs => XT.lushr X.here hx rfl (hb hc hd) rfl hs) (hk _ _ _ _ _ _ h)
  · have hd := hd0; simp only [ilen] at hd; have hh := popJ_e h; clear h; obtain ⟨y, r, rfl, h⟩ := hh; have hh := popJ_e h; clear h; obtain ⟨x, r, rfl, h⟩ := hh; exact G.pure (fun p e s m args below meth c T locs a0 hx hc hZ ho hw X hR tg hs => XT.lcmp X.here hx rfl (hb hc hd) rfl hs) (hk _ _ _ _ _ _ h)
  · have hd := hd0; simp only [ilen] at hd; have hh := popI_e h; clear h; obtain ⟨x, r, rfl, h⟩ := hh; exact G.pure (fun p e s m args below meth c T locs a0 hx hc hZ ho hw X hR tg hs => XT.i2l X.here hx rfl (hb hc hd) rfl hs) (hk _ _ _ _ _ _ h)
  · have hd := hd0; simp only [ilen] at hd; have hh := popJ_e h; clear h; obtain ⟨x, r, rfl, h⟩ := hh; exact G.pure (fun p e s m args below meth c T locs a0 hx hc hZ ho hw X hR tg hs => XT.l2i X.here hx rfl (hb hc hd) rfl hs) (hk _ _ _ _ _ _ h)
  · have hd := hd0; simp only [ilen] at hd; have hh := popI_e h; clear h; obtain ⟨x, r, rfl, h⟩ := hh; exact G.pure (fun p e s m args below meth c T locs a0 hx hc hZ ho hw X hR tg hs => XT.i2b X.here hx rfl (hb hc hd) rfl hs) (hk _ _ _ _ _ _ h)
  · have hd := hd0; simp only [ilen] at hd; have hh := popI_e h; clear h; obtain ⟨x, r, rfl, h⟩ := hh; exact G.pure (fun p e s m args below meth c T locs a0 hx hc hZ ho hw X hR tg hs => XT.i2c X.here hx rfl (hb hc hd) rfl hs) (hk _ _ _ _ _ _ h)
  · have hd := hd0; simp only [ilen] at hd; have hh := popI_e h; clear h; obtain ⟨x, r, rfl, h⟩ := hh; exact G.pure (fun p e s m args below meth c T locs a0 hx hc hZ ho hw X hR tg hs => XT.i2s X.here hx rfl (hb hc hd) rfl hs) (hk _ _ _ _ _ _ h)
  · have hd := hd0; simp only [ilen] at hd; have hh := popI_e h; clear h; obtain ⟨x, r, rfl, h⟩ := hh; exact G.pure (fun p e s m args below meth c T locs a0 hx hc hZ ho hw X hR tg hs => XS.ineg X.here hx rfl (hb hc hd) rfl hs) (hk _ _ _ _ _ _ h)
  · have hd := hd0; simp only [ilen] at hd; have hh := pop1_e h; clear h; obtain ⟨x, r, rfl, hx1, h⟩ := hh; exact G.pure (fun p e s m args below meth c T locs a0 hx hc hZ ho hw X hR tg hs => XS.dup X.here hx rfl (hb hc hd) rfl hx1 hs) (hk _ _ _ _ _ _ h)
  · have hd := hd0; simp only [ilen] at hd; have hh := pop1_e h; clear h; obtain ⟨x, r, rfl, hx1, h⟩ := hh; exact G.pure (fun p e s m args below meth c T locs a0 hx hc hZ ho hw X hR tg hs => XT.pop X.here hx rfl (hb hc hd) rfl hx1 hs) (hk _ _ _ _ _ _ h)
  · have hd := hd0; simp only [ilen] at hd; have hh := pop1_e h; clear h; obtain ⟨x, r, rfl, hx1, h⟩ := hh; have hh := pop1_e h; clear h; obtain ⟨y, r, rfl, hy1, h⟩ := hh; exact G.pure (fun p e s m args below meth c T locs a0 hx hc hZ ho hw X hR tg hs => XT.dupX1 X.here hx rfl (hb hc hd) rfl hx1 hy1 hs) (hk _ _ _ _ _ _ h)
  · have hd := hd0; simp only [ilen] at hd; have hh := ldI_e h; clear h; obtain ⟨v, q, h⟩ := hh; exact G.pure (fun p e s m args below meth c T locs a0 hx hc hZ ho hw X hR tg hs => XS.iinc X.here hx rfl (hb hc hd) (by simpa using q) (XS.store1 (by simpa using q) (Or.inr ⟨_, rfl, rfl⟩) rfl) (by simpa using hs)) (hk _ _ _ _ _ _ h)
  · have hd := hd0; simp only [ilen] at hd; have h1 := hoff; simp only [off] at h1; exact G.pure (fun p e s m args below meth c T locs a0 hx hc hZ ho hw X hR tg hs => XS.goto X.here hx rfl rfl (hb hc hd) h1 rfl hs) (hk _ _ _ _ _ _ h)
  · have hd := hd0; simp only [ilen] at hd; have hh := popI_e h; clear h; obtain ⟨x, r, rfl, h⟩ := hh; (try dsimp only at h); split at h <;> rename_i q <;> first | (have h1 := hoff; simp only [off] at h1; exact G.pure (fun p e s m args below meth c T locs a0 hx hc hZ ho hw X hR tg hs => XS.ifYes X.here hx rfl rfl (hb hc hd) rfl (XT.i0_eq_t q) h1 rfl hs) (hk _ _ _ _ _ _ h)) | (exact G.pure (fun p e s m args below meth c T locs a0 hx hc hZ ho hw X hR tg hs => XS.ifNo X.here hx rfl (hb hc hd) rfl (XT.i0_eq_f q) hs) (hk _ _ _ _ _ _ h))
  · have hd := hd0; simp only [ilen] at hd; have hh := popI_e h; clear h; obtain ⟨x, r, rfl, h⟩ := hh; (try dsimp only at h); split at h <;> rename_i q <;> first | (have h1 := hoff; simp only [off] at h1; exact G.pure (fun p e s m args below meth c T locs a0 hx hc hZ ho hw X hR tg hs => XS.ifYes X.here hx rfl rfl (hb hc hd) rfl (XT.i0_ne_t q) h1 rfl hs) (hk _ _ _ _ _ _ h)) | (exact G.pure (fun p e s m args below meth c T locs a0 hx hc hZ ho hw X hR tg hs => XS.ifNo X.here hx rfl (hb hc hd) rfl (XT.i0_ne_f q) hs) (hk _ _ _ _ _ _ h))
  · have hd := hd0; simp only [ilen] at hd; have hh := popI_e h; clear h; obtain ⟨x, r, rfl, h⟩ := hh; (try dsimp only at h); split at h <;> rename_i q <;> first | (have h1 := hoff; simp only [off] at h1; exact G.pure (fun p e s m args below meth c T locs a0 hx hc hZ ho hw X hR tg hs => XS.ifYes X.here hx rfl rfl (hb hc hd) rfl (XT.i0_lt_t q) h1 rfl hs) (hk _ _ _ _ _ _ h)) | (exact G.pure (fun p e s m args below meth c T locs a0 hx hc hZ ho hw X hR tg hs => XS.ifNo X.here hx rfl (hb hc hd) rfl (XT.i0_lt_f q) hs) (hk _ _ _ _ _ _ h))
  · have hd := hd0; simp only [ilen] at hd; have hh := popI_e h; clear h; obtain ⟨x, r, rfl, h⟩ := hh; (try dsimp only at h); split at h <;> rename_i q <;> first | (have h1 := hoff; simp only [off] at h1; exact G.pure (fun p e s m args below meth c T locs a0 hx hc hZ ho hw X hR tg hs => XS.ifYes X.here hx rfl rfl (hb hc hd) rfl (XT.i0_ge_t q) h1 rfl hs) (hk _ _ _ _ _ _ h)) | (exact G.pure (fun p e s m args below meth c T locs a0 hx hc hZ ho hw X hR tg hs => XS.ifNo X.here hx rfl (hb hc hd) rfl (XT.i0_ge_f q) hs) (hk _ _ _ _ _ _ h))
  · have hd := hd0; simp only [ilen] at hd; have hh := popI_e h; clear h; obtain ⟨x, r, rfl, h⟩ := hh; (try dsimp only at h); split at h <;> rename_i q <;> first | (have h1 := hoff; simp only [off] at h1; exact G.pure (fun p e s m args below meth c T locs a0 hx hc hZ ho hw X hR tg hs => XS.ifYes X.here hx rfl rfl (hb hc hd) rfl (XT.i0_gt_t q) h1 rfl hs) (hk _ _ _ _ _ _ h)) | (exact G.pure (fun p e s m args below meth c T locs a0 hx hc hZ ho hw X hR tg hs => XS.ifNo X.here hx rfl (hb hc hd) rfl (XT.i0_gt_f q) hs) (hk _ _ _ _ _ _ h))
  · have hd := hd0; simp only [ilen] at hd; have hh := popI_e h; clear h; obtain ⟨x, r, rfl, h⟩ := hh; (try dsimp only at h); split at h <;> rename_i q <;> first | (have h1 := hoff; simp only [off] at h1; exact G.pure (fun p e s m args below meth c T locs a0 hx hc hZ ho hw X hR tg hs => XS.ifYes X.here hx rfl rfl (hb hc hd) rfl (XT.i0_le_t q) h1 rfl hs) (hk _ _ _ _ _ _ h)) | (exact G.pure (fun p e s m args below meth c T locs a0 hx hc hZ ho hw X hR tg hs => XS.ifNo X.here hx rfl (hb hc hd) rfl (XT.i0_le_f q) hs) (hk _ _ _ _ _ _ h))
  · have hd := hd0; simp only [ilen] at hd; have hh := popI_e h; clear h; obtain ⟨y, r, rfl, h⟩ := hh; have hh := popI_e h; clear h; obtain ⟨x, r, rfl, h⟩ := hh; (try dsimp only at h); split at h <;> rename_i q <;> first | (have h1 := hoff; simp only [off] at h1; exact G.pure (fun p e s m args below meth c T locs a0 hx hc hZ ho hw X hR tg hs => XS.icmpYes X.here hx rfl rfl (hb hc hd) rfl (XT.ii_eq_t q) h1 rfl hs) (hk _ _ _ _ _ _ h)) | (exact G.pure (fun p e s m args below meth c T locs a0 hx hc hZ ho hw X hR tg hs => XS.icmpNo X.here hx rfl (hb hc hd) rfl (XT.ii_eq_f q) hs) (hk _ _ _ _ _ _ h))
  · have hd := hd0; simp only [ilen] at hd; have hh := popI_e h; clear h; obtain ⟨y, r, rfl, h⟩ := hh; have hh := popI_e h; clear h; obtain ⟨x, r, rfl, h⟩ := hh; (try dsimp only at h); split at h <;> rename_i q <;> first | (have h1 := hoff; simp only [off] at h1; exact G.pure (fun p e s m args below meth c T locs a0 hx hc hZ ho hw X hR tg hs => XS.icmpYes X.here hx rfl rfl (hb hc hd) rfl (XT.ii_ne_t q) h1 rfl hs) (hk _ _ _ _ _ _ h)) | (exact G.pure (fun p e s m args below meth c T locs a0 hx hc hZ ho hw X hR tg hs => XS.icmpNo X.here hx rfl (hb hc hd) rfl (XT.ii_ne_f q) hs) (hk _ _ _ _ _ _ h))
  · have hd := hd0; simp only [ilen] at hd; have hh := popI_e h; clear h; obtain ⟨y, r, rfl, h⟩ := hh; have hh := popI_e h; clear h; obtain ⟨x, r, rfl, h⟩ := hh; (try dsimp only at h); split at h <;> rename_i q <;> first | (have h1 := hoff; simp only [off] at h1; exact G.pure (fun p e s m args below meth c T locs a0 hx hc hZ ho hw X hR tg hs => XS.icmpYes X.here hx rfl rfl (hb hc hd) rfl (XT.ii_lt_t q) h1 rfl hs) (hk _ _ _ _ _ _ h)) | (exact G.pure (fun p e s m args below meth c T locs a0 hx hc hZ ho hw X hR tg hs => XS.icmpNo X.here hx rfl (hb hc hd) rfl (XT.ii_lt_f q) hs) (hk _ _ _ _ _ _ h))
  · have hd := hd0; simp only [ilen] at hd; have hh := popI_e h; clear h; obtain ⟨y, r, rfl, h⟩ := hh; have hh := popI_e h; clear h; obtain ⟨x, r, rfl, h⟩ := hh; (try dsimp only at h); split at h <;> rename_i q <;> first | (have h1 := hoff; simp only [off] at h1; exact G.pure (fun p e s m args below meth c T locs a0 hx hc hZ ho hw X hR tg hs => XS.icmpYes X.here hx rfl rfl (hb hc hd) rfl (XT.ii_ge_t q) h1 rfl hs) (hk _ _ _ _ _ _ h)) | (exact G.pure (fun p e s m args below meth c T locs a0 hx hc hZ ho hw X hR tg hs => XS.icmpNo X.here hx rfl (hb hc hd) rfl (XT.ii_ge_f q) hs) (hk _ _ _ _ _ _ h))
  · have hd := hd0; simp only [ilen] at hd; have hh := popI_e h; clear h; obtain ⟨y, r, rfl, h⟩ := hh; have hh := popI_e h; clear h; obtain ⟨x, r, rfl, h⟩ := hh; (try dsimp only at h); split at h <;> rename_i q <;> first | (have h1 := hoff; simp only [off] at h1; exact G.pure (fun p e s m args below meth c T locs a0 hx hc hZ ho hw X hR tg hs => XS.icmpYes X.here hx rfl rfl (hb hc hd) rfl (XT.ii_gt_t q) h1 rfl hs) (hk _ _ _ _ _ _ h)) | (exact G.pure (fun p e s m args below meth c T locs a0 hx hc hZ ho hw X hR tg hs => XS.icmpNo X.here hx rfl (hb hc hd) rfl (XT.ii_gt_f q) hs) (hk _ _ _ _ _ _ h))
  · have hd := hd0; simp only [ilen] at hd; have hh := popI_e h; clear h; obtain ⟨y, r, rfl, h⟩ := hh; have hh := popI_e h; clear h; obtain ⟨x, r, rfl, h⟩ := hh; (try dsimp only at h); split at h <;> rename_i q <;> first | (have h1 := hoff; simp only [off] at h1; exact G.pure (fun p e s m args below meth c T locs a0 hx hc hZ ho hw X hR tg hs => XS.icmpYes X.here hx rfl rfl (hb hc hd) rfl (XT.ii_le_t q) h1 rfl hs) (hk _ _ _ _ _ _ h)) | (exact G.pure (fun p e s m args below meth c T locs a0 hx hc hZ ho hw X hR tg hs => XS.icmpNo X.here hx rfl (hb hc hd) rfl (XT.ii_le_f q) hs) (hk _ _ _ _ _ _ h))
  · have hd := hd0; simp only [ilen] at hd; (try dsimp only at h); split at h
    · (have h1 := hoff; simp only [off] at h1; exact G.pure (fun p e s m args below meth c T locs a0 hx hc hZ ho hw X hR tg hs => XS.ifnullYes X.here hx rfl rfl (hb hc hd) rfl h1 rfl hs) (hk _ _ _ _ _ _ h))
    · exact G.pure (fun p e s m args below meth c T locs a0 hx hc hZ ho hw X hR tg hs => XS.ifnullNo X.here hx rfl (hb hc hd) rfl hs) (hk _ _ _ _ _ _ h)
    · exact h.elim
  · have hd := hd0; simp only [ilen] at hd; (try dsimp only at h); split at h
    · exact G.pure (fun p e s m args below meth c T locs a0 hx hc hZ ho hw X hR tg hs => XT.ifnonnullNo X.here hx rfl (hb hc hd) rfl hs) (hk _ _ _ _ _ _ h)
    · (have h1 := hoff; simp only [off] at h1; exact G.pure (fun p e s m args below meth c T locs a0 hx hc hZ ho hw X hR tg hs => XT.ifnonnullYes X.here hx rfl rfl (hb hc hd) rfl h1 rfl hs) (hk _ _ _ _ _ _ h))
    · exact h.elim
  · have hd := hd0; simp only [ilen] at hd; have hh := popR_e h; clear h; obtain ⟨a, r, rfl, h⟩ := hh; have hh := arr_e h; clear h; obtain ⟨i, ty, vs, rfl, q, h⟩ := hh; refine G.pure (fun p e s m args below meth c T locs a0 hx hc hZ ho hw X hR tg hs => ?_) (hk _ _ _ _ _ _ h); obtain ⟨cl, A, e1⟩ := hR.2 _ _ q; exact X.arraylength hx A.1 (State.isArrayOf_alike hZ.alike A.2.1) (g := mkF m pc ls.toArray (.ref (ad b.size i) :: r)) rfl rfl (hb hc hd) _ (by rw [e1]; exact hs)
  · have hd := hd0; simp only [ilen] at hd; have hh := popI_e h; clear h; obtain ⟨j, r, rfl, h⟩ := hh; have hh := popR_e h; clear h; obtain ⟨a, r, rfl, h⟩ := hh; have hh := arr_e h; clear h; obtain ⟨i, ty, vs, rfl, q, h⟩ := hh; have hh := ifF_e h; clear h; obtain ⟨rfl, h⟩ := hh; have hh := idx_e h; clear h; obtain ⟨hj, v, hv, h⟩ := hh; refine G.pure (fun p e s m args below meth c T locs a0 hx hc hZ ho hw X hR tg hs => ?_) (hk _ _ _ _ _ _ h); obtain ⟨cl, A, e1⟩ := hR.2 _ _ q; have hlt := (List.getElem?_eq_some_iff.mp hv).1; exact X.baloadBytes hx A.1 (State.isArrayOf_alike hZ.alike A.2.1) A.2.2 (fun z => z.elim hj (fun z => by rw [e1] at z; simp at z; omega)) (by rw [e1]; simpa using hv) (g := mkF m pc ls.toArray (.int j :: .ref (ad b.size i) :: r)) rfl rfl (hb hc hd) _ hs
  · have hd := hd0; simp only [ilen] at hd; have hh := popI_e h; clear h; obtain ⟨j, r, rfl, h⟩ := hh; have hh := popR_e h; clear h; obtain ⟨a, r, rfl, h⟩ := hh; have hh := arr_e h; clear h; obtain ⟨i, ty, vs, rfl, q, h⟩ := hh; have hh := ifF_e h; clear h; obtain ⟨rfl, h⟩ := hh; have hh := idx_e h; clear h; obtain ⟨hj, v, hv, h⟩ := hh; refine G.pure (fun p e s m args below meth c T locs a0 hx hc hZ ho hw X hR tg hs => ?_) (hk _ _ _ _ _ _ h); obtain ⟨cl, A, e1⟩ := hR.2 _ _ q; have hlt := (List.getElem?_eq_some_iff.mp hv).1; exact X.caload hx A.1 (State.isArrayOf_alike hZ.alike A.2.1) A.2.2 (fun z => z.elim hj (fun z => by rw [e1] at z; simp at z; omega)) (by rw [e1]; simpa using hv) (g := mkF m pc ls.toArray (.int j :: .ref (ad b.size i) :: r)) rfl rfl (hb hc hd) _ hs
  · have hd := hd0; simp only [ilen] at hd; have hh := popI_e h; clear h; obtain ⟨j, r, rfl, h⟩ := hh; have hh := popR_e h; clear h; obtain ⟨a, r, rfl, h⟩ := hh; have hh := arr_e h; clear h; obtain ⟨i, ty, vs, rfl, q, h⟩ := hh; have hh := ifF_e h; clear h; obtain ⟨rfl, h⟩ := hh; have hh := idx_e h; clear h; obtain ⟨hj, v, hv, h⟩ := hh; refine G.pure (fun p e s m args below meth c T locs a0 hx hc hZ ho hw X hR tg hs => ?_) (hk _ _ _ _ _ _ h); obtain ⟨cl, A, e1⟩ := hR.2 _ _ q; have hlt := (List.getElem?_eq_some_iff.mp hv).1; exact X.iaload hx A.1 (State.isArrayOf_alike hZ.alike A.2.1) A.2.2 (fun z => z.elim hj (fun z => by rw [e1] at z; simp at z; omega)) (by rw [e1]; simpa using hv) (g := mkF m pc ls.toArray (.int j :: .ref (ad b.size i) :: r)) rfl rfl (hb hc hd) _ hs
  · have hd := hd0; simp only [ilen] at hd; have hh := popI_e h; clear h; obtain ⟨j, r, rfl, h⟩ := hh; have hh := popR_e h; clear h; obtain ⟨a, r, rfl, h⟩ := hh; have hh := arr_e h; clear h; obtain ⟨i, ty, vs, rfl, q, h⟩ := hh; have hh := ifF_e h; clear h; obtain ⟨rfl, h⟩ := hh; have hh := idx_e h; clear h; obtain ⟨hj, v, hv, h⟩ := hh; refine G.pure (fun p e s m args below meth c T locs a0 hx hc hZ ho hw X hR tg hs => ?_) (hk _ _ _ _ _ _ h); obtain ⟨cl, A, e1⟩ := hR.2 _ _ q; have hlt := (List.getElem?_eq_some_iff.mp hv).1; exact X.laload hx A.1 (State.isArrayOf_alike hZ.alike A.2.1) A.2.2 (fun z => z.elim hj (fun z => by rw [e1] at z; simp at z; omega)) (by rw [e1]; simpa using hv) (g := mkF m pc ls.toArray (.int j :: .ref (ad b.size i) :: r)) rfl rfl (hb hc hd) _ hs
  · have hd := hd0; simp only [ilen] at hd; have hh := popI_e h; clear h; obtain ⟨x, r, rfl, h⟩ := hh; have hh := popI_e h; clear h; obtain ⟨j, r, rfl, h⟩ := hh; have hh := popR_e h; clear h; obtain ⟨a, r, rfl, h⟩ := hh; have hh := arr_e h; clear h; obtain ⟨i, ty, vs, rfl, q, h⟩ := hh; have hh := ifF_e h; clear h; obtain ⟨rfl, h⟩ := hh; have hh := idx_e h; clear h; obtain ⟨hj, v, hv, h⟩ := hh; refine G.move (fun p e s m args below meth c T locs a0 hx hc hm hn hZ ho hw X hF hR => ?_) (hk _ _ _ _ _ _ h); obtain ⟨cl, A, e1⟩ := hR.2 _ _ q; have hlt := (List.getElem?_eq_some_iff.mp hv).1; obtain ⟨T', h', X', e2, Wt, sp⟩ := stB X hx hZ rfl A (j := j) (x := x) (fun z => z.elim hj (fun z => by rw [e1] at z; simp at z; omega)) (g := mkF m pc ls.toArray (.int x :: .int j :: .ref (ad b.size i) :: r)) rfl rfl (hb hc hd); exact ⟨T', _, X', hF.app (fun y hy => by cases List.mem_singleton.mp hy; exact Nat.le_add_right _ _), by rw [e2]; exact hR.setArr q Wt, sp⟩
  · have hd := hd0; simp only [ilen] at hd; have hh := popI_e h; clear h; obtain ⟨x, r, rfl, h⟩ := hh; have hh := popI_e h; clear h; obtain ⟨j, r, rfl, h⟩ := hh; have hh := popR_e h; clear h; obtain ⟨a, r, rfl, h⟩ := hh; have hh := arr_e h; clear h; obtain ⟨i, ty, vs, rfl, q, h⟩ := hh; have hh := ifF_e h; clear h; obtain ⟨rfl, h⟩ := hh; have hh := idx_e h; clear h; obtain ⟨hj, v, hv, h⟩ := hh; refine G.move (fun p e s m args below meth c T locs a0 hx hc hm hn hZ ho hw X hF hR => ?_) (hk _ _ _ _ _ _ h); obtain ⟨cl, A, e1⟩ := hR.2 _ _ q; have hlt := (List.getElem?_eq_some_iff.mp hv).1; obtain ⟨T', h', X', e2, Wt, sp⟩ := stC X hx hZ rfl A (j := j) (x := x) (fun z => z.elim hj (fun z => by rw [e1] at z; simp at z; omega)) (g := mkF m pc ls.toArray (.int x :: .int j :: .ref (ad b.size i) :: r)) rfl rfl (hb hc hd); exact ⟨T', _, X', hF.app (fun y hy => by cases List.mem_singleton.mp hy; exact Nat.le_add_right _ _), by rw [e2]; exact hR.setArr q Wt, sp⟩
  · have hd := hd0; simp only [ilen] at hd; have hh := popI_e h; clear h; obtain ⟨x, r, rfl, h⟩ := hh; have hh := popI_e h; clear h; obtain ⟨j, r, rfl, h⟩ := hh; have hh := popR_e h; clear h; obtain ⟨a, r, rfl, h⟩ := hh; have hh := arr_e h; clear h; obtain ⟨i, ty, vs, rfl, q, h⟩ := hh; have hh := ifF_e h; clear h; obtain ⟨rfl, h⟩ := hh; have hh := idx_e h; clear h; obtain ⟨hj, v, hv, h⟩ := hh; refine G.move (fun p e s m args below meth c T locs a0 hx hc hm hn hZ ho hw X hF hR => ?_) (hk _ _ _ _ _ _ h); obtain ⟨cl, A, e1⟩ := hR.2 _ _ q; have hlt := (List.getElem?_eq_some_iff.mp hv).1; obtain ⟨T', h', X', e2, Wt, sp⟩ := stI X hx hZ rfl A (j := j) (x := x) (fun z => z.elim hj (fun z => by rw [e1] at z; simp at z; omega)) (g := mkF m pc ls.toArray (.int x :: .int j :: .ref (ad b.size i) :: r)) rfl rfl (hb hc hd); exact ⟨T', _, X', hF.app (fun y hy => by cases List.mem_singleton.mp hy; exact Nat.le_add_right _ _), by rw [e2]; exact hR.setArr q Wt, sp⟩
  · have hd := hd0; simp only [ilen] at hd; have hh := popJ_e h; clear h; obtain ⟨x, r, rfl, h⟩ := hh; have hh := popI_e h; clear h; obtain ⟨j, r, rfl, h⟩ := hh; have hh := popR_e h; clear h; obtain ⟨a, r, rfl, h⟩ := hh; have hh := arr_e h; clear h; obtain ⟨i, ty, vs, rfl, q, h⟩ := hh; have hh := ifF_e h; clear h; obtain ⟨rfl, h⟩ := hh; have hh := idx_e h; clear h; obtain ⟨hj, v, hv, h⟩ := hh; refine G.move (fun p e s m args below meth c T locs a0 hx hc hm hn hZ ho hw X hF hR => ?_) (hk _ _ _ _ _ _ h); obtain ⟨cl, A, e1⟩ := hR.2 _ _ q; have hlt := (List.getElem?_eq_some_iff.mp hv).1; obtain ⟨T', h', X', e2, Wt, sp⟩ := stJ X hx hZ rfl A (j := j) (x := x) (fun z => z.elim hj (fun z => by rw [e1] at z; simp at z; omega)) (g := mkF m pc ls.toArray (.long x :: .int j :: .ref (ad b.size i) :: r)) rfl rfl (hb hc hd); exact ⟨T', _, X', hF.app (fun y hy => by cases List.mem_singleton.mp hy; exact Nat.le_add_right _ _), by rw [e2]; exact hR.setArr q Wt, sp⟩
  · have hd := hd0; simp only [ilen] at hd; have hh := popI_e h; clear h; obtain ⟨n, r, rfl, h⟩ := hh; have hh := ifF_e h; clear h; obtain ⟨⟨hn0, hA, hcap, hc1, hs1⟩, h⟩ := hh; refine G.move (fun p e s m args below meth c T locs a0 hx hc hm hn hZ ho hw X hF hR => ?_) (hk _ _ _ _ _ _ h); exact newA_step X hx hZ (hw _ (hAL _ hA)) hF hR (hb hc hd) hn0 hcap hc1 hs1
  · have hd := hd0; simp only [ilen] at hd; have hh := popI_e h; clear h; obtain ⟨x, r, rfl, h⟩ := hh; have hh := ifF_e h; clear h; obtain ⟨⟨hc1, hs1⟩, hK⟩ := hh; (try dsimp only at hK); split at hK
    · exact G.leave (fun q => by cases q) (fun p e s m args below meth c T locs hx hc hr X fs hfs => retI X hx hr (hb hc hd) hfs) hc1 hs1 hK
    · exact G.leave (fun q => by cases q) (fun p e s m args below meth c T locs hx hc hr X fs hfs => retN X hx hr (by simp) (hb hc hd) hfs) hc1 hs1 hK
    · exact G.leave (fun q => by cases q) (fun p e s m args below meth c T locs hx hc hr X fs hfs => retN X hx hr (by simp) (hb hc hd) hfs) hc1 hs1 hK
    · exact G.leave (fun q => by cases q) (fun p e s m args below meth c T locs hx hc hr X fs hfs => retN X hx hr (by simp) (hb hc hd) hfs) hc1 hs1 hK
    · exact G.leave (fun q => by cases q) (fun p e s m args below meth c T locs hx hc hr X fs hfs => retN X hx hr (by simp) (hb hc hd) hfs) hc1 hs1 hK
    · exact hK.elim
  · have hd := hd0; simp only [ilen] at hd; have hh := popJ_e h; clear h; obtain ⟨x, r, rfl, h⟩ := hh; have hh := ifF_e h; clear h; obtain ⟨⟨hc1, hs1, rfl, rfl⟩, hK⟩ := hh; exact G.leave (fun q => by cases q) (fun p e s m args below meth c T locs hx hc hr X fs hfs => X.lreturnOut hx hr (hb hc hd) hfs) hc1 hs1 hK
  · have hd := hd0; simp only [ilen] at hd; have hh := popR_e h; clear h; obtain ⟨x, r, rfl, h⟩ := hh; have hh := ifF_e h; clear h; obtain ⟨⟨hc1, hs1, rfl⟩, hK⟩ := hh; exact G.leave (fun q => by cases q) (fun p e s m args below meth c T locs hx hc hr X fs hfs => retOut X hx hr rfl (Or.inr (Or.inr (Or.inr (Or.inr ⟨rfl, rfl, rfl⟩)))) (hb hc hd) hfs) hc1 hs1 hK
  · have hd := hd0; simp only [ilen] at hd; have hh := ifF_e h; clear h; obtain ⟨⟨hc1, hs1, rfl, rfl⟩, hK⟩ := hh; exact G.leave (fun _ => rfl) (fun p e s m args below meth c T locs hx hc hr X fs hfs => X.returnOut hx hr (hb hc hd) hfs) hc1 hs1 hK
  · have hd := hd0; simp only [ilen] at hd; have hh := popR_e h; clear h; obtain ⟨a, r, rfl, h⟩ := hh; have hh := onSome_e h; clear h; obtain ⟨⟨C0, n, d⟩, ql, h⟩ := hh; have hh := obj_e h; clear h; obtain ⟨i, C, fs, rfl, q, h⟩ := hh; have hh := ifF_e h; clear h; obtain ⟨rfl, h⟩ := hh; have hh := onSome_e h; clear h; obtain ⟨v, hv, h⟩ := hh; refine G.move (fun p e s m args below meth c T locs a0 hx hc hm hn hZ ho hw X hF hR => ?_) (hk _ _ _ _ _ _ h); obtain ⟨E, F, -⟩ := hR.2 _ _ q; obtain ⟨T', X', e1, sp⟩ := getF X hx hZ ho (host := "") (Or.inl (hw _ (hFL _ (look_mem ql)))) Via.refl rfl (F _ (fget_mem hv)) (g := mkF m pc ls.toArray (.ref (ad b.size i) :: r)) rfl rfl (hb hc hd); exact ⟨T', _, X', hF, by rw [e1]; exact hR, sp⟩
  · have hd := hd0; simp only [ilen] at hd; have hh := onSome_e h; clear h; obtain ⟨⟨C, n, fs⟩, ql, h⟩ := hh; have hh := ifF_e h; clear h; obtain ⟨⟨hc1, hs1⟩, h⟩ := hh; exact G.new (hNL _ (look_mem ql)) hd hc1 hs1 (hk _ _ _ _ _ _ h)
  · have hd := hd0; simp only [ilen] at hd; have hh := onSome_e h; clear h; obtain ⟨⟨C0, n, d, ty⟩, ql, h⟩ := hh; (try dsimp only at h); split at h
    · (have hh := popJ_e h; clear h; obtain ⟨x, r, rfl, h⟩ := hh; have hh := popR_e h; clear h; obtain ⟨a, r, rfl, h⟩ := hh; have hh := obj_e h; clear h; obtain ⟨i, C, fs, rfl, q, h⟩ := hh; have hh := ifF_e h; clear h; obtain ⟨rfl, h⟩ := hh; have hh := onSome_e h; clear h; obtain ⟨old, hv, h⟩ := hh; exact G.putf (hPL _ (look_mem ql)) rfl rfl hd q hv (hk _ _ _ _ _ _ h))
    · (have hh := popI_e h; clear h; obtain ⟨x, r, rfl, h⟩ := hh; have hh := popR_e h; clear h; obtain ⟨a, r, rfl, h⟩ := hh; have hh := obj_e h; clear h; obtain ⟨i, C, fs, rfl, q, h⟩ := hh; have hh := ifF_e h; clear h; obtain ⟨rfl, h⟩ := hh; have hh := onSome_e h; clear h; obtain ⟨old, hv, h⟩ := hh; exact G.putf (hPL _ (look_mem ql)) rfl rfl hd q hv (hk _ _ _ _ _ _ h))
    · (have hh := popI_e h; clear h; obtain ⟨x, r, rfl, h⟩ := hh; have hh := popR_e h; clear h; obtain ⟨a, r, rfl, h⟩ := hh; have hh := obj_e h; clear h; obtain ⟨i, C, fs, rfl, q, h⟩ := hh; have hh := ifF_e h; clear h; obtain ⟨rfl, h⟩ := hh; have hh := onSome_e h; clear h; obtain ⟨old, hv, h⟩ := hh; exact G.putf (hPL _ (look_mem ql)) rfl (fits_nar_bool x) hd q hv (hk _ _ _ _ _ _ h))
    · (have hh := popA_e h; clear h; obtain ⟨x, r, rfl, hv1, hv2, h⟩ := hh; have hh := popR_e h; clear h; obtain ⟨a, r, rfl, h⟩ := hh; have hh := obj_e h; clear h; obtain ⟨i, C, fs, rfl, q, h⟩ := hh; have hh := ifF_e h; clear h; obtain ⟨rfl, h⟩ := hh; have hh := onSome_e h; clear h; obtain ⟨old, hv, h⟩ := hh; exact G.putf (hPL _ (look_mem ql)) (by cases x <;> first | rfl | cases hv1) (by cases x <;> first | rfl | cases hv1) hd q hv (hk _ _ _ _ _ _ h))
    · (have hh := popA_e h; clear h; obtain ⟨x, r, rfl, hv1, hv2, h⟩ := hh; have hh := popR_e h; clear h; obtain ⟨a, r, rfl, h⟩ := hh; have hh := obj_e h; clear h; obtain ⟨i, C, fs, rfl, q, h⟩ := hh; have hh := ifF_e h; clear h; obtain ⟨rfl, h⟩ := hh; have hh := onSome_e h; clear h; obtain ⟨old, hv, h⟩ := hh; exact G.putf (hPL _ (look_mem ql)) (by cases x <;> first | rfl | cases hv1) (by cases x <;> first | rfl | cases hv1) hd q hv (hk _ _ _ _ _ _ h))
    · exact h.elim
  · exact h
theorem G.run {S : List Nat} (n : Nat) (hCI : ∀ x ∈ CI, Jvm.Cond.constant own x.1 x.2 ∈ W) (hCL : ∀ x ∈ CL, Jvm.Cond.constantLong own x.1 x.2 ∈ W) (hFL : ∀ x ∈ FL, Jvm.Cond.fieldLink own x.1 x.2.1 x.2.2.1 x.2.2.2 ∈ W) (hAL : ∀ x ∈ AL, Jvm.Cond.arrayClass x ∈ W) (hPL : ∀ x ∈ PL, PutOk W own nm x.1 x.2.1 x.2.2.1 x.2.2.2.1 x.2.2.2.2) (hNL : ∀ x ∈ NL, NewOk W own x.1 x.2.1 x.2.2.1 x.2.2.2) :
    ∀ {pc : Nat} {ls : List Slot} {st : List Value} {H : List Cel} {cN sN : Nat}, Wn S code CI CL FL AL PL NL ret R b.size rc rs K (G code own nm maxL ret R W l Z b rc rs K) n pc ls st H cN sN → G code own nm maxL ret R W l Z b rc rs K pc ls st H cN sN := by
  induction n with
  | zero => exact fun h => h
  | succ n ih =>
    intro pc ls st H cN sN h
    unfold Wn at h
    split at h
    · exact h
    · obtain ⟨i, hi, h⟩ := onSome_e h
      exact W1_sound hCI hCL hFL hAL hPL hNL (at1_o hi).1 (at1_o hi).2 (fun _ _ _ _ _ _ q => ih q) h
/-- one step from a place at which runs stop, then a run -/
theorem G.enter {S : List Nat} (n : Nat) (hCI : ∀ x ∈ CI, Jvm.Cond.constant own x.1 x.2 ∈ W) (hCL : ∀ x ∈ CL, Jvm.Cond.constantLong own x.1 x.2 ∈ W) (hFL : ∀ x ∈ FL, Jvm.Cond.fieldLink own x.1 x.2.1 x.2.2.1 x.2.2.2 ∈ W) (hAL : ∀ x ∈ AL, Jvm.Cond.arrayClass x ∈ W) (hPL : ∀ x ∈ PL, PutOk W own nm x.1 x.2.1 x.2.2.1 x.2.2.2.1 x.2.2.2.2) (hNL : ∀ x ∈ NL, NewOk W own x.1 x.2.1 x.2.2.1 x.2.2.2) {i : Instr} {pc : Nat} {ls : List Slot} {st : List Value} {H : List Cel} {cN sN : Nat} (hi : at1 code pc = some i)
    (h : W1 CI CL FL AL PL NL ret R b.size rc rs K (G code own nm maxL ret R W l Z b rc rs K) i pc ls st H cN sN (Wn S code CI CL FL AL PL NL ret R b.size rc rs K (G code own nm maxL ret R W l Z b rc rs K) n)) : G code own nm maxL ret R W l Z b rc rs K pc ls st H cN sN :=
  W1_sound hCI hCL hFL hAL hPL hNL (at1_o hi).1 (at1_o hi).2 (fun _ _ _ _ _ _ q => G.run n hCI hCL hFL hAL hPL hNL q) h
end Sound
section Eqs
variable {CI : List (Nat × Int32)} {CL : List (Nat × Int64)} {FL : List (Nat × String × String × String)} {AL : List FieldType} {PL : List (Nat × String × String × String × FieldType)} {NL : List (Nat × String × Nat × List (String × String × Value))} {ret : Option FieldType} {R : Room} {n0 rc rs : Nat} {K : Option Value → List Cel → Prop} {g k : Cont} {pc : Nat} {ls : List Slot} {st : List Value} {H : List Cel} {cN sN : Nat} {code : ByteArray}
theorem wn_s {S : List Nat} {n : Nat} (h : pc ∉ S) : Wn S code CI CL FL AL PL NL ret R n0 rc rs K g (n + 1) pc ls st H cN sN = onSome (at1 code pc) fun i => W1 CI CL FL AL PL NL ret R n0 rc rs K g i pc ls st H cN sN (Wn S code CI CL FL AL PL NL ret R n0 rc rs K g n) := if_neg h
theorem wn_p {S : List Nat} {n : Nat} (h : pc ∈ S) : Wn S code CI CL FL AL PL NL ret R n0 rc rs K g (n + 1) pc ls st H cN sN = g pc ls st H cN sN := if_pos h
end Eqs
end Jvm.OwnKit
namespace Jvm.OwnKit
open Sem ClassFile Op Lib Jvm.Stand Jvm.Free Jvm.LawKit Jvm.RoadKit
section Calls
variable {code : ByteArray} {own nm : String} {maxL : Nat} {ret : Option FieldType} {R : Room} {W : List Jvm.Cond} {l : Launch} {Z : State} {b : Heap} {rc rs : Nat} {K : Option Value → List Cel → Prop}
variable {pc : Nat} {ls : List Slot} {st : List Value} {H : List Cel} {cN sN : Nat}
def wt (rest : List Value) : Nat := (rest.map fun v => v.category).sum
theorem G.callS {idx : Nat} {y : MethodName} {bytes : ByteArray} {mL : Nat} {rt : Option FieldType} {rm : Room} {as rest : List Value} {K' : Option Value → List Cel → Prop} {ps : List FieldType} {r : Option FieldType}
    (w1 : Jvm.Cond.methodLink own idx y ∈ W) (w2 : Jvm.Cond.static y ∈ W) (w3 : Jvm.Cond.initialized y.cls ∈ W) (w4 : Jvm.Cond.code y bytes mL rt ∈ W) (hy : y.cls ≠ "java/lang/invoke/MethodHandle" ∧ y.cls ≠ "java/lang/invoke/VarHandle") (hds : parseMethodDescriptor y.desc = some ⟨ps, r⟩)
    (C : Con W l Z b y bytes mL rt rm as H K') (hd : at1 code pc = some (.invokestatic idx)) (hst : st = as.reverse ++ rest) (hlen : as.length = ps.length) (hls : ls.length = maxL)
    (hf : rm.frames + 1 ≤ R.frames) (hlo : wt rest + (mL + 11) + rm.locals ≤ R.locals) (hc : cN + rm.cells ≤ R.cells) (hs : sN + rm.slots ≤ R.slots)
    (k : ∀ v H', K' v H' → G code own nm maxL ret R W l Z b rc rs K (pc + 3) ls (v.toList ++ rest) H' (cN + rm.cells) (sN + rm.slots)) : G code own nm maxL ret R W l Z b rc rs K pc ls st H cN sN := by
  subst hst
  intro p e s m args below meth c T locs a0 hx hcd hm hr hk hn hZ ho hw X hF hR
  obtain ⟨v, vm₁, ⟨T', L', k', n'⟩, -, X', ⟨Lc, hQ, l1, y1, z1⟩, sp⟩ := Jvm.LawKit.callS X hx (y := y) ho (mvT hZ (hw _ w1)) (mvT hZ (hw _ w2)) (mvT hZ (hw _ w3)) (mvT hZ (hw _ w4)) hy
    (backOf (W := wt rest) (Q := fun v h L => Fr b.size L ∧ ∃ H', Rep Z b h H' ∧ K' v H') (C a0 T.heap hw hR) hZ (hw _ w4) (hw _ w3) hf hlo) (g := mkF m pc ls.toArray (as.reverse ++ rest)) rfl (by rw [hm]; simpa using hls) (argsL := as) (rest := rest) (lenOf hds hlen) rfl
    (by show 2 * 0 + _ ≤ _; exact Nat.le_of_eq (Nat.zero_add _)) (hb hcd (at1_e hd)) (fun _ _ => ⟨rfl, rfl, hc, hs⟩)
  dsimp only [Pt.U, Pt.locs, Pt.cells, Pt.slots] at X' l1 y1 z1 sp hQ
  subst l1 y1 z1
  obtain ⟨hF', H', hR', hK'⟩ := hQ
  obtain ⟨s₂, o, h1, h2⟩ := k v H' hK' p e s m args below meth c T' _ a0 hx hcd hm hr hk hn hZ ho hw X' (hF.app hF') hR'
  exact ⟨s₂, o, sp _ h1, h2⟩
/-- a constructor -/
theorem G.callI {idx : Nat} {y : MethodName} {bytes : ByteArray} {mL : Nat} {rm : Room} {a : Addr} {as rest : List Value} {K' : Option Value → List Cel → Prop} {ps : List FieldType} {r : Option FieldType}
    (hnm : y.name = "<init>") (w1 : Jvm.Cond.methodLink own idx y ∈ W) (w2 : Jvm.Cond.instanceMethod y ∈ W) (w3 : Jvm.Cond.initialized y.cls ∈ W) (w4 : Jvm.Cond.code y bytes mL none ∈ W) (hy : y.cls ≠ "java/lang/invoke/MethodHandle" ∧ y.cls ≠ "java/lang/invoke/VarHandle") (hds : parseMethodDescriptor y.desc = some ⟨ps, r⟩)
    (C : Con W l Z b y bytes mL none rm (.ref a :: as) H K') (hd : at1 code pc = some (.invokespecial idx)) (hst : st = as.reverse ++ .ref a :: rest) (hlen : as.length = ps.length) (hls : ls.length = maxL)
    (hf : rm.frames + 1 ≤ R.frames) (hlo : wt rest + (mL + 11) + rm.locals ≤ R.locals) (hc : cN + rm.cells ≤ R.cells) (hs : sN + rm.slots ≤ R.slots)
    (k : ∀ v H', K' v H' → G code own nm maxL ret R W l Z b rc rs K (pc + 3) ls (v.toList ++ rest) H' (cN + rm.cells) (sN + rm.slots)) : G code own nm maxL ret R W l Z b rc rs K pc ls st H cN sN := by
  subst hst
  intro p e s m args below meth c T locs a0 hx hcd hm hr hk hn hZ ho hw X hF hR
  obtain ⟨v, vm₁, ⟨T', L', k', n'⟩, -, X', ⟨Lc, hQ, l1, y1, z1⟩, sp⟩ := X.specialBack hx (y := y) hnm ho (mvT hZ (hw _ w1)) (mvT hZ (hw _ w2)) (mvT hZ (hw _ w4)) hy
    (backOf (W := wt rest) (Q := fun v h L => Fr b.size L ∧ ∃ H', Rep Z b h H' ∧ K' v H') (C a0 T.heap hw hR) hZ (hw _ w4) (hw _ w3) hf hlo) (g := mkF m pc ls.toArray (as.reverse ++ .ref a :: rest)) rfl (by rw [hm]; simpa using hls) (Steps.refl _) (a := a) (argsL := as) (rest := rest) (lenOf hds hlen) rfl
    (by show 2 * 0 + _ ≤ _; exact Nat.le_of_eq (Nat.zero_add _)) (hb hcd (at1_e hd)) (fun _ _ => ⟨rfl, rfl, hc, hs⟩)
  dsimp only [Pt.U, Pt.locs, Pt.cells, Pt.slots] at X' l1 y1 z1 sp hQ
  subst l1 y1 z1
  obtain ⟨hF', H', hR', hK'⟩ := hQ
  obtain ⟨s₂, o, h1, h2⟩ := k v H' hK' p e s m args below meth c T' _ a0 hx hcd hm hr hk hn hZ ho hw X' (hF.app hF') hR'
  exact ⟨s₂, o, sp.trans h1, h2⟩
/-- an instance method of an object of just that class -/
theorem G.callV {idx : Nat} {y : MethodName} {bytes : ByteArray} {mL : Nat} {rt : Option FieldType} {rm : Room} {i : Nat} {fs : List (String × String × Value)} {as rest : List Value} {K' : Option Value → List Cel → Prop} {ps : List FieldType} {r : Option FieldType}
    (w1 : Jvm.Cond.methodLink own idx y ∈ W) (w2 : Jvm.Cond.declares y ∈ W) (w3 : Jvm.Cond.selects y.cls y y ∈ W) (w4 : Jvm.Cond.instanceMethod y ∈ W) (w5 : Jvm.Cond.code y bytes mL rt ∈ W) (w6 : Jvm.Cond.initialized y.cls ∈ W) (hy : y.cls ≠ "java/lang/invoke/MethodHandle" ∧ y.cls ≠ "java/lang/invoke/VarHandle") (hds : parseMethodDescriptor y.desc = some ⟨ps, r⟩)
    (hi : H[i]? = some (.inr (y.cls, fs)))
    (C : Con W l Z b y bytes mL rt rm (.ref (ad b.size i) :: as) H K') (hd : at1 code pc = some (.invokevirtual idx)) (hst : st = as.reverse ++ .ref (ad b.size i) :: rest) (hlen : as.length = ps.length) (hls : ls.length = maxL)
    (hf : rm.frames + 1 ≤ R.frames) (hlo : wt rest + (mL + 11) + rm.locals ≤ R.locals) (hc : cN + rm.cells ≤ R.cells) (hs : sN + rm.slots ≤ R.slots)
    (k : ∀ v H', K' v H' → G code own nm maxL ret R W l Z b rc rs K (pc + 3) ls (v.toList ++ rest) H' (cN + rm.cells) (sN + rm.slots)) : G code own nm maxL ret R W l Z b rc rs K pc ls st H cN sN := by
  subst hst
  intro p e s m args below meth c T locs a0 hx hcd hm hr hk hn hZ ho hw X hF hR
  obtain ⟨cq, kq, qa, qb, qc⟩ := isOf (T := T) hZ rfl (hR.2 _ _ hi).1
  obtain ⟨v, vm₁, ⟨T', L', k', n'⟩, -, X', ⟨Lc, hQ, l1, y1, z1⟩, sp⟩ := X.virtualBack hx (y := y) (z := y) ho (mvT hZ (hw _ w1)) (mvT hZ (hw _ w2)) (notFace_of_selects (args := #[]) (mvT hZ (hw _ w3))) (mvT hZ (hw _ w3)) (mvT hZ (hw _ w4)) hy
    (backOf (W := wt rest) (Q := fun v h L => Fr b.size L ∧ ∃ H', Rep Z b h H' ∧ K' v H') (C a0 T.heap hw hR) hZ (hw _ w5) (hw _ w6) hf hlo) qa qc (g := mkF m pc ls.toArray (as.reverse ++ .ref (ad b.size i) :: rest)) rfl (by rw [hm]; simpa using hls) (Steps.refl _) (argsL := as) (rest := rest) (lenOf hds hlen) rfl
    (by show 2 * 0 + _ ≤ _; exact Nat.le_of_eq (Nat.zero_add _)) (hb hcd (at1_e hd)) (fun _ _ => ⟨rfl, rfl, hc, hs⟩)
  dsimp only [Pt.U, Pt.locs, Pt.cells, Pt.slots] at X' l1 y1 z1 sp hQ
  subst l1 y1 z1
  obtain ⟨hF', H', hR', hK'⟩ := hQ
  obtain ⟨s₂, o, h1, h2⟩ := k v H' hK' p e s m args below meth c T' _ a0 hx hcd hm hr hk hn hZ ho hw X' (hF.app hF') hR'
  exact ⟨s₂, o, sp.trans h1, h2⟩
/-- Object's constructor -/
theorem G.init0 {idx : Nat} {a : Addr} {rest : List Value} (w1 : Jvm.Cond.methodLink own idx Lib.objectInit ∈ W) (w2 : Jvm.Cond.instanceMethod Lib.objectInit ∈ W) (w3 : Jvm.Cond.code Lib.objectInit ⟨#[0xb1]⟩ 1 none ∈ W)
    (hd : at1 code pc = some (.invokespecial idx)) (hls : ls.length = maxL) (hf : 1 ≤ R.frames) (hlo : wt rest + 12 ≤ R.locals)
    (k : G code own nm maxL ret R W l Z b rc rs K (pc + 3) ls rest H cN sN) : G code own nm maxL ret R W l Z b rc rs K pc ls (.ref a :: rest) H cN sN := by
  refine G.move (fun p e s m args below meth c T locs a0 hx hc hm hn hZ ho hw X hF hR => ?_) k
  obtain ⟨T', X', e1, sp⟩ := initO X hx hZ ho (hw _ w1) (hw _ w2) (hw _ w3) rfl (g := mkF m pc ls.toArray (.ref a :: rest)) rfl (by rw [hm]; simpa using hls) rfl (hb hc (at1_e hd)) hf (W := wt rest) (by show 2 * 0 + _ ≤ _; exact Nat.le_of_eq (Nat.zero_add _)) hlo
  exact ⟨T', _, X', hF, by rw [e1]; exact hR, sp⟩
end Calls
end Jvm.OwnKit
namespace Jvm.OwnKit
open Sem ClassFile Op Lib Jvm.Stand Jvm.Free Jvm.LawKit Jvm.RoadKit
theorem rem_toInt (x y : Int32) : (remI x y).toInt = x.toInt.tmod y.toInt := by
  have hx1 := x.toInt_lt; have hx2 := x.le_toInt
  unfold remI
  rw [Int32.toInt_sub, Int32.toInt_mul, Int32.toInt_div, Int.bmod_mul_bmod, Int.sub_bmod_bmod]
  have e : x.toInt - x.toInt.tdiv y.toInt * y.toInt = x.toInt.tmod y.toInt := by
    have := Int.tmod_add_mul_tdiv x.toInt y.toInt
    rw [Int.mul_comm] at this; omega
  rw [e]
  have b1 := Int.natAbs_tmod x.toInt y.toInt
  have b2 := Nat.mod_le x.toInt.natAbs y.toInt.natAbs
  have b3 : x.toInt < 0 → x.toInt.tmod y.toInt ≤ 0 := fun h => by
    have q := Int.tmod_nonneg y.toInt (show 0 ≤ -x.toInt by omega)
    rw [Int.neg_tmod] at q; omega
  refine Int.bmod_eq_of_le ?_ ?_
  · omega
  · by_cases q : x.toInt < 0
    · have := b3 q; omega
    · omega
theorem rem_nn {x y : Int32} (h : 0 ≤ x.toInt) : (remI x y).toInt = x.toInt % y.toInt := by rw [rem_toInt, Int.tmod_eq_emod_of_nonneg h]
theorem remJ_nn {x y : Int64} (h : 0 ≤ x.toInt) : (remJ x y).toInt = x.toInt % y.toInt := Jvm.Kit.i64_rem_nonneg h
theorem cases2 {v : Int32} (h0 : 0 ≤ v.toInt) (h1 : v.toInt < 2) : v = 0 ∨ v = 1 := by
  have q : v.toInt = 0 ∨ v.toInt = 1 := by omega
  rcases q with h | h
  · exact (Or.inl (Int32.toInt_inj.mp (h.trans (by decide : (0 : Int) = (0 : Int32).toInt))))
  · exact (Or.inr (Int32.toInt_inj.mp (h.trans (by decide : (1 : Int) = (1 : Int32).toInt))))
theorem cases3 {v : Int32} (h0 : 0 ≤ v.toInt) (h1 : v.toInt < 3) : v = 0 ∨ v = 1 ∨ v = 2 := by
  have q : v.toInt = 0 ∨ v.toInt = 1 ∨ v.toInt = 2 := by omega
  rcases q with h | h | h
  · exact (Or.inl (Int32.toInt_inj.mp (h.trans (by decide : (0 : Int) = (0 : Int32).toInt))))
  · exact (Or.inr (Or.inl (Int32.toInt_inj.mp (h.trans (by decide : (1 : Int) = (1 : Int32).toInt)))))
  · exact (Or.inr (Or.inr (Int32.toInt_inj.mp (h.trans (by decide : (2 : Int) = (2 : Int32).toInt)))))
theorem cases4 {v : Int32} (h0 : 0 ≤ v.toInt) (h1 : v.toInt < 4) : v = 0 ∨ v = 1 ∨ v = 2 ∨ v = 3 := by
  have q : v.toInt = 0 ∨ v.toInt = 1 ∨ v.toInt = 2 ∨ v.toInt = 3 := by omega
  rcases q with h | h | h | h
  · exact (Or.inl (Int32.toInt_inj.mp (h.trans (by decide : (0 : Int) = (0 : Int32).toInt))))
  · exact (Or.inr (Or.inl (Int32.toInt_inj.mp (h.trans (by decide : (1 : Int) = (1 : Int32).toInt)))))
  · exact (Or.inr (Or.inr (Or.inl (Int32.toInt_inj.mp (h.trans (by decide : (2 : Int) = (2 : Int32).toInt))))))
  · exact (Or.inr (Or.inr (Or.inr (Int32.toInt_inj.mp (h.trans (by decide : (3 : Int) = (3 : Int32).toInt))))))
theorem cases5 {v : Int32} (h0 : 0 ≤ v.toInt) (h1 : v.toInt < 5) : v = 0 ∨ v = 1 ∨ v = 2 ∨ v = 3 ∨ v = 4 := by
  have q : v.toInt = 0 ∨ v.toInt = 1 ∨ v.toInt = 2 ∨ v.toInt = 3 ∨ v.toInt = 4 := by omega
  rcases q with h | h | h | h | h
  · exact (Or.inl (Int32.toInt_inj.mp (h.trans (by decide : (0 : Int) = (0 : Int32).toInt))))
  · exact (Or.inr (Or.inl (Int32.toInt_inj.mp (h.trans (by decide : (1 : Int) = (1 : Int32).toInt)))))
  · exact (Or.inr (Or.inr (Or.inl (Int32.toInt_inj.mp (h.trans (by decide : (2 : Int) = (2 : Int32).toInt))))))
  · exact (Or.inr (Or.inr (Or.inr (Or.inl (Int32.toInt_inj.mp (h.trans (by decide : (3 : Int) = (3 : Int32).toInt)))))))
  · exact (Or.inr (Or.inr (Or.inr (Or.inr (Int32.toInt_inj.mp (h.trans (by decide : (4 : Int) = (4 : Int32).toInt)))))))
theorem cases6 {v : Int32} (h0 : 0 ≤ v.toInt) (h1 : v.toInt < 6) : v = 0 ∨ v = 1 ∨ v = 2 ∨ v = 3 ∨ v = 4 ∨ v = 5 := by
  have q : v.toInt = 0 ∨ v.toInt = 1 ∨ v.toInt = 2 ∨ v.toInt = 3 ∨ v.toInt = 4 ∨ v.toInt = 5 := by omega
  rcases q with h | h | h | h | h | h
  · exact (Or.inl (Int32.toInt_inj.mp (h.trans (by decide : (0 : Int) = (0 : Int32).toInt))))
  · exact (Or.inr (Or.inl (Int32.toInt_inj.mp (h.trans (by decide : (1 : Int) = (1 : Int32).toInt)))))
  · exact (Or.inr (Or.inr (Or.inl (Int32.toInt_inj.mp (h.trans (by decide : (2 : Int) = (2 : Int32).toInt))))))
  · exact (Or.inr (Or.inr (Or.inr (Or.inl (Int32.toInt_inj.mp (h.trans (by decide : (3 : Int) = (3 : Int32).toInt)))))))
  · exact (Or.inr (Or.inr (Or.inr (Or.inr (Or.inl (Int32.toInt_inj.mp (h.trans (by decide : (4 : Int) = (4 : Int32).toInt))))))))
  · exact (Or.inr (Or.inr (Or.inr (Or.inr (Or.inr (Int32.toInt_inj.mp (h.trans (by decide : (5 : Int) = (5 : Int32).toInt))))))))
theorem cases7 {v : Int32} (h0 : 0 ≤ v.toInt) (h1 : v.toInt < 7) : v = 0 ∨ v = 1 ∨ v = 2 ∨ v = 3 ∨ v = 4 ∨ v = 5 ∨ v = 6 := by
  have q : v.toInt = 0 ∨ v.toInt = 1 ∨ v.toInt = 2 ∨ v.toInt = 3 ∨ v.toInt = 4 ∨ v.toInt = 5 ∨ v.toInt = 6 := by omega
  rcases q with h | h | h | h | h | h | h
  · exact (Or.inl (Int32.toInt_inj.mp (h.trans (by decide : (0 : Int) = (0 : Int32).toInt))))
  · exact (Or.inr (Or.inl (Int32.toInt_inj.mp (h.trans (by decide : (1 : Int) = (1 : Int32).toInt)))))
  · exact (Or.inr (Or.inr (Or.inl (Int32.toInt_inj.mp (h.trans (by decide : (2 : Int) = (2 : Int32).toInt))))))
  · exact (Or.inr (Or.inr (Or.inr (Or.inl (Int32.toInt_inj.mp (h.trans (by decide : (3 : Int) = (3 : Int32).toInt)))))))
  · exact (Or.inr (Or.inr (Or.inr (Or.inr (Or.inl (Int32.toInt_inj.mp (h.trans (by decide : (4 : Int) = (4 : Int32).toInt))))))))
  · exact (Or.inr (Or.inr (Or.inr (Or.inr (Or.inr (Or.inl (Int32.toInt_inj.mp (h.trans (by decide : (5 : Int) = (5 : Int32).toInt)))))))))
  · exact (Or.inr (Or.inr (Or.inr (Or.inr (Or.inr (Or.inr (Int32.toInt_inj.mp (h.trans (by decide : (6 : Int) = (6 : Int32).toInt)))))))))
theorem cases8 {v : Int32} (h0 : 0 ≤ v.toInt) (h1 : v.toInt < 8) : v = 0 ∨ v = 1 ∨ v = 2 ∨ v = 3 ∨ v = 4 ∨ v = 5 ∨ v = 6 ∨ v = 7 := by
  have q : v.toInt = 0 ∨ v.toInt = 1 ∨ v.toInt = 2 ∨ v.toInt = 3 ∨ v.toInt = 4 ∨ v.toInt = 5 ∨ v.toInt = 6 ∨ v.toInt = 7 := by omega
  rcases q with h | h | h | h | h | h | h | h
  · exact (Or.inl (Int32.toInt_inj.mp (h.trans (by decide : (0 : Int) = (0 : Int32).toInt))))
  · exact (Or.inr (Or.inl (Int32.toInt_inj.mp (h.trans (by decide : (1 : Int) = (1 : Int32).toInt)))))
  · exact (Or.inr (Or.inr (Or.inl (Int32.toInt_inj.mp (h.trans (by decide : (2 : Int) = (2 : Int32).toInt))))))
  · exact (Or.inr (Or.inr (Or.inr (Or.inl (Int32.toInt_inj.mp (h.trans (by decide : (3 : Int) = (3 : Int32).toInt)))))))
  · exact (Or.inr (Or.inr (Or.inr (Or.inr (Or.inl (Int32.toInt_inj.mp (h.trans (by decide : (4 : Int) = (4 : Int32).toInt))))))))
  · exact (Or.inr (Or.inr (Or.inr (Or.inr (Or.inr (Or.inl (Int32.toInt_inj.mp (h.trans (by decide : (5 : Int) = (5 : Int32).toInt)))))))))
  · exact (Or.inr (Or.inr (Or.inr (Or.inr (Or.inr (Or.inr (Or.inl (Int32.toInt_inj.mp (h.trans (by decide : (6 : Int) = (6 : Int32).toInt))))))))))
  · exact (Or.inr (Or.inr (Or.inr (Or.inr (Or.inr (Or.inr (Or.inr (Int32.toInt_inj.mp (h.trans (by decide : (7 : Int) = (7 : Int32).toInt))))))))))
theorem cases10 {v : Int32} (h0 : 0 ≤ v.toInt) (h1 : v.toInt < 10) : v = 0 ∨ v = 1 ∨ v = 2 ∨ v = 3 ∨ v = 4 ∨ v = 5 ∨ v = 6 ∨ v = 7 ∨ v = 8 ∨ v = 9 := by
  have q : v.toInt = 0 ∨ v.toInt = 1 ∨ v.toInt = 2 ∨ v.toInt = 3 ∨ v.toInt = 4 ∨ v.toInt = 5 ∨ v.toInt = 6 ∨ v.toInt = 7 ∨ v.toInt = 8 ∨ v.toInt = 9 := by omega
  rcases q with h | h | h | h | h | h | h | h | h | h
  · exact (Or.inl (Int32.toInt_inj.mp (h.trans (by decide : (0 : Int) = (0 : Int32).toInt))))
  · exact (Or.inr (Or.inl (Int32.toInt_inj.mp (h.trans (by decide : (1 : Int) = (1 : Int32).toInt)))))
  · exact (Or.inr (Or.inr (Or.inl (Int32.toInt_inj.mp (h.trans (by decide : (2 : Int) = (2 : Int32).toInt))))))
  · exact (Or.inr (Or.inr (Or.inr (Or.inl (Int32.toInt_inj.mp (h.trans (by decide : (3 : Int) = (3 : Int32).toInt)))))))
  · exact (Or.inr (Or.inr (Or.inr (Or.inr (Or.inl (Int32.toInt_inj.mp (h.trans (by decide : (4 : Int) = (4 : Int32).toInt))))))))
  · exact (Or.inr (Or.inr (Or.inr (Or.inr (Or.inr (Or.inl (Int32.toInt_inj.mp (h.trans (by decide : (5 : Int) = (5 : Int32).toInt)))))))))
  · exact (Or.inr (Or.inr (Or.inr (Or.inr (Or.inr (Or.inr (Or.inl (Int32.toInt_inj.mp (h.trans (by decide : (6 : Int) = (6 : Int32).toInt))))))))))
  · exact (Or.inr (Or.inr (Or.inr (Or.inr (Or.inr (Or.inr (Or.inr (Or.inl (Int32.toInt_inj.mp (h.trans (by decide : (7 : Int) = (7 : Int32).toInt)))))))))))
  · exact (Or.inr (Or.inr (Or.inr (Or.inr (Or.inr (Or.inr (Or.inr (Or.inr (Or.inl (Int32.toInt_inj.mp (h.trans (by decide : (8 : Int) = (8 : Int32).toInt))))))))))))
  · exact (Or.inr (Or.inr (Or.inr (Or.inr (Or.inr (Or.inr (Or.inr (Or.inr (Or.inr (Int32.toInt_inj.mp (h.trans (by decide : (9 : Int) = (9 : Int32).toInt))))))))))))
theorem cases16 {v : Int32} (h0 : 0 ≤ v.toInt) (h1 : v.toInt < 16) : v = 0 ∨ v = 1 ∨ v = 2 ∨ v = 3 ∨ v = 4 ∨ v = 5 ∨ v = 6 ∨ v = 7 ∨ v = 8 ∨ v = 9 ∨ v = 10 ∨ v = 11 ∨ v = 12 ∨ v = 13 ∨ v = 14 ∨ v = 15 := by
  have q : v.toInt = 0 ∨ v.toInt = 1 ∨ v.toInt = 2 ∨ v.toInt = 3 ∨ v.toInt = 4 ∨ v.toInt = 5 ∨ v.toInt = 6 ∨ v.toInt = 7 ∨ v.toInt = 8 ∨ v.toInt = 9 ∨ v.toInt = 10 ∨ v.toInt = 11 ∨ v.toInt = 12 ∨ v.toInt = 13 ∨ v.toInt = 14 ∨ v.toInt = 15 := by omega
  rcases q with h | h | h | h | h | h | h | h | h | h | h | h | h | h | h | h
  · exact (Or.inl (Int32.toInt_inj.mp (h.trans (by decide : (0 : Int) = (0 : Int32).toInt))))
  · exact (Or.inr (Or.inl (Int32.toInt_inj.mp (h.trans (by decide : (1 : Int) = (1 : Int32).toInt)))))
  · exact (Or.inr (Or.inr (Or.inl (Int32.toInt_inj.mp (h.trans (by decide : (2 : Int) = (2 : Int32).toInt))))))
  · exact (Or.inr (Or.inr (Or.inr (Or.inl (Int32.toInt_inj.mp (h.trans (by decide : (3 : Int) = (3 : Int32).toInt)))))))
  · exact (Or.inr (Or.inr (Or.inr (Or.inr (Or.inl (Int32.toInt_inj.mp (h.trans (by decide : (4 : Int) = (4 : Int32).toInt))))))))
  · exact (Or.inr (Or.inr (Or.inr (Or.inr (Or.inr (Or.inl (Int32.toInt_inj.mp (h.trans (by decide : (5 : Int) = (5 : Int32).toInt)))))))))
  · exact (Or.inr (Or.inr (Or.inr (Or.inr (Or.inr (Or.inr (Or.inl (Int32.toInt_inj.mp (h.trans (by decide : (6 : Int) = (6 : Int32).toInt))))))))))
  · exact (Or.inr (Or.inr (Or.inr (Or.inr (Or.inr (Or.inr (Or.inr (Or.inl (Int32.toInt_inj.mp (h.trans (by decide : (7 : Int) = (7 : Int32).toInt)))))))))))
  · exact (Or.inr (Or.inr (Or.inr (Or.inr (Or.inr (Or.inr (Or.inr (Or.inr (Or.inl (Int32.toInt_inj.mp (h.trans (by decide : (8 : Int) = (8 : Int32).toInt))))))))))))
  · exact (Or.inr (Or.inr (Or.inr (Or.inr (Or.inr (Or.inr (Or.inr (Or.inr (Or.inr (Or.inl (Int32.toInt_inj.mp (h.trans (by decide : (9 : Int) = (9 : Int32).toInt)))))))))))))
  · exact (Or.inr (Or.inr (Or.inr (Or.inr (Or.inr (Or.inr (Or.inr (Or.inr (Or.inr (Or.inr (Or.inl (Int32.toInt_inj.mp (h.trans (by decide : (10 : Int) = (10 : Int32).toInt))))))))))))))
  · exact (Or.inr (Or.inr (Or.inr (Or.inr (Or.inr (Or.inr (Or.inr (Or.inr (Or.inr (Or.inr (Or.inr (Or.inl (Int32.toInt_inj.mp (h.trans (by decide : (11 : Int) = (11 : Int32).toInt)))))))))))))))
  · exact (Or.inr (Or.inr (Or.inr (Or.inr (Or.inr (Or.inr (Or.inr (Or.inr (Or.inr (Or.inr (Or.inr (Or.inr (Or.inl (Int32.toInt_inj.mp (h.trans (by decide : (12 : Int) = (12 : Int32).toInt))))))))))))))))
  · exact (Or.inr (Or.inr (Or.inr (Or.inr (Or.inr (Or.inr (Or.inr (Or.inr (Or.inr (Or.inr (Or.inr (Or.inr (Or.inr (Or.inl (Int32.toInt_inj.mp (h.trans (by decide : (13 : Int) = (13 : Int32).toInt)))))))))))))))))
  · exact (Or.inr (Or.inr (Or.inr (Or.inr (Or.inr (Or.inr (Or.inr (Or.inr (Or.inr (Or.inr (Or.inr (Or.inr (Or.inr (Or.inr (Or.inl (Int32.toInt_inj.mp (h.trans (by decide : (14 : Int) = (14 : Int32).toInt))))))))))))))))))
  · exact (Or.inr (Or.inr (Or.inr (Or.inr (Or.inr (Or.inr (Or.inr (Or.inr (Or.inr (Or.inr (Or.inr (Or.inr (Or.inr (Or.inr (Or.inr (Int32.toInt_inj.mp (h.trans (by decide : (15 : Int) = (15 : Int32).toInt))))))))))))))))))
theorem onat {n : Nat} (h : n < 2147483648) : (Int32.ofNat n).toInt = n := Int32.toInt_ofNat_of_lt h
theorem onat_lt {n m : Nat} (hn : n < 2147483648) (hm : m < 2147483648) : (Int32.ofNat n < Int32.ofNat m) = (n < m) := by
  rw [Int32.lt_iff_toInt_lt, onat hn, onat hm]; exact propext ⟨fun h => by omega, fun h => by omega⟩
theorem onat_nn {n : Nat} (h : n < 2147483648) : (Int32.ofNat n < 0) = False := by
  have z : (0 : Int32).toInt = 0 := rfl
  rw [Int32.lt_iff_toInt_lt, onat h, z]; exact propext ⟨fun h => by omega, False.elim⟩
theorem onat_nat {n : Nat} (h : n < 2147483648) : (Int32.ofNat n).toNatClampNeg = n := by
  rw [Int32.toNatClampNeg, onat h]; rfl
theorem onat_succ (n : Nat) : Int32.ofNat n + 1 = Int32.ofNat (n + 1) := (Int32.ofNat_add n 1).symm
/-- an array of ints (or narrower): its n-th value -/
def ivs (xs : List Int32) : List Value := xs.map Value.int
theorem ivs_c {x : Int32} {xs : List Int32} : ivs (x :: xs) = .int x :: ivs xs := rfl
theorem ivs_n : ivs [] = [] := rfl
theorem ivs_len (xs : List Int32) : (ivs xs).length = xs.length := by simp [ivs]
theorem idx_at {pre suf : List Int32} {x : Int32} {f : Value → Prop} (h : pre.length < 2147483648) : idx (ivs (pre ++ x :: suf)) (Int32.ofNat pre.length) f = f (.int x) := by
  rw [idx_c, if_neg (by rw [onat_nn h]; exact id), onat_nat h]
  simp [idxN, ivs]
end Jvm.OwnKit
namespace Jvm.OwnKit
theorem a32 {x q : Int32} {c : Int} (hq : q.toInt = c) (h1 : -2 ^ 31 ≤ x.toInt + c) (h2 : x.toInt + c < 2 ^ 31) : (x + q).toInt = x.toInt + c := by subst hq; exact Jvm.Kit.i32_add h1 h2
theorem s32 {x q : Int32} {c : Int} (hq : q.toInt = c) (h1 : -2 ^ 31 ≤ x.toInt - c) (h2 : x.toInt - c < 2 ^ 31) : (x - q).toInt = x.toInt - c := by subst hq; exact Jvm.Kit.i32_sub h1 h2
theorem m32 {x q : Int32} {c : Int} (hq : q.toInt = c) (h1 : -2 ^ 31 ≤ x.toInt * c) (h2 : x.toInt * c < 2 ^ 31) : (x * q).toInt = x.toInt * c := by subst hq; exact Jvm.Kit.i32_mul h1 h2
theorem d32 {x q : Int32} {c : Int} (hq : q.toInt = c) (h1 : 0 ≤ x.toInt) (h2 : 0 < c) : (x / q).toInt = x.toInt / c := by
  subst hq; rw [Jvm.Kit.i32_div (by omega), Int.tdiv_eq_ediv_of_nonneg h1]
theorem a64 {x q : Int64} {c : Int} (hq : q.toInt = c) (h1 : -2 ^ 63 ≤ x.toInt + c) (h2 : x.toInt + c < 2 ^ 63) : (x + q).toInt = x.toInt + c := by subst hq; exact Jvm.Kit.i64_add h1 h2
theorem s64 {x q : Int64} {c : Int} (hq : q.toInt = c) (h1 : -2 ^ 63 ≤ x.toInt - c) (h2 : x.toInt - c < 2 ^ 63) : (x - q).toInt = x.toInt - c := by subst hq; exact Jvm.Kit.i64_sub h1 h2
theorem m64 {x q : Int64} {c : Int} (hq : q.toInt = c) (h1 : -2 ^ 63 ≤ x.toInt * c) (h2 : x.toInt * c < 2 ^ 63) : (x * q).toInt = x.toInt * c := by subst hq; exact Jvm.Kit.i64_mul h1 h2
theorem d64 {x q : Int64} {c : Int} (hq : q.toInt = c) (h1 : 0 ≤ x.toInt) (h2 : 0 < c) : (x / q).toInt = x.toInt / c := by
  subst hq; rw [Jvm.Kit.i64_div (by omega), Int.tdiv_eq_ediv_of_nonneg h1]
end Jvm.OwnKit
namespace Jvm.OwnKit
/-- a place of a list, by a natural index -/
theorem idx_lt {vs : List Value} {n : Nat} {v : Value} {f : Value → Prop} (h : n < 2147483648) (hv : vs[n]? = some v) : idx vs (Int32.ofNat n) f = f v := by
  rw [idx_c, if_neg (by rw [onat_nn h]; exact id), onat_nat h]
  simp [idxN, hv]
theorem idx_ig {vs : List Value} {n : Nat} {P : Prop} (h : n < 2147483648) (hv : n < vs.length) : idx vs (Int32.ofNat n) (fun _ => P) = P :=
  idx_lt h (List.getElem?_eq_getElem hv)
theorem setN_d {vs : List Value} {n : Nat} {v : Value} {f : List Value → Prop} : setN vs n v f = f (vs.set n v) := propext Iff.rfl
end Jvm.OwnKit
namespace Jvm.OwnKit
theorem ivs_set {xs : List Int32} {n : Nat} {x : Int32} : (ivs xs).set n (.int x) = ivs (xs.set n x) := by simp [ivs, List.map_set]
theorem idx_iv {xs : List Int32} {n : Nat} {P : Prop} (h : n < 2147483648) (hv : n < xs.length) : idx (ivs xs) (Int32.ofNat n) (fun _ => P) = P := idx_ig h (by rw [ivs_len]; exact hv)
theorem onat_add (n m : Nat) : Int32.ofNat n + Int32.ofNat m = Int32.ofNat (n + m) := (Int32.ofNat_add n m).symm
theorem onat_2 (n : Nat) : Int32.ofNat n + 2 = Int32.ofNat (n + 2) := (Int32.ofNat_add n 2).symm
/-- a small int is a natural -/
theorem to_onat {x : Int32} {m : Nat} (h0 : 0 ≤ x.toInt) (h1 : x.toInt < m) : ∃ n, n < m ∧ x = Int32.ofNat n := by
  have hl := x.toInt_lt
  exact ⟨x.toInt.toNat, by omega, Int32.toInt_inj.mp (by rw [onat (by omega)]; omega)⟩
end Jvm.OwnKit
namespace Jvm.OwnKit
open Sem ClassFile Op Lib Jvm.Stand Jvm.Free Jvm.LawKit Jvm.RoadKit
/-! the machine's equations, bundled -/
theorem B0 : type_of% @popI_c ∧ type_of% @popJ_c ∧ type_of% @popR_c ∧ type_of% @pop1_i ∧ type_of% @pop1_r ∧ type_of% @pop1_n ∧ type_of% @popA_r ∧ type_of% @popA_n ∧ type_of% @ldI_z ∧ type_of% @ldJ_z ∧ type_of% @ldA_z ∧ type_of% @ldA_n ∧ type_of% @ldI_s ∧ type_of% @ldJ_s ∧ type_of% @ldA_s ∧ type_of% @sto1_u ∧ type_of% @sto1_i ∧ type_of% @sto1_r ∧ type_of% @sto1_n ∧ type_of% @sto1_s ∧ type_of% @sto2_u ∧ type_of% @sto2_l ∧ type_of% @sto2_s ∧ type_of% @arr_c ∧ type_of% @arrI_z ∧ type_of% @arrI_s ∧ type_of% @obj_c ∧ type_of% @objI_z ∧ type_of% @objI_s ∧ type_of% @setL_z ∧ type_of% @setL_s ∧ type_of% @setH_z ∧ type_of% @setH_s ∧ type_of% @snoc_z ∧ type_of% @snoc_s ∧ type_of% @onLen_0 ∧ type_of% @onLen_1 ∧ type_of% @onLen_2 ∧ type_of% @onLen_3 ∧ type_of% @onLen_4 ∧ type_of% @repN_c ∧ type_of% @onSome_c ∧ type_of% @fgt_c ∧ type_of% @fst_n ∧ type_of% @fst_c := ⟨@popI_c, @popJ_c, @popR_c, @pop1_i, @pop1_r, @pop1_n, @popA_r, @popA_n, @ldI_z, @ldJ_z, @ldA_z, @ldA_n, @ldI_s, @ldJ_s, @ldA_s, @sto1_u, @sto1_i, @sto1_r, @sto1_n, @sto1_s, @sto2_u, @sto2_l, @sto2_s, @arr_c, @arrI_z, @arrI_s, @obj_c, @objI_z, @objI_s, @setL_z, @setL_s, @setH_z, @setH_s, @snoc_z, @snoc_s, @onLen_0, @onLen_1, @onLen_2, @onLen_3, @onLen_4, @repN_c, @onSome_c, @fgt_c, @fst_n, @fst_c⟩
theorem B1 : type_of% @nar_b0 ∧ type_of% @nar_b1 ∧ type_of% @nar_bb ∧ type_of% @nar_cc ∧ type_of% @cmpL_lt ∧ type_of% @cmpL_gt ∧ type_of% @cmpL_eq ∧ type_of% @i32_nl ∧ type_of% @i32_ng ∧ type_of% @i64_nl ∧ type_of% @i64_ng := ⟨@nar_b0, @nar_b1, @nar_bb, @nar_cc, @cmpL_lt, @cmpL_gt, @cmpL_eq, @i32_nl, @i32_ng, @i64_nl, @i64_ng⟩
end Jvm.OwnKit
namespace Jvm.Pilot.@@N@@
open Jvm Jvm.ClassFile Sem Op Lib Jvm.Free Jvm.Stand Jvm.LawKit Jvm.RoadKit Bundle Jvm.OwnKit Jvm.Pilot.@@N@@.Jvm.D
set_option maxRecDepth 65536
set_option maxHeartbeats 4000000
def G0 (l : Launch) (Z : State) (b : Heap) (K : Option Value → List Cel → Prop) : Cont := G code "com/example/twinsift/twinsift/cover/VarintReadPinLaw" "law" maxLocals ret room_1 tables_1 l Z b 16 128 K
def V0 (l : Launch) (Z : State) (b : Heap) (K : Option Value → List Cel → Prop) : Nat → Cont := Wn [] code [] [(7, 128), (9, 16384), (11, 2097152), (13, 268435456)] [] [.byte] [] [] ret room_1 b.size 16 128 K (G0 l Z b K)
section Body0
variable {l : Launch} {Z : State} {b : Heap} {K : Option Value → List Cel → Prop} {q : Nat} {ls : List Slot} {st : List Value} {H : List Cel} {cN sN : Nat}
theorem r0 (q : Nat) {pc : Nat} (h : V0 l Z b K q pc ls st H cN sN) : G0 l Z b K pc ls st H cN sN := G.run q (by intro x hx; cases hx) (by intro x hx; simp only [List.mem_cons, List.not_mem_nil, or_false] at hx; rcases hx with rfl | rfl | rfl | rfl <;> first | exact List.mem_of_getElem? (i := 5) rfl | exact List.mem_of_getElem? (i := 6) rfl | exact List.mem_of_getElem? (i := 7) rfl | exact List.mem_of_getElem? (i := 8) rfl) (by intro x hx; cases hx) (by intro x hx; simp only [List.mem_cons, List.not_mem_nil, or_false] at hx; rcases hx with rfl <;> first | exact List.mem_of_getElem? (i := 0) rfl) (by intro x hx; cases hx) (by intro x hx; cases hx) h
theorem z0 {pc : Nat} : V0 l Z b K 0 pc ls st H cN sN = G0 l Z b K pc ls st H cN sN := propext Iff.rfl
theorem f0_0 : at1 code 0 = some (.iload_n 2) := at1_of at_0 rfl (by decide)
theorem s0_0 : V0 l Z b K (q + 1) 0 ls st H cN sN = (ldI ls 2 fun v => V0 l Z b K q 1 ls (.int v :: st) H cN sN) := by show Wn _ _ _ _ _ _ _ _ _ _ _ _ _ _ _ (q + 1) _ _ _ _ _ _ = _; rw [wn_s (by decide), f0_0]; rfl
theorem f0_1 : at1 code 1 = some (.iconst 3) := at1_of at_1 rfl (by decide)
theorem s0_1 : V0 l Z b K (q + 1) 1 ls st H cN sN = (V0 l Z b K q 2 ls (.int 3 :: st) H cN sN) := by show Wn _ _ _ _ _ _ _ _ _ _ _ _ _ _ _ (q + 1) _ _ _ _ _ _ = _; rw [wn_s (by decide), f0_1]; rfl
theorem f0_2 : at1 code 2 = some (.iand) := at1_of at_2 rfl (by decide)
theorem s0_2 : V0 l Z b K (q + 1) 2 ls st H cN sN = (popI st fun y r => popI r fun x r => V0 l Z b K q 3 ls (.int (x &&& y) :: r) H cN sN) := by show Wn _ _ _ _ _ _ _ _ _ _ _ _ _ _ _ (q + 1) _ _ _ _ _ _ = _; rw [wn_s (by decide), f0_2]; rfl
theorem f0_3 : at1 code 3 = some (.istore_n 3) := at1_of at_3 rfl (by decide)
theorem s0_3 : V0 l Z b K (q + 1) 3 ls st H cN sN = (popI st fun v r => sto1 ls 3 (.int v) fun l' => V0 l Z b K q 4 l' r H cN sN) := by show Wn _ _ _ _ _ _ _ _ _ _ _ _ _ _ _ (q + 1) _ _ _ _ _ _ = _; rw [wn_s (by decide), f0_3]; rfl
theorem f0_4 : at1 code 4 = some (.iload_n 1) := at1_of at_4 rfl (by decide)
theorem s0_4 : V0 l Z b K (q + 1) 4 ls st H cN sN = (ldI ls 1 fun v => V0 l Z b K q 5 ls (.int v :: st) H cN sN) := by show Wn _ _ _ _ _ _ _ _ _ _ _ _ _ _ _ (q + 1) _ _ _ _ _ _ = _; rw [wn_s (by decide), f0_4]; rfl
theorem f0_5 : at1 code 5 = some (.bipush 8) := at1_of at_5 rfl (by decide)
theorem s0_5 : V0 l Z b K (q + 1) 5 ls st H cN sN = (V0 l Z b K q 7 ls (.int 8 :: st) H cN sN) := by show Wn _ _ _ _ _ _ _ _ _ _ _ _ _ _ _ (q + 1) _ _ _ _ _ _ = _; rw [wn_s (by decide), f0_5]; rfl
theorem f0_7 : at1 code 7 = some (.ishr) := at1_of at_7 rfl (by decide)
theorem s0_7 : V0 l Z b K (q + 1) 7 ls st H cN sN = (popI st fun y r => popI r fun x r => V0 l Z b K q 8 ls (.int (x >>> (y &&& 31)) :: r) H cN sN) := by show Wn _ _ _ _ _ _ _ _ _ _ _ _ _ _ _ (q + 1) _ _ _ _ _ _ = _; rw [wn_s (by decide), f0_7]; rfl
theorem f0_8 : at1 code 8 = some (.i2b) := at1_of at_8 rfl (by decide)
theorem s0_8 : V0 l Z b K (q + 1) 8 ls st H cN sN = (popI st fun x r => V0 l Z b K q 9 ls (.int (nar .byte x) :: r) H cN sN) := by show Wn _ _ _ _ _ _ _ _ _ _ _ _ _ _ _ (q + 1) _ _ _ _ _ _ = _; rw [wn_s (by decide), f0_8]; rfl
theorem f0_9 : at1 code 9 = some (.istore 4) := at1_of at_9 rfl (by decide)
theorem s0_9 : V0 l Z b K (q + 1) 9 ls st H cN sN = (popI st fun v r => sto1 ls 4 (.int v) fun l' => V0 l Z b K q 11 l' r H cN sN) := by show Wn _ _ _ _ _ _ _ _ _ _ _ _ _ _ _ (q + 1) _ _ _ _ _ _ = _; rw [wn_s (by decide), f0_9]; rfl
theorem f0_11 : at1 code 11 = some (.bipush 10) := at1_of at_11 rfl (by decide)
theorem s0_11 : V0 l Z b K (q + 1) 11 ls st H cN sN = (V0 l Z b K q 13 ls (.int 10 :: st) H cN sN) := by show Wn _ _ _ _ _ _ _ _ _ _ _ _ _ _ _ (q + 1) _ _ _ _ _ _ = _; rw [wn_s (by decide), f0_11]; rfl
theorem f0_13 : at1 code 13 = some (.newarray .byte) := at1_of at_13 rfl (by decide)
theorem s0_13 : V0 l Z b K (q + 1) 13 ls st H cN sN = (popI st fun n r => if ¬ n < 0 ∧ .byte ∈ ([.byte] : List FieldType) ∧ n.toNatClampNeg ≤ 65536 ∧ cN + 1 ≤ room_1.cells ∧ sN + n.toNatClampNeg ≤ room_1.slots then onLen H fun i => repN n.toNatClampNeg (.int 0) fun vs => snoc H (.inl (.byte, vs)) fun H' => V0 l Z b K q 15 ls (.ref (ad b.size i) :: r) H' (cN + 1) (sN + n.toNatClampNeg) else False) := by show Wn _ _ _ _ _ _ _ _ _ _ _ _ _ _ _ (q + 1) _ _ _ _ _ _ = _; rw [wn_s (by decide), f0_13]; rfl
theorem f0_15 : at1 code 15 = some (.astore 5) := at1_of at_15 rfl (by decide)
theorem s0_15 : V0 l Z b K (q + 1) 15 ls st H cN sN = (popA st fun v r => sto1 ls 5 v fun l' => V0 l Z b K q 17 l' r H cN sN) := by show Wn _ _ _ _ _ _ _ _ _ _ _ _ _ _ _ (q + 1) _ _ _ _ _ _ = _; rw [wn_s (by decide), f0_15]; rfl
theorem f0_17 : at1 code 17 = some (.aload 5) := at1_of at_17 rfl (by decide)
theorem s0_17 : V0 l Z b K (q + 1) 17 ls st H cN sN = (ldA ls 5 fun v => V0 l Z b K q 19 ls (v :: st) H cN sN) := by show Wn _ _ _ _ _ _ _ _ _ _ _ _ _ _ _ (q + 1) _ _ _ _ _ _ = _; rw [wn_s (by decide), f0_17]; rfl
theorem f0_19 : at1 code 19 = some (.iconst 0) := at1_of at_19 rfl (by decide)
theorem s0_19 : V0 l Z b K (q + 1) 19 ls st H cN sN = (V0 l Z b K q 20 ls (.int 0 :: st) H cN sN) := by show Wn _ _ _ _ _ _ _ _ _ _ _ _ _ _ _ (q + 1) _ _ _ _ _ _ = _; rw [wn_s (by decide), f0_19]; rfl
theorem f0_20 : at1 code 20 = some (.iload 4) := at1_of at_20 rfl (by decide)
theorem s0_20 : V0 l Z b K (q + 1) 20 ls st H cN sN = (ldI ls 4 fun v => V0 l Z b K q 22 ls (.int v :: st) H cN sN) := by show Wn _ _ _ _ _ _ _ _ _ _ _ _ _ _ _ (q + 1) _ _ _ _ _ _ = _; rw [wn_s (by decide), f0_20]; rfl
theorem f0_22 : at1 code 22 = some (.bastore) := at1_of at_22 rfl (by decide)
theorem s0_22 : V0 l Z b K (q + 1) 22 ls st H cN sN = (popI st fun x r => popI r fun j r => popR r fun a r => arr H b.size a fun i ty vs => if ty = .byte then idx vs j fun _ => setN vs j.toNatClampNeg (.int (nar .byte x)) fun vs' => setH H i (.inl (.byte, vs')) fun H' => V0 l Z b K q 23 ls r H' cN sN else False) := by show Wn _ _ _ _ _ _ _ _ _ _ _ _ _ _ _ (q + 1) _ _ _ _ _ _ = _; rw [wn_s (by decide), f0_22]; rfl
theorem f0_23 : at1 code 23 = some (.aload 5) := at1_of at_23 rfl (by decide)
theorem s0_23 : V0 l Z b K (q + 1) 23 ls st H cN sN = (ldA ls 5 fun v => V0 l Z b K q 25 ls (v :: st) H cN sN) := by show Wn _ _ _ _ _ _ _ _ _ _ _ _ _ _ _ (q + 1) _ _ _ _ _ _ = _; rw [wn_s (by decide), f0_23]; rfl
theorem f0_25 : at1 code 25 = some (.iconst 1) := at1_of at_25 rfl (by decide)
theorem s0_25 : V0 l Z b K (q + 1) 25 ls st H cN sN = (V0 l Z b K q 26 ls (.int 1 :: st) H cN sN) := by show Wn _ _ _ _ _ _ _ _ _ _ _ _ _ _ _ (q + 1) _ _ _ _ _ _ = _; rw [wn_s (by decide), f0_25]; rfl
theorem f0_26 : at1 code 26 = some (.iload 4) := at1_of at_26 rfl (by decide)
theorem s0_26 : V0 l Z b K (q + 1) 26 ls st H cN sN = (ldI ls 4 fun v => V0 l Z b K q 28 ls (.int v :: st) H cN sN) := by show Wn _ _ _ _ _ _ _ _ _ _ _ _ _ _ _ (q + 1) _ _ _ _ _ _ = _; rw [wn_s (by decide), f0_26]; rfl
theorem f0_28 : at1 code 28 = some (.bastore) := at1_of at_28 rfl (by decide)
theorem s0_28 : V0 l Z b K (q + 1) 28 ls st H cN sN = (popI st fun x r => popI r fun j r => popR r fun a r => arr H b.size a fun i ty vs => if ty = .byte then idx vs j fun _ => setN vs j.toNatClampNeg (.int (nar .byte x)) fun vs' => setH H i (.inl (.byte, vs')) fun H' => V0 l Z b K q 29 ls r H' cN sN else False) := by show Wn _ _ _ _ _ _ _ _ _ _ _ _ _ _ _ (q + 1) _ _ _ _ _ _ = _; rw [wn_s (by decide), f0_28]; rfl
theorem f0_29 : at1 code 29 = some (.aload 5) := at1_of at_29 rfl (by decide)
theorem s0_29 : V0 l Z b K (q + 1) 29 ls st H cN sN = (ldA ls 5 fun v => V0 l Z b K q 31 ls (v :: st) H cN sN) := by show Wn _ _ _ _ _ _ _ _ _ _ _ _ _ _ _ (q + 1) _ _ _ _ _ _ = _; rw [wn_s (by decide), f0_29]; rfl
theorem f0_31 : at1 code 31 = some (.iconst 2) := at1_of at_31 rfl (by decide)
theorem s0_31 : V0 l Z b K (q + 1) 31 ls st H cN sN = (V0 l Z b K q 32 ls (.int 2 :: st) H cN sN) := by show Wn _ _ _ _ _ _ _ _ _ _ _ _ _ _ _ (q + 1) _ _ _ _ _ _ = _; rw [wn_s (by decide), f0_31]; rfl
theorem f0_32 : at1 code 32 = some (.iload 4) := at1_of at_32 rfl (by decide)
theorem s0_32 : V0 l Z b K (q + 1) 32 ls st H cN sN = (ldI ls 4 fun v => V0 l Z b K q 34 ls (.int v :: st) H cN sN) := by show Wn _ _ _ _ _ _ _ _ _ _ _ _ _ _ _ (q + 1) _ _ _ _ _ _ = _; rw [wn_s (by decide), f0_32]; rfl
theorem f0_34 : at1 code 34 = some (.bastore) := at1_of at_34 rfl (by decide)
theorem s0_34 : V0 l Z b K (q + 1) 34 ls st H cN sN = (popI st fun x r => popI r fun j r => popR r fun a r => arr H b.size a fun i ty vs => if ty = .byte then idx vs j fun _ => setN vs j.toNatClampNeg (.int (nar .byte x)) fun vs' => setH H i (.inl (.byte, vs')) fun H' => V0 l Z b K q 35 ls r H' cN sN else False) := by show Wn _ _ _ _ _ _ _ _ _ _ _ _ _ _ _ (q + 1) _ _ _ _ _ _ = _; rw [wn_s (by decide), f0_34]; rfl
theorem f0_35 : at1 code 35 = some (.aload 5) := at1_of at_35 rfl (by decide)
theorem s0_35 : V0 l Z b K (q + 1) 35 ls st H cN sN = (ldA ls 5 fun v => V0 l Z b K q 37 ls (v :: st) H cN sN) := by show Wn _ _ _ _ _ _ _ _ _ _ _ _ _ _ _ (q + 1) _ _ _ _ _ _ = _; rw [wn_s (by decide), f0_35]; rfl
theorem f0_37 : at1 code 37 = some (.iconst 3) := at1_of at_37 rfl (by decide)
theorem s0_37 : V0 l Z b K (q + 1) 37 ls st H cN sN = (V0 l Z b K q 38 ls (.int 3 :: st) H cN sN) := by show Wn _ _ _ _ _ _ _ _ _ _ _ _ _ _ _ (q + 1) _ _ _ _ _ _ = _; rw [wn_s (by decide), f0_37]; rfl
theorem f0_38 : at1 code 38 = some (.iload 4) := at1_of at_38 rfl (by decide)
theorem s0_38 : V0 l Z b K (q + 1) 38 ls st H cN sN = (ldI ls 4 fun v => V0 l Z b K q 40 ls (.int v :: st) H cN sN) := by show Wn _ _ _ _ _ _ _ _ _ _ _ _ _ _ _ (q + 1) _ _ _ _ _ _ = _; rw [wn_s (by decide), f0_38]; rfl
theorem f0_40 : at1 code 40 = some (.bastore) := at1_of at_40 rfl (by decide)
theorem s0_40 : V0 l Z b K (q + 1) 40 ls st H cN sN = (popI st fun x r => popI r fun j r => popR r fun a r => arr H b.size a fun i ty vs => if ty = .byte then idx vs j fun _ => setN vs j.toNatClampNeg (.int (nar .byte x)) fun vs' => setH H i (.inl (.byte, vs')) fun H' => V0 l Z b K q 41 ls r H' cN sN else False) := by show Wn _ _ _ _ _ _ _ _ _ _ _ _ _ _ _ (q + 1) _ _ _ _ _ _ = _; rw [wn_s (by decide), f0_40]; rfl
theorem f0_41 : at1 code 41 = some (.aload 5) := at1_of at_41 rfl (by decide)
theorem s0_41 : V0 l Z b K (q + 1) 41 ls st H cN sN = (ldA ls 5 fun v => V0 l Z b K q 43 ls (v :: st) H cN sN) := by show Wn _ _ _ _ _ _ _ _ _ _ _ _ _ _ _ (q + 1) _ _ _ _ _ _ = _; rw [wn_s (by decide), f0_41]; rfl
theorem f0_43 : at1 code 43 = some (.iconst 4) := at1_of at_43 rfl (by decide)
theorem s0_43 : V0 l Z b K (q + 1) 43 ls st H cN sN = (V0 l Z b K q 44 ls (.int 4 :: st) H cN sN) := by show Wn _ _ _ _ _ _ _ _ _ _ _ _ _ _ _ (q + 1) _ _ _ _ _ _ = _; rw [wn_s (by decide), f0_43]; rfl
theorem f0_44 : at1 code 44 = some (.iload 4) := at1_of at_44 rfl (by decide)
theorem s0_44 : V0 l Z b K (q + 1) 44 ls st H cN sN = (ldI ls 4 fun v => V0 l Z b K q 46 ls (.int v :: st) H cN sN) := by show Wn _ _ _ _ _ _ _ _ _ _ _ _ _ _ _ (q + 1) _ _ _ _ _ _ = _; rw [wn_s (by decide), f0_44]; rfl
theorem f0_46 : at1 code 46 = some (.bastore) := at1_of at_46 rfl (by decide)
theorem s0_46 : V0 l Z b K (q + 1) 46 ls st H cN sN = (popI st fun x r => popI r fun j r => popR r fun a r => arr H b.size a fun i ty vs => if ty = .byte then idx vs j fun _ => setN vs j.toNatClampNeg (.int (nar .byte x)) fun vs' => setH H i (.inl (.byte, vs')) fun H' => V0 l Z b K q 47 ls r H' cN sN else False) := by show Wn _ _ _ _ _ _ _ _ _ _ _ _ _ _ _ (q + 1) _ _ _ _ _ _ = _; rw [wn_s (by decide), f0_46]; rfl
theorem f0_47 : at1 code 47 = some (.aload 5) := at1_of at_47 rfl (by decide)
theorem s0_47 : V0 l Z b K (q + 1) 47 ls st H cN sN = (ldA ls 5 fun v => V0 l Z b K q 49 ls (v :: st) H cN sN) := by show Wn _ _ _ _ _ _ _ _ _ _ _ _ _ _ _ (q + 1) _ _ _ _ _ _ = _; rw [wn_s (by decide), f0_47]; rfl
theorem f0_49 : at1 code 49 = some (.iconst 5) := at1_of at_49 rfl (by decide)
theorem s0_49 : V0 l Z b K (q + 1) 49 ls st H cN sN = (V0 l Z b K q 50 ls (.int 5 :: st) H cN sN) := by show Wn _ _ _ _ _ _ _ _ _ _ _ _ _ _ _ (q + 1) _ _ _ _ _ _ = _; rw [wn_s (by decide), f0_49]; rfl
theorem f0_50 : at1 code 50 = some (.iload 4) := at1_of at_50 rfl (by decide)
theorem s0_50 : V0 l Z b K (q + 1) 50 ls st H cN sN = (ldI ls 4 fun v => V0 l Z b K q 52 ls (.int v :: st) H cN sN) := by show Wn _ _ _ _ _ _ _ _ _ _ _ _ _ _ _ (q + 1) _ _ _ _ _ _ = _; rw [wn_s (by decide), f0_50]; rfl
theorem f0_52 : at1 code 52 = some (.bastore) := at1_of at_52 rfl (by decide)
theorem s0_52 : V0 l Z b K (q + 1) 52 ls st H cN sN = (popI st fun x r => popI r fun j r => popR r fun a r => arr H b.size a fun i ty vs => if ty = .byte then idx vs j fun _ => setN vs j.toNatClampNeg (.int (nar .byte x)) fun vs' => setH H i (.inl (.byte, vs')) fun H' => V0 l Z b K q 53 ls r H' cN sN else False) := by show Wn _ _ _ _ _ _ _ _ _ _ _ _ _ _ _ (q + 1) _ _ _ _ _ _ = _; rw [wn_s (by decide), f0_52]; rfl
theorem f0_53 : at1 code 53 = some (.aload 5) := at1_of at_53 rfl (by decide)
theorem s0_53 : V0 l Z b K (q + 1) 53 ls st H cN sN = (ldA ls 5 fun v => V0 l Z b K q 55 ls (v :: st) H cN sN) := by show Wn _ _ _ _ _ _ _ _ _ _ _ _ _ _ _ (q + 1) _ _ _ _ _ _ = _; rw [wn_s (by decide), f0_53]; rfl
theorem f0_55 : at1 code 55 = some (.bipush 6) := at1_of at_55 rfl (by decide)
theorem s0_55 : V0 l Z b K (q + 1) 55 ls st H cN sN = (V0 l Z b K q 57 ls (.int 6 :: st) H cN sN) := by show Wn _ _ _ _ _ _ _ _ _ _ _ _ _ _ _ (q + 1) _ _ _ _ _ _ = _; rw [wn_s (by decide), f0_55]; rfl
theorem f0_57 : at1 code 57 = some (.iload 4) := at1_of at_57 rfl (by decide)
theorem s0_57 : V0 l Z b K (q + 1) 57 ls st H cN sN = (ldI ls 4 fun v => V0 l Z b K q 59 ls (.int v :: st) H cN sN) := by show Wn _ _ _ _ _ _ _ _ _ _ _ _ _ _ _ (q + 1) _ _ _ _ _ _ = _; rw [wn_s (by decide), f0_57]; rfl
theorem f0_59 : at1 code 59 = some (.bastore) := at1_of at_59 rfl (by decide)
theorem s0_59 : V0 l Z b K (q + 1) 59 ls st H cN sN = (popI st fun x r => popI r fun j r => popR r fun a r => arr H b.size a fun i ty vs => if ty = .byte then idx vs j fun _ => setN vs j.toNatClampNeg (.int (nar .byte x)) fun vs' => setH H i (.inl (.byte, vs')) fun H' => V0 l Z b K q 60 ls r H' cN sN else False) := by show Wn _ _ _ _ _ _ _ _ _ _ _ _ _ _ _ (q + 1) _ _ _ _ _ _ = _; rw [wn_s (by decide), f0_59]; rfl
theorem f0_60 : at1 code 60 = some (.aload 5) := at1_of at_60 rfl (by decide)
theorem s0_60 : V0 l Z b K (q + 1) 60 ls st H cN sN = (ldA ls 5 fun v => V0 l Z b K q 62 ls (v :: st) H cN sN) := by show Wn _ _ _ _ _ _ _ _ _ _ _ _ _ _ _ (q + 1) _ _ _ _ _ _ = _; rw [wn_s (by decide), f0_60]; rfl
theorem f0_62 : at1 code 62 = some (.bipush 7) := at1_of at_62 rfl (by decide)
theorem s0_62 : V0 l Z b K (q + 1) 62 ls st H cN sN = (V0 l Z b K q 64 ls (.int 7 :: st) H cN sN) := by show Wn _ _ _ _ _ _ _ _ _ _ _ _ _ _ _ (q + 1) _ _ _ _ _ _ = _; rw [wn_s (by decide), f0_62]; rfl
theorem f0_64 : at1 code 64 = some (.iload 4) := at1_of at_64 rfl (by decide)
theorem s0_64 : V0 l Z b K (q + 1) 64 ls st H cN sN = (ldI ls 4 fun v => V0 l Z b K q 66 ls (.int v :: st) H cN sN) := by show Wn _ _ _ _ _ _ _ _ _ _ _ _ _ _ _ (q + 1) _ _ _ _ _ _ = _; rw [wn_s (by decide), f0_64]; rfl
theorem f0_66 : at1 code 66 = some (.bastore) := at1_of at_66 rfl (by decide)
theorem s0_66 : V0 l Z b K (q + 1) 66 ls st H cN sN = (popI st fun x r => popI r fun j r => popR r fun a r => arr H b.size a fun i ty vs => if ty = .byte then idx vs j fun _ => setN vs j.toNatClampNeg (.int (nar .byte x)) fun vs' => setH H i (.inl (.byte, vs')) fun H' => V0 l Z b K q 67 ls r H' cN sN else False) := by show Wn _ _ _ _ _ _ _ _ _ _ _ _ _ _ _ (q + 1) _ _ _ _ _ _ = _; rw [wn_s (by decide), f0_66]; rfl
theorem f0_67 : at1 code 67 = some (.aload 5) := at1_of at_67 rfl (by decide)
theorem s0_67 : V0 l Z b K (q + 1) 67 ls st H cN sN = (ldA ls 5 fun v => V0 l Z b K q 69 ls (v :: st) H cN sN) := by show Wn _ _ _ _ _ _ _ _ _ _ _ _ _ _ _ (q + 1) _ _ _ _ _ _ = _; rw [wn_s (by decide), f0_67]; rfl
theorem f0_69 : at1 code 69 = some (.bipush 8) := at1_of at_69 rfl (by decide)
theorem s0_69 : V0 l Z b K (q + 1) 69 ls st H cN sN = (V0 l Z b K q 71 ls (.int 8 :: st) H cN sN) := by show Wn _ _ _ _ _ _ _ _ _ _ _ _ _ _ _ (q + 1) _ _ _ _ _ _ = _; rw [wn_s (by decide), f0_69]; rfl
theorem f0_71 : at1 code 71 = some (.iload 4) := at1_of at_71 rfl (by decide)
theorem s0_71 : V0 l Z b K (q + 1) 71 ls st H cN sN = (ldI ls 4 fun v => V0 l Z b K q 73 ls (.int v :: st) H cN sN) := by show Wn _ _ _ _ _ _ _ _ _ _ _ _ _ _ _ (q + 1) _ _ _ _ _ _ = _; rw [wn_s (by decide), f0_71]; rfl
theorem f0_73 : at1 code 73 = some (.bastore) := at1_of at_73 rfl (by decide)
theorem s0_73 : V0 l Z b K (q + 1) 73 ls st H cN sN = (popI st fun x r => popI r fun j r => popR r fun a r => arr H b.size a fun i ty vs => if ty = .byte then idx vs j fun _ => setN vs j.toNatClampNeg (.int (nar .byte x)) fun vs' => setH H i (.inl (.byte, vs')) fun H' => V0 l Z b K q 74 ls r H' cN sN else False) := by show Wn _ _ _ _ _ _ _ _ _ _ _ _ _ _ _ (q + 1) _ _ _ _ _ _ = _; rw [wn_s (by decide), f0_73]; rfl
theorem f0_74 : at1 code 74 = some (.aload 5) := at1_of at_74 rfl (by decide)
theorem s0_74 : V0 l Z b K (q + 1) 74 ls st H cN sN = (ldA ls 5 fun v => V0 l Z b K q 76 ls (v :: st) H cN sN) := by show Wn _ _ _ _ _ _ _ _ _ _ _ _ _ _ _ (q + 1) _ _ _ _ _ _ = _; rw [wn_s (by decide), f0_74]; rfl
theorem f0_76 : at1 code 76 = some (.bipush 9) := at1_of at_76 rfl (by decide)
theorem s0_76 : V0 l Z b K (q + 1) 76 ls st H cN sN = (V0 l Z b K q 78 ls (.int 9 :: st) H cN sN) := by show Wn _ _ _ _ _ _ _ _ _ _ _ _ _ _ _ (q + 1) _ _ _ _ _ _ = _; rw [wn_s (by decide), f0_76]; rfl
theorem f0_78 : at1 code 78 = some (.iload 4) := at1_of at_78 rfl (by decide)
theorem s0_78 : V0 l Z b K (q + 1) 78 ls st H cN sN = (ldI ls 4 fun v => V0 l Z b K q 80 ls (.int v :: st) H cN sN) := by show Wn _ _ _ _ _ _ _ _ _ _ _ _ _ _ _ (q + 1) _ _ _ _ _ _ = _; rw [wn_s (by decide), f0_78]; rfl
theorem f0_80 : at1 code 80 = some (.bastore) := at1_of at_80 rfl (by decide)
theorem s0_80 : V0 l Z b K (q + 1) 80 ls st H cN sN = (popI st fun x r => popI r fun j r => popR r fun a r => arr H b.size a fun i ty vs => if ty = .byte then idx vs j fun _ => setN vs j.toNatClampNeg (.int (nar .byte x)) fun vs' => setH H i (.inl (.byte, vs')) fun H' => V0 l Z b K q 81 ls r H' cN sN else False) := by show Wn _ _ _ _ _ _ _ _ _ _ _ _ _ _ _ (q + 1) _ _ _ _ _ _ = _; rw [wn_s (by decide), f0_80]; rfl
theorem f0_81 : at1 code 81 = some (.iload_n 0) := at1_of at_81 rfl (by decide)
theorem s0_81 : V0 l Z b K (q + 1) 81 ls st H cN sN = (ldI ls 0 fun v => V0 l Z b K q 82 ls (.int v :: st) H cN sN) := by show Wn _ _ _ _ _ _ _ _ _ _ _ _ _ _ _ (q + 1) _ _ _ _ _ _ = _; rw [wn_s (by decide), f0_81]; rfl
theorem f0_82 : at1 code 82 = some (.i2b) := at1_of at_82 rfl (by decide)
theorem s0_82 : V0 l Z b K (q + 1) 82 ls st H cN sN = (popI st fun x r => V0 l Z b K q 83 ls (.int (nar .byte x) :: r) H cN sN) := by show Wn _ _ _ _ _ _ _ _ _ _ _ _ _ _ _ (q + 1) _ _ _ _ _ _ = _; rw [wn_s (by decide), f0_82]; rfl
theorem f0_83 : at1 code 83 = some (.istore 6) := at1_of at_83 rfl (by decide)
theorem s0_83 : V0 l Z b K (q + 1) 83 ls st H cN sN = (popI st fun v r => sto1 ls 6 (.int v) fun l' => V0 l Z b K q 85 l' r H cN sN) := by show Wn _ _ _ _ _ _ _ _ _ _ _ _ _ _ _ (q + 1) _ _ _ _ _ _ = _; rw [wn_s (by decide), f0_83]; rfl
theorem f0_85 : at1 code 85 = some (.iload_n 0) := at1_of at_85 rfl (by decide)
theorem s0_85 : V0 l Z b K (q + 1) 85 ls st H cN sN = (ldI ls 0 fun v => V0 l Z b K q 86 ls (.int v :: st) H cN sN) := by show Wn _ _ _ _ _ _ _ _ _ _ _ _ _ _ _ (q + 1) _ _ _ _ _ _ = _; rw [wn_s (by decide), f0_85]; rfl
theorem f0_86 : at1 code 86 = some (.bipush 8) := at1_of at_86 rfl (by decide)
theorem s0_86 : V0 l Z b K (q + 1) 86 ls st H cN sN = (V0 l Z b K q 88 ls (.int 8 :: st) H cN sN) := by show Wn _ _ _ _ _ _ _ _ _ _ _ _ _ _ _ (q + 1) _ _ _ _ _ _ = _; rw [wn_s (by decide), f0_86]; rfl
theorem f0_88 : at1 code 88 = some (.ishr) := at1_of at_88 rfl (by decide)
theorem s0_88 : V0 l Z b K (q + 1) 88 ls st H cN sN = (popI st fun y r => popI r fun x r => V0 l Z b K q 89 ls (.int (x >>> (y &&& 31)) :: r) H cN sN) := by show Wn _ _ _ _ _ _ _ _ _ _ _ _ _ _ _ (q + 1) _ _ _ _ _ _ = _; rw [wn_s (by decide), f0_88]; rfl
theorem f0_89 : at1 code 89 = some (.i2b) := at1_of at_89 rfl (by decide)
theorem s0_89 : V0 l Z b K (q + 1) 89 ls st H cN sN = (popI st fun x r => V0 l Z b K q 90 ls (.int (nar .byte x) :: r) H cN sN) := by show Wn _ _ _ _ _ _ _ _ _ _ _ _ _ _ _ (q + 1) _ _ _ _ _ _ = _; rw [wn_s (by decide), f0_89]; rfl
theorem f0_90 : at1 code 90 = some (.istore 7) := at1_of at_90 rfl (by decide)
theorem s0_90 : V0 l Z b K (q + 1) 90 ls st H cN sN = (popI st fun v r => sto1 ls 7 (.int v) fun l' => V0 l Z b K q 92 l' r H cN sN) := by show Wn _ _ _ _ _ _ _ _ _ _ _ _ _ _ _ (q + 1) _ _ _ _ _ _ = _; rw [wn_s (by decide), f0_90]; rfl
theorem f0_92 : at1 code 92 = some (.iload_n 0) := at1_of at_92 rfl (by decide)
theorem s0_92 : V0 l Z b K (q + 1) 92 ls st H cN sN = (ldI ls 0 fun v => V0 l Z b K q 93 ls (.int v :: st) H cN sN) := by show Wn _ _ _ _ _ _ _ _ _ _ _ _ _ _ _ (q + 1) _ _ _ _ _ _ = _; rw [wn_s (by decide), f0_92]; rfl
theorem f0_93 : at1 code 93 = some (.bipush 16) := at1_of at_93 rfl (by decide)
theorem s0_93 : V0 l Z b K (q + 1) 93 ls st H cN sN = (V0 l Z b K q 95 ls (.int 16 :: st) H cN sN) := by show Wn _ _ _ _ _ _ _ _ _ _ _ _ _ _ _ (q + 1) _ _ _ _ _ _ = _; rw [wn_s (by decide), f0_93]; rfl
theorem f0_95 : at1 code 95 = some (.ishr) := at1_of at_95 rfl (by decide)
theorem s0_95 : V0 l Z b K (q + 1) 95 ls st H cN sN = (popI st fun y r => popI r fun x r => V0 l Z b K q 96 ls (.int (x >>> (y &&& 31)) :: r) H cN sN) := by show Wn _ _ _ _ _ _ _ _ _ _ _ _ _ _ _ (q + 1) _ _ _ _ _ _ = _; rw [wn_s (by decide), f0_95]; rfl
theorem f0_96 : at1 code 96 = some (.i2b) := at1_of at_96 rfl (by decide)
theorem s0_96 : V0 l Z b K (q + 1) 96 ls st H cN sN = (popI st fun x r => V0 l Z b K q 97 ls (.int (nar .byte x) :: r) H cN sN) := by show Wn _ _ _ _ _ _ _ _ _ _ _ _ _ _ _ (q + 1) _ _ _ _ _ _ = _; rw [wn_s (by decide), f0_96]; rfl
theorem f0_97 : at1 code 97 = some (.istore 8) := at1_of at_97 rfl (by decide)
theorem s0_97 : V0 l Z b K (q + 1) 97 ls st H cN sN = (popI st fun v r => sto1 ls 8 (.int v) fun l' => V0 l Z b K q 99 l' r H cN sN) := by show Wn _ _ _ _ _ _ _ _ _ _ _ _ _ _ _ (q + 1) _ _ _ _ _ _ = _; rw [wn_s (by decide), f0_97]; rfl
theorem f0_99 : at1 code 99 = some (.iload_n 0) := at1_of at_99 rfl (by decide)
theorem s0_99 : V0 l Z b K (q + 1) 99 ls st H cN sN = (ldI ls 0 fun v => V0 l Z b K q 100 ls (.int v :: st) H cN sN) := by show Wn _ _ _ _ _ _ _ _ _ _ _ _ _ _ _ (q + 1) _ _ _ _ _ _ = _; rw [wn_s (by decide), f0_99]; rfl
theorem f0_100 : at1 code 100 = some (.bipush 24) := at1_of at_100 rfl (by decide)
theorem s0_100 : V0 l Z b K (q + 1) 100 ls st H cN sN = (V0 l Z b K q 102 ls (.int 24 :: st) H cN sN) := by show Wn _ _ _ _ _ _ _ _ _ _ _ _ _ _ _ (q + 1) _ _ _ _ _ _ = _; rw [wn_s (by decide), f0_100]; rfl
theorem f0_102 : at1 code 102 = some (.ishr) := at1_of at_102 rfl (by decide)
theorem s0_102 : V0 l Z b K (q + 1) 102 ls st H cN sN = (popI st fun y r => popI r fun x r => V0 l Z b K q 103 ls (.int (x >>> (y &&& 31)) :: r) H cN sN) := by show Wn _ _ _ _ _ _ _ _ _ _ _ _ _ _ _ (q + 1) _ _ _ _ _ _ = _; rw [wn_s (by decide), f0_102]; rfl
theorem f0_103 : at1 code 103 = some (.i2b) := at1_of at_103 rfl (by decide)
theorem s0_103 : V0 l Z b K (q + 1) 103 ls st H cN sN = (popI st fun x r => V0 l Z b K q 104 ls (.int (nar .byte x) :: r) H cN sN) := by show Wn _ _ _ _ _ _ _ _ _ _ _ _ _ _ _ (q + 1) _ _ _ _ _ _ = _; rw [wn_s (by decide), f0_103]; rfl
theorem f0_104 : at1 code 104 = some (.istore 9) := at1_of at_104 rfl (by decide)
theorem s0_104 : V0 l Z b K (q + 1) 104 ls st H cN sN = (popI st fun v r => sto1 ls 9 (.int v) fun l' => V0 l Z b K q 106 l' r H cN sN) := by show Wn _ _ _ _ _ _ _ _ _ _ _ _ _ _ _ (q + 1) _ _ _ _ _ _ = _; rw [wn_s (by decide), f0_104]; rfl
theorem f0_106 : at1 code 106 = some (.iload_n 1) := at1_of at_106 rfl (by decide)
theorem s0_106 : V0 l Z b K (q + 1) 106 ls st H cN sN = (ldI ls 1 fun v => V0 l Z b K q 107 ls (.int v :: st) H cN sN) := by show Wn _ _ _ _ _ _ _ _ _ _ _ _ _ _ _ (q + 1) _ _ _ _ _ _ = _; rw [wn_s (by decide), f0_106]; rfl
theorem f0_107 : at1 code 107 = some (.bipush 15) := at1_of at_107 rfl (by decide)
theorem s0_107 : V0 l Z b K (q + 1) 107 ls st H cN sN = (V0 l Z b K q 109 ls (.int 15 :: st) H cN sN) := by show Wn _ _ _ _ _ _ _ _ _ _ _ _ _ _ _ (q + 1) _ _ _ _ _ _ = _; rw [wn_s (by decide), f0_107]; rfl
theorem f0_109 : at1 code 109 = some (.iand) := at1_of at_109 rfl (by decide)
theorem s0_109 : V0 l Z b K (q + 1) 109 ls st H cN sN = (popI st fun y r => popI r fun x r => V0 l Z b K q 110 ls (.int (x &&& y) :: r) H cN sN) := by show Wn _ _ _ _ _ _ _ _ _ _ _ _ _ _ _ (q + 1) _ _ _ _ _ _ = _; rw [wn_s (by decide), f0_109]; rfl
theorem f0_110 : at1 code 110 = some (.i2b) := at1_of at_110 rfl (by decide)
theorem s0_110 : V0 l Z b K (q + 1) 110 ls st H cN sN = (popI st fun x r => V0 l Z b K q 111 ls (.int (nar .byte x) :: r) H cN sN) := by show Wn _ _ _ _ _ _ _ _ _ _ _ _ _ _ _ (q + 1) _ _ _ _ _ _ = _; rw [wn_s (by decide), f0_110]; rfl
theorem f0_111 : at1 code 111 = some (.istore 10) := at1_of at_111 rfl (by decide)
theorem s0_111 : V0 l Z b K (q + 1) 111 ls st H cN sN = (popI st fun v r => sto1 ls 10 (.int v) fun l' => V0 l Z b K q 113 l' r H cN sN) := by show Wn _ _ _ _ _ _ _ _ _ _ _ _ _ _ _ (q + 1) _ _ _ _ _ _ = _; rw [wn_s (by decide), f0_111]; rfl
theorem f0_113 : at1 code 113 = some (.aload 5) := at1_of at_113 rfl (by decide)
theorem s0_113 : V0 l Z b K (q + 1) 113 ls st H cN sN = (ldA ls 5 fun v => V0 l Z b K q 115 ls (v :: st) H cN sN) := by show Wn _ _ _ _ _ _ _ _ _ _ _ _ _ _ _ (q + 1) _ _ _ _ _ _ = _; rw [wn_s (by decide), f0_113]; rfl
theorem f0_115 : at1 code 115 = some (.iload_n 3) := at1_of at_115 rfl (by decide)
theorem s0_115 : V0 l Z b K (q + 1) 115 ls st H cN sN = (ldI ls 3 fun v => V0 l Z b K q 116 ls (.int v :: st) H cN sN) := by show Wn _ _ _ _ _ _ _ _ _ _ _ _ _ _ _ (q + 1) _ _ _ _ _ _ = _; rw [wn_s (by decide), f0_115]; rfl
theorem f0_116 : at1 code 116 = some (.iload 6) := at1_of at_116 rfl (by decide)
theorem s0_116 : V0 l Z b K (q + 1) 116 ls st H cN sN = (ldI ls 6 fun v => V0 l Z b K q 118 ls (.int v :: st) H cN sN) := by show Wn _ _ _ _ _ _ _ _ _ _ _ _ _ _ _ (q + 1) _ _ _ _ _ _ = _; rw [wn_s (by decide), f0_116]; rfl
theorem f0_118 : at1 code 118 = some (.bastore) := at1_of at_118 rfl (by decide)
theorem s0_118 : V0 l Z b K (q + 1) 118 ls st H cN sN = (popI st fun x r => popI r fun j r => popR r fun a r => arr H b.size a fun i ty vs => if ty = .byte then idx vs j fun _ => setN vs j.toNatClampNeg (.int (nar .byte x)) fun vs' => setH H i (.inl (.byte, vs')) fun H' => V0 l Z b K q 119 ls r H' cN sN else False) := by show Wn _ _ _ _ _ _ _ _ _ _ _ _ _ _ _ (q + 1) _ _ _ _ _ _ = _; rw [wn_s (by decide), f0_118]; rfl
theorem f0_119 : at1 code 119 = some (.aload 5) := at1_of at_119 rfl (by decide)
theorem s0_119 : V0 l Z b K (q + 1) 119 ls st H cN sN = (ldA ls 5 fun v => V0 l Z b K q 121 ls (v :: st) H cN sN) := by show Wn _ _ _ _ _ _ _ _ _ _ _ _ _ _ _ (q + 1) _ _ _ _ _ _ = _; rw [wn_s (by decide), f0_119]; rfl
theorem f0_121 : at1 code 121 = some (.iload_n 3) := at1_of at_121 rfl (by decide)
theorem s0_121 : V0 l Z b K (q + 1) 121 ls st H cN sN = (ldI ls 3 fun v => V0 l Z b K q 122 ls (.int v :: st) H cN sN) := by show Wn _ _ _ _ _ _ _ _ _ _ _ _ _ _ _ (q + 1) _ _ _ _ _ _ = _; rw [wn_s (by decide), f0_121]; rfl
theorem f0_122 : at1 code 122 = some (.iconst 1) := at1_of at_122 rfl (by decide)
theorem s0_122 : V0 l Z b K (q + 1) 122 ls st H cN sN = (V0 l Z b K q 123 ls (.int 1 :: st) H cN sN) := by show Wn _ _ _ _ _ _ _ _ _ _ _ _ _ _ _ (q + 1) _ _ _ _ _ _ = _; rw [wn_s (by decide), f0_122]; rfl
theorem f0_123 : at1 code 123 = some (.iadd) := at1_of at_123 rfl (by decide)
theorem s0_123 : V0 l Z b K (q + 1) 123 ls st H cN sN = (popI st fun y r => popI r fun x r => V0 l Z b K q 124 ls (.int (x + y) :: r) H cN sN) := by show Wn _ _ _ _ _ _ _ _ _ _ _ _ _ _ _ (q + 1) _ _ _ _ _ _ = _; rw [wn_s (by decide), f0_123]; rfl
theorem f0_124 : at1 code 124 = some (.iload 7) := at1_of at_124 rfl (by decide)
theorem s0_124 : V0 l Z b K (q + 1) 124 ls st H cN sN = (ldI ls 7 fun v => V0 l Z b K q 126 ls (.int v :: st) H cN sN) := by show Wn _ _ _ _ _ _ _ _ _ _ _ _ _ _ _ (q + 1) _ _ _ _ _ _ = _; rw [wn_s (by decide), f0_124]; rfl
theorem f0_126 : at1 code 126 = some (.bastore) := at1_of at_126 rfl (by decide)
theorem s0_126 : V0 l Z b K (q + 1) 126 ls st H cN sN = (popI st fun x r => popI r fun j r => popR r fun a r => arr H b.size a fun i ty vs => if ty = .byte then idx vs j fun _ => setN vs j.toNatClampNeg (.int (nar .byte x)) fun vs' => setH H i (.inl (.byte, vs')) fun H' => V0 l Z b K q 127 ls r H' cN sN else False) := by show Wn _ _ _ _ _ _ _ _ _ _ _ _ _ _ _ (q + 1) _ _ _ _ _ _ = _; rw [wn_s (by decide), f0_126]; rfl
theorem f0_127 : at1 code 127 = some (.aload 5) := at1_of at_127 rfl (by decide)
theorem s0_127 : V0 l Z b K (q + 1) 127 ls st H cN sN = (ldA ls 5 fun v => V0 l Z b K q 129 ls (v :: st) H cN sN) := by show Wn _ _ _ _ _ _ _ _ _ _ _ _ _ _ _ (q + 1) _ _ _ _ _ _ = _; rw [wn_s (by decide), f0_127]; rfl
theorem f0_129 : at1 code 129 = some (.iload_n 3) := at1_of at_129 rfl (by decide)
theorem s0_129 : V0 l Z b K (q + 1) 129 ls st H cN sN = (ldI ls 3 fun v => V0 l Z b K q 130 ls (.int v :: st) H cN sN) := by show Wn _ _ _ _ _ _ _ _ _ _ _ _ _ _ _ (q + 1) _ _ _ _ _ _ = _; rw [wn_s (by decide), f0_129]; rfl
theorem f0_130 : at1 code 130 = some (.iconst 2) := at1_of at_130 rfl (by decide)
theorem s0_130 : V0 l Z b K (q + 1) 130 ls st H cN sN = (V0 l Z b K q 131 ls (.int 2 :: st) H cN sN) := by show Wn _ _ _ _ _ _ _ _ _ _ _ _ _ _ _ (q + 1) _ _ _ _ _ _ = _; rw [wn_s (by decide), f0_130]; rfl
theorem f0_131 : at1 code 131 = some (.iadd) := at1_of at_131 rfl (by decide)
theorem s0_131 : V0 l Z b K (q + 1) 131 ls st H cN sN = (popI st fun y r => popI r fun x r => V0 l Z b K q 132 ls (.int (x + y) :: r) H cN sN) := by show Wn _ _ _ _ _ _ _ _ _ _ _ _ _ _ _ (q + 1) _ _ _ _ _ _ = _; rw [wn_s (by decide), f0_131]; rfl
theorem f0_132 : at1 code 132 = some (.iload 8) := at1_of at_132 rfl (by decide)
theorem s0_132 : V0 l Z b K (q + 1) 132 ls st H cN sN = (ldI ls 8 fun v => V0 l Z b K q 134 ls (.int v :: st) H cN sN) := by show Wn _ _ _ _ _ _ _ _ _ _ _ _ _ _ _ (q + 1) _ _ _ _ _ _ = _; rw [wn_s (by decide), f0_132]; rfl
theorem f0_134 : at1 code 134 = some (.bastore) := at1_of at_134 rfl (by decide)
theorem s0_134 : V0 l Z b K (q + 1) 134 ls st H cN sN = (popI st fun x r => popI r fun j r => popR r fun a r => arr H b.size a fun i ty vs => if ty = .byte then idx vs j fun _ => setN vs j.toNatClampNeg (.int (nar .byte x)) fun vs' => setH H i (.inl (.byte, vs')) fun H' => V0 l Z b K q 135 ls r H' cN sN else False) := by show Wn _ _ _ _ _ _ _ _ _ _ _ _ _ _ _ (q + 1) _ _ _ _ _ _ = _; rw [wn_s (by decide), f0_134]; rfl
theorem f0_135 : at1 code 135 = some (.aload 5) := at1_of at_135 rfl (by decide)
theorem s0_135 : V0 l Z b K (q + 1) 135 ls st H cN sN = (ldA ls 5 fun v => V0 l Z b K q 137 ls (v :: st) H cN sN) := by show Wn _ _ _ _ _ _ _ _ _ _ _ _ _ _ _ (q + 1) _ _ _ _ _ _ = _; rw [wn_s (by decide), f0_135]; rfl
theorem f0_137 : at1 code 137 = some (.iload_n 3) := at1_of at_137 rfl (by decide)
theorem s0_137 : V0 l Z b K (q + 1) 137 ls st H cN sN = (ldI ls 3 fun v => V0 l Z b K q 138 ls (.int v :: st) H cN sN) := by show Wn _ _ _ _ _ _ _ _ _ _ _ _ _ _ _ (q + 1) _ _ _ _ _ _ = _; rw [wn_s (by decide), f0_137]; rfl
theorem f0_138 : at1 code 138 = some (.iconst 3) := at1_of at_138 rfl (by decide)
theorem s0_138 : V0 l Z b K (q + 1) 138 ls st H cN sN = (V0 l Z b K q 139 ls (.int 3 :: st) H cN sN) := by show Wn _ _ _ _ _ _ _ _ _ _ _ _ _ _ _ (q + 1) _ _ _ _ _ _ = _; rw [wn_s (by decide), f0_138]; rfl
theorem f0_139 : at1 code 139 = some (.iadd) := at1_of at_139 rfl (by decide)
theorem s0_139 : V0 l Z b K (q + 1) 139 ls st H cN sN = (popI st fun y r => popI r fun x r => V0 l Z b K q 140 ls (.int (x + y) :: r) H cN sN) := by show Wn _ _ _ _ _ _ _ _ _ _ _ _ _ _ _ (q + 1) _ _ _ _ _ _ = _; rw [wn_s (by decide), f0_139]; rfl
theorem f0_140 : at1 code 140 = some (.iload 9) := at1_of at_140 rfl (by decide)
theorem s0_140 : V0 l Z b K (q + 1) 140 ls st H cN sN = (ldI ls 9 fun v => V0 l Z b K q 142 ls (.int v :: st) H cN sN) := by show Wn _ _ _ _ _ _ _ _ _ _ _ _ _ _ _ (q + 1) _ _ _ _ _ _ = _; rw [wn_s (by decide), f0_140]; rfl
theorem f0_142 : at1 code 142 = some (.bastore) := at1_of at_142 rfl (by decide)
theorem s0_142 : V0 l Z b K (q + 1) 142 ls st H cN sN = (popI st fun x r => popI r fun j r => popR r fun a r => arr H b.size a fun i ty vs => if ty = .byte then idx vs j fun _ => setN vs j.toNatClampNeg (.int (nar .byte x)) fun vs' => setH H i (.inl (.byte, vs')) fun H' => V0 l Z b K q 143 ls r H' cN sN else False) := by show Wn _ _ _ _ _ _ _ _ _ _ _ _ _ _ _ (q + 1) _ _ _ _ _ _ = _; rw [wn_s (by decide), f0_142]; rfl
theorem f0_143 : at1 code 143 = some (.aload 5) := at1_of at_143 rfl (by decide)
theorem s0_143 : V0 l Z b K (q + 1) 143 ls st H cN sN = (ldA ls 5 fun v => V0 l Z b K q 145 ls (v :: st) H cN sN) := by show Wn _ _ _ _ _ _ _ _ _ _ _ _ _ _ _ (q + 1) _ _ _ _ _ _ = _; rw [wn_s (by decide), f0_143]; rfl
theorem f0_145 : at1 code 145 = some (.iload_n 3) := at1_of at_145 rfl (by decide)
theorem s0_145 : V0 l Z b K (q + 1) 145 ls st H cN sN = (ldI ls 3 fun v => V0 l Z b K q 146 ls (.int v :: st) H cN sN) := by show Wn _ _ _ _ _ _ _ _ _ _ _ _ _ _ _ (q + 1) _ _ _ _ _ _ = _; rw [wn_s (by decide), f0_145]; rfl
theorem f0_146 : at1 code 146 = some (.iconst 4) := at1_of at_146 rfl (by decide)
theorem s0_146 : V0 l Z b K (q + 1) 146 ls st H cN sN = (V0 l Z b K q 147 ls (.int 4 :: st) H cN sN) := by show Wn _ _ _ _ _ _ _ _ _ _ _ _ _ _ _ (q + 1) _ _ _ _ _ _ = _; rw [wn_s (by decide), f0_146]; rfl
theorem f0_147 : at1 code 147 = some (.iadd) := at1_of at_147 rfl (by decide)
theorem s0_147 : V0 l Z b K (q + 1) 147 ls st H cN sN = (popI st fun y r => popI r fun x r => V0 l Z b K q 148 ls (.int (x + y) :: r) H cN sN) := by show Wn _ _ _ _ _ _ _ _ _ _ _ _ _ _ _ (q + 1) _ _ _ _ _ _ = _; rw [wn_s (by decide), f0_147]; rfl
theorem f0_148 : at1 code 148 = some (.iload 10) := at1_of at_148 rfl (by decide)
theorem s0_148 : V0 l Z b K (q + 1) 148 ls st H cN sN = (ldI ls 10 fun v => V0 l Z b K q 150 ls (.int v :: st) H cN sN) := by show Wn _ _ _ _ _ _ _ _ _ _ _ _ _ _ _ (q + 1) _ _ _ _ _ _ = _; rw [wn_s (by decide), f0_148]; rfl
theorem f0_150 : at1 code 150 = some (.bastore) := at1_of at_150 rfl (by decide)
theorem s0_150 : V0 l Z b K (q + 1) 150 ls st H cN sN = (popI st fun x r => popI r fun j r => popR r fun a r => arr H b.size a fun i ty vs => if ty = .byte then idx vs j fun _ => setN vs j.toNatClampNeg (.int (nar .byte x)) fun vs' => setH H i (.inl (.byte, vs')) fun H' => V0 l Z b K q 151 ls r H' cN sN else False) := by show Wn _ _ _ _ _ _ _ _ _ _ _ _ _ _ _ (q + 1) _ _ _ _ _ _ = _; rw [wn_s (by decide), f0_150]; rfl
theorem f0_151 : at1 code 151 = some (.iload 6) := at1_of at_151 rfl (by decide)
theorem s0_151 : V0 l Z b K (q + 1) 151 ls st H cN sN = (ldI ls 6 fun v => V0 l Z b K q 153 ls (.int v :: st) H cN sN) := by show Wn _ _ _ _ _ _ _ _ _ _ _ _ _ _ _ (q + 1) _ _ _ _ _ _ = _; rw [wn_s (by decide), f0_151]; rfl
theorem f0_153 : at1 code 153 = some (.bipush 127) := at1_of at_153 rfl (by decide)
theorem s0_153 : V0 l Z b K (q + 1) 153 ls st H cN sN = (V0 l Z b K q 155 ls (.int 127 :: st) H cN sN) := by show Wn _ _ _ _ _ _ _ _ _ _ _ _ _ _ _ (q + 1) _ _ _ _ _ _ = _; rw [wn_s (by decide), f0_153]; rfl
theorem f0_155 : at1 code 155 = some (.iand) := at1_of at_155 rfl (by decide)
theorem s0_155 : V0 l Z b K (q + 1) 155 ls st H cN sN = (popI st fun y r => popI r fun x r => V0 l Z b K q 156 ls (.int (x &&& y) :: r) H cN sN) := by show Wn _ _ _ _ _ _ _ _ _ _ _ _ _ _ _ (q + 1) _ _ _ _ _ _ = _; rw [wn_s (by decide), f0_155]; rfl
theorem f0_156 : at1 code 156 = some (.i2l) := at1_of at_156 rfl (by decide)
theorem s0_156 : V0 l Z b K (q + 1) 156 ls st H cN sN = (popI st fun x r => V0 l Z b K q 157 ls (.long (x.toInt64) :: r) H cN sN) := by show Wn _ _ _ _ _ _ _ _ _ _ _ _ _ _ _ (q + 1) _ _ _ _ _ _ = _; rw [wn_s (by decide), f0_156]; rfl
theorem f0_157 : at1 code 157 = some (.lstore 11) := at1_of at_157 rfl (by decide)
theorem s0_157 : V0 l Z b K (q + 1) 157 ls st H cN sN = (popJ st fun v r => sto2 ls 11 (.long v) fun l' => V0 l Z b K q 159 l' r H cN sN) := by show Wn _ _ _ _ _ _ _ _ _ _ _ _ _ _ _ (q + 1) _ _ _ _ _ _ = _; rw [wn_s (by decide), f0_157]; rfl
theorem f0_159 : at1 code 159 = some (.iconst 1) := at1_of at_159 rfl (by decide)
theorem s0_159 : V0 l Z b K (q + 1) 159 ls st H cN sN = (V0 l Z b K q 160 ls (.int 1 :: st) H cN sN) := by show Wn _ _ _ _ _ _ _ _ _ _ _ _ _ _ _ (q + 1) _ _ _ _ _ _ = _; rw [wn_s (by decide), f0_159]; rfl
theorem f0_160 : at1 code 160 = some (.istore 13) := at1_of at_160 rfl (by decide)
theorem s0_160 : V0 l Z b K (q + 1) 160 ls st H cN sN = (popI st fun v r => sto1 ls 13 (.int v) fun l' => V0 l Z b K q 162 l' r H cN sN) := by show Wn _ _ _ _ _ _ _ _ _ _ _ _ _ _ _ (q + 1) _ _ _ _ _ _ = _; rw [wn_s (by decide), f0_160]; rfl
theorem f0_162 : at1 code 162 = some (.iload 6) := at1_of at_162 rfl (by decide)
theorem s0_162 : V0 l Z b K (q + 1) 162 ls st H cN sN = (ldI ls 6 fun v => V0 l Z b K q 164 ls (.int v :: st) H cN sN) := by show Wn _ _ _ _ _ _ _ _ _ _ _ _ _ _ _ (q + 1) _ _ _ _ _ _ = _; rw [wn_s (by decide), f0_162]; rfl
theorem f0_164 : at1 code 164 = some (.ifCond .ge 89) := at1_of at_164 rfl (by decide)
theorem s0_164 : V0 l Z b K (q + 1) 164 ls st H cN sN = (popI st fun x r => if x < 0 then V0 l Z b K q 167 ls r H cN sN else V0 l Z b K q 253 ls r H cN sN) := by show Wn _ _ _ _ _ _ _ _ _ _ _ _ _ _ _ (q + 1) _ _ _ _ _ _ = _; rw [wn_s (by decide), f0_164]; rfl
theorem f0_167 : at1 code 167 = some (.lload 11) := at1_of at_167 rfl (by decide)
theorem s0_167 : V0 l Z b K (q + 1) 167 ls st H cN sN = (ldJ ls 11 fun v => V0 l Z b K q 169 ls (.long v :: st) H cN sN) := by show Wn _ _ _ _ _ _ _ _ _ _ _ _ _ _ _ (q + 1) _ _ _ _ _ _ = _; rw [wn_s (by decide), f0_167]; rfl
theorem f0_169 : at1 code 169 = some (.iload 7) := at1_of at_169 rfl (by decide)
theorem s0_169 : V0 l Z b K (q + 1) 169 ls st H cN sN = (ldI ls 7 fun v => V0 l Z b K q 171 ls (.int v :: st) H cN sN) := by show Wn _ _ _ _ _ _ _ _ _ _ _ _ _ _ _ (q + 1) _ _ _ _ _ _ = _; rw [wn_s (by decide), f0_169]; rfl
theorem f0_171 : at1 code 171 = some (.bipush 127) := at1_of at_171 rfl (by decide)
theorem s0_171 : V0 l Z b K (q + 1) 171 ls st H cN sN = (V0 l Z b K q 173 ls (.int 127 :: st) H cN sN) := by show Wn _ _ _ _ _ _ _ _ _ _ _ _ _ _ _ (q + 1) _ _ _ _ _ _ = _; rw [wn_s (by decide), f0_171]; rfl
theorem f0_173 : at1 code 173 = some (.iand) := at1_of at_173 rfl (by decide)
theorem s0_173 : V0 l Z b K (q + 1) 173 ls st H cN sN = (popI st fun y r => popI r fun x r => V0 l Z b K q 174 ls (.int (x &&& y) :: r) H cN sN) := by show Wn _ _ _ _ _ _ _ _ _ _ _ _ _ _ _ (q + 1) _ _ _ _ _ _ = _; rw [wn_s (by decide), f0_173]; rfl
theorem f0_174 : at1 code 174 = some (.i2l) := at1_of at_174 rfl (by decide)
theorem s0_174 : V0 l Z b K (q + 1) 174 ls st H cN sN = (popI st fun x r => V0 l Z b K q 175 ls (.long (x.toInt64) :: r) H cN sN) := by show Wn _ _ _ _ _ _ _ _ _ _ _ _ _ _ _ (q + 1) _ _ _ _ _ _ = _; rw [wn_s (by decide), f0_174]; rfl
theorem f0_175 : at1 code 175 = some (.ldc2_w 7) := at1_of at_175 rfl (by decide)
theorem s0_175 : V0 l Z b K (q + 1) 175 ls st H cN sN = (V0 l Z b K q 178 ls (.long 128 :: st) H cN sN) := by show Wn _ _ _ _ _ _ _ _ _ _ _ _ _ _ _ (q + 1) _ _ _ _ _ _ = _; rw [wn_s (by decide), f0_175]; rfl
theorem f0_178 : at1 code 178 = some (.lmul) := at1_of at_178 rfl (by decide)
theorem s0_178 : V0 l Z b K (q + 1) 178 ls st H cN sN = (popJ st fun y r => popJ r fun x r => V0 l Z b K q 179 ls (.long (x * y) :: r) H cN sN) := by show Wn _ _ _ _ _ _ _ _ _ _ _ _ _ _ _ (q + 1) _ _ _ _ _ _ = _; rw [wn_s (by decide), f0_178]; rfl
theorem f0_179 : at1 code 179 = some (.ladd) := at1_of at_179 rfl (by decide)
theorem s0_179 : V0 l Z b K (q + 1) 179 ls st H cN sN = (popJ st fun y r => popJ r fun x r => V0 l Z b K q 180 ls (.long (x + y) :: r) H cN sN) := by show Wn _ _ _ _ _ _ _ _ _ _ _ _ _ _ _ (q + 1) _ _ _ _ _ _ = _; rw [wn_s (by decide), f0_179]; rfl
theorem f0_180 : at1 code 180 = some (.lstore 11) := at1_of at_180 rfl (by decide)
theorem s0_180 : V0 l Z b K (q + 1) 180 ls st H cN sN = (popJ st fun v r => sto2 ls 11 (.long v) fun l' => V0 l Z b K q 182 l' r H cN sN) := by show Wn _ _ _ _ _ _ _ _ _ _ _ _ _ _ _ (q + 1) _ _ _ _ _ _ = _; rw [wn_s (by decide), f0_180]; rfl
theorem f0_182 : at1 code 182 = some (.iconst 2) := at1_of at_182 rfl (by decide)
theorem s0_182 : V0 l Z b K (q + 1) 182 ls st H cN sN = (V0 l Z b K q 183 ls (.int 2 :: st) H cN sN) := by show Wn _ _ _ _ _ _ _ _ _ _ _ _ _ _ _ (q + 1) _ _ _ _ _ _ = _; rw [wn_s (by decide), f0_182]; rfl
theorem f0_183 : at1 code 183 = some (.istore 13) := at1_of at_183 rfl (by decide)
theorem s0_183 : V0 l Z b K (q + 1) 183 ls st H cN sN = (popI st fun v r => sto1 ls 13 (.int v) fun l' => V0 l Z b K q 185 l' r H cN sN) := by show Wn _ _ _ _ _ _ _ _ _ _ _ _ _ _ _ (q + 1) _ _ _ _ _ _ = _; rw [wn_s (by decide), f0_183]; rfl
theorem f0_185 : at1 code 185 = some (.iload 7) := at1_of at_185 rfl (by decide)
theorem s0_185 : V0 l Z b K (q + 1) 185 ls st H cN sN = (ldI ls 7 fun v => V0 l Z b K q 187 ls (.int v :: st) H cN sN) := by show Wn _ _ _ _ _ _ _ _ _ _ _ _ _ _ _ (q + 1) _ _ _ _ _ _ = _; rw [wn_s (by decide), f0_185]; rfl
theorem f0_187 : at1 code 187 = some (.ifCond .ge 66) := at1_of at_187 rfl (by decide)
theorem s0_187 : V0 l Z b K (q + 1) 187 ls st H cN sN = (popI st fun x r => if x < 0 then V0 l Z b K q 190 ls r H cN sN else V0 l Z b K q 253 ls r H cN sN) := by show Wn _ _ _ _ _ _ _ _ _ _ _ _ _ _ _ (q + 1) _ _ _ _ _ _ = _; rw [wn_s (by decide), f0_187]; rfl
theorem f0_190 : at1 code 190 = some (.lload 11) := at1_of at_190 rfl (by decide)
theorem s0_190 : V0 l Z b K (q + 1) 190 ls st H cN sN = (ldJ ls 11 fun v => V0 l Z b K q 192 ls (.long v :: st) H cN sN) := by show Wn _ _ _ _ _ _ _ _ _ _ _ _ _ _ _ (q + 1) _ _ _ _ _ _ = _; rw [wn_s (by decide), f0_190]; rfl
theorem f0_192 : at1 code 192 = some (.iload 8) := at1_of at_192 rfl (by decide)
theorem s0_192 : V0 l Z b K (q + 1) 192 ls st H cN sN = (ldI ls 8 fun v => V0 l Z b K q 194 ls (.int v :: st) H cN sN) := by show Wn _ _ _ _ _ _ _ _ _ _ _ _ _ _ _ (q + 1) _ _ _ _ _ _ = _; rw [wn_s (by decide), f0_192]; rfl
theorem f0_194 : at1 code 194 = some (.bipush 127) := at1_of at_194 rfl (by decide)
theorem s0_194 : V0 l Z b K (q + 1) 194 ls st H cN sN = (V0 l Z b K q 196 ls (.int 127 :: st) H cN sN) := by show Wn _ _ _ _ _ _ _ _ _ _ _ _ _ _ _ (q + 1) _ _ _ _ _ _ = _; rw [wn_s (by decide), f0_194]; rfl
theorem f0_196 : at1 code 196 = some (.iand) := at1_of at_196 rfl (by decide)
theorem s0_196 : V0 l Z b K (q + 1) 196 ls st H cN sN = (popI st fun y r => popI r fun x r => V0 l Z b K q 197 ls (.int (x &&& y) :: r) H cN sN) := by show Wn _ _ _ _ _ _ _ _ _ _ _ _ _ _ _ (q + 1) _ _ _ _ _ _ = _; rw [wn_s (by decide), f0_196]; rfl
theorem f0_197 : at1 code 197 = some (.i2l) := at1_of at_197 rfl (by decide)
theorem s0_197 : V0 l Z b K (q + 1) 197 ls st H cN sN = (popI st fun x r => V0 l Z b K q 198 ls (.long (x.toInt64) :: r) H cN sN) := by show Wn _ _ _ _ _ _ _ _ _ _ _ _ _ _ _ (q + 1) _ _ _ _ _ _ = _; rw [wn_s (by decide), f0_197]; rfl
theorem f0_198 : at1 code 198 = some (.ldc2_w 9) := at1_of at_198 rfl (by decide)
theorem s0_198 : V0 l Z b K (q + 1) 198 ls st H cN sN = (V0 l Z b K q 201 ls (.long 16384 :: st) H cN sN) := by show Wn _ _ _ _ _ _ _ _ _ _ _ _ _ _ _ (q + 1) _ _ _ _ _ _ = _; rw [wn_s (by decide), f0_198]; rfl
theorem f0_201 : at1 code 201 = some (.lmul) := at1_of at_201 rfl (by decide)
theorem s0_201 : V0 l Z b K (q + 1) 201 ls st H cN sN = (popJ st fun y r => popJ r fun x r => V0 l Z b K q 202 ls (.long (x * y) :: r) H cN sN) := by show Wn _ _ _ _ _ _ _ _ _ _ _ _ _ _ _ (q + 1) _ _ _ _ _ _ = _; rw [wn_s (by decide), f0_201]; rfl
theorem f0_202 : at1 code 202 = some (.ladd) := at1_of at_202 rfl (by decide)
theorem s0_202 : V0 l Z b K (q + 1) 202 ls st H cN sN = (popJ st fun y r => popJ r fun x r => V0 l Z b K q 203 ls (.long (x + y) :: r) H cN sN) := by show Wn _ _ _ _ _ _ _ _ _ _ _ _ _ _ _ (q + 1) _ _ _ _ _ _ = _; rw [wn_s (by decide), f0_202]; rfl
theorem f0_203 : at1 code 203 = some (.lstore 11) := at1_of at_203 rfl (by decide)
theorem s0_203 : V0 l Z b K (q + 1) 203 ls st H cN sN = (popJ st fun v r => sto2 ls 11 (.long v) fun l' => V0 l Z b K q 205 l' r H cN sN) := by show Wn _ _ _ _ _ _ _ _ _ _ _ _ _ _ _ (q + 1) _ _ _ _ _ _ = _; rw [wn_s (by decide), f0_203]; rfl
theorem f0_205 : at1 code 205 = some (.iconst 3) := at1_of at_205 rfl (by decide)
theorem s0_205 : V0 l Z b K (q + 1) 205 ls st H cN sN = (V0 l Z b K q 206 ls (.int 3 :: st) H cN sN) := by show Wn _ _ _ _ _ _ _ _ _ _ _ _ _ _ _ (q + 1) _ _ _ _ _ _ = _; rw [wn_s (by decide), f0_205]; rfl
theorem f0_206 : at1 code 206 = some (.istore 13) := at1_of at_206 rfl (by decide)
theorem s0_206 : V0 l Z b K (q + 1) 206 ls st H cN sN = (popI st fun v r => sto1 ls 13 (.int v) fun l' => V0 l Z b K q 208 l' r H cN sN) := by show Wn _ _ _ _ _ _ _ _ _ _ _ _ _ _ _ (q + 1) _ _ _ _ _ _ = _; rw [wn_s (by decide), f0_206]; rfl
theorem f0_208 : at1 code 208 = some (.iload 8) := at1_of at_208 rfl (by decide)
theorem s0_208 : V0 l Z b K (q + 1) 208 ls st H cN sN = (ldI ls 8 fun v => V0 l Z b K q 210 ls (.int v :: st) H cN sN) := by show Wn _ _ _ _ _ _ _ _ _ _ _ _ _ _ _ (q + 1) _ _ _ _ _ _ = _; rw [wn_s (by decide), f0_208]; rfl
theorem f0_210 : at1 code 210 = some (.ifCond .ge 43) := at1_of at_210 rfl (by decide)
theorem s0_210 : V0 l Z b K (q + 1) 210 ls st H cN sN = (popI st fun x r => if x < 0 then V0 l Z b K q 213 ls r H cN sN else V0 l Z b K q 253 ls r H cN sN) := by show Wn _ _ _ _ _ _ _ _ _ _ _ _ _ _ _ (q + 1) _ _ _ _ _ _ = _; rw [wn_s (by decide), f0_210]; rfl
theorem f0_213 : at1 code 213 = some (.lload 11) := at1_of at_213 rfl (by decide)
theorem s0_213 : V0 l Z b K (q + 1) 213 ls st H cN sN = (ldJ ls 11 fun v => V0 l Z b K q 215 ls (.long v :: st) H cN sN) := by show Wn _ _ _ _ _ _ _ _ _ _ _ _ _ _ _ (q + 1) _ _ _ _ _ _ = _; rw [wn_s (by decide), f0_213]; rfl
theorem f0_215 : at1 code 215 = some (.iload 9) := at1_of at_215 rfl (by decide)
theorem s0_215 : V0 l Z b K (q + 1) 215 ls st H cN sN = (ldI ls 9 fun v => V0 l Z b K q 217 ls (.int v :: st) H cN sN) := by show Wn _ _ _ _ _ _ _ _ _ _ _ _ _ _ _ (q + 1) _ _ _ _ _ _ = _; rw [wn_s (by decide), f0_215]; rfl
theorem f0_217 : at1 code 217 = some (.bipush 127) := at1_of at_217 rfl (by decide)
theorem s0_217 : V0 l Z b K (q + 1) 217 ls st H cN sN = (V0 l Z b K q 219 ls (.int 127 :: st) H cN sN) := by show Wn _ _ _ _ _ _ _ _ _ _ _ _ _ _ _ (q + 1) _ _ _ _ _ _ = _; rw [wn_s (by decide), f0_217]; rfl
theorem f0_219 : at1 code 219 = some (.iand) := at1_of at_219 rfl (by decide)
theorem s0_219 : V0 l Z b K (q + 1) 219 ls st H cN sN = (popI st fun y r => popI r fun x r => V0 l Z b K q 220 ls (.int (x &&& y) :: r) H cN sN) := by show Wn _ _ _ _ _ _ _ _ _ _ _ _ _ _ _ (q + 1) _ _ _ _ _ _ = _; rw [wn_s (by decide), f0_219]; rfl
theorem f0_220 : at1 code 220 = some (.i2l) := at1_of at_220 rfl (by decide)
theorem s0_220 : V0 l Z b K (q + 1) 220 ls st H cN sN = (popI st fun x r => V0 l Z b K q 221 ls (.long (x.toInt64) :: r) H cN sN) := by show Wn _ _ _ _ _ _ _ _ _ _ _ _ _ _ _ (q + 1) _ _ _ _ _ _ = _; rw [wn_s (by decide), f0_220]; rfl
theorem f0_221 : at1 code 221 = some (.ldc2_w 11) := at1_of at_221 rfl (by decide)
theorem s0_221 : V0 l Z b K (q + 1) 221 ls st H cN sN = (V0 l Z b K q 224 ls (.long 2097152 :: st) H cN sN) := by show Wn _ _ _ _ _ _ _ _ _ _ _ _ _ _ _ (q + 1) _ _ _ _ _ _ = _; rw [wn_s (by decide), f0_221]; rfl
theorem f0_224 : at1 code 224 = some (.lmul) := at1_of at_224 rfl (by decide)
theorem s0_224 : V0 l Z b K (q + 1) 224 ls st H cN sN = (popJ st fun y r => popJ r fun x r => V0 l Z b K q 225 ls (.long (x * y) :: r) H cN sN) := by show Wn _ _ _ _ _ _ _ _ _ _ _ _ _ _ _ (q + 1) _ _ _ _ _ _ = _; rw [wn_s (by decide), f0_224]; rfl
theorem f0_225 : at1 code 225 = some (.ladd) := at1_of at_225 rfl (by decide)
theorem s0_225 : V0 l Z b K (q + 1) 225 ls st H cN sN = (popJ st fun y r => popJ r fun x r => V0 l Z b K q 226 ls (.long (x + y) :: r) H cN sN) := by show Wn _ _ _ _ _ _ _ _ _ _ _ _ _ _ _ (q + 1) _ _ _ _ _ _ = _; rw [wn_s (by decide), f0_225]; rfl
theorem f0_226 : at1 code 226 = some (.lstore 11) := at1_of at_226 rfl (by decide)
theorem s0_226 : V0 l Z b K (q + 1) 226 ls st H cN sN = (popJ st fun v r => sto2 ls 11 (.long v) fun l' => V0 l Z b K q 228 l' r H cN sN) := by show Wn _ _ _ _ _ _ _ _ _ _ _ _ _ _ _ (q + 1) _ _ _ _ _ _ = _; rw [wn_s (by decide), f0_226]; rfl
theorem f0_228 : at1 code 228 = some (.iconst 4) := at1_of at_228 rfl (by decide)
theorem s0_228 : V0 l Z b K (q + 1) 228 ls st H cN sN = (V0 l Z b K q 229 ls (.int 4 :: st) H cN sN) := by show Wn _ _ _ _ _ _ _ _ _ _ _ _ _ _ _ (q + 1) _ _ _ _ _ _ = _; rw [wn_s (by decide), f0_228]; rfl
theorem f0_229 : at1 code 229 = some (.istore 13) := at1_of at_229 rfl (by decide)
theorem s0_229 : V0 l Z b K (q + 1) 229 ls st H cN sN = (popI st fun v r => sto1 ls 13 (.int v) fun l' => V0 l Z b K q 231 l' r H cN sN) := by show Wn _ _ _ _ _ _ _ _ _ _ _ _ _ _ _ (q + 1) _ _ _ _ _ _ = _; rw [wn_s (by decide), f0_229]; rfl
theorem f0_231 : at1 code 231 = some (.iload 9) := at1_of at_231 rfl (by decide)
theorem s0_231 : V0 l Z b K (q + 1) 231 ls st H cN sN = (ldI ls 9 fun v => V0 l Z b K q 233 ls (.int v :: st) H cN sN) := by show Wn _ _ _ _ _ _ _ _ _ _ _ _ _ _ _ (q + 1) _ _ _ _ _ _ = _; rw [wn_s (by decide), f0_231]; rfl
theorem f0_233 : at1 code 233 = some (.ifCond .ge 20) := at1_of at_233 rfl (by decide)
theorem s0_233 : V0 l Z b K (q + 1) 233 ls st H cN sN = (popI st fun x r => if x < 0 then V0 l Z b K q 236 ls r H cN sN else V0 l Z b K q 253 ls r H cN sN) := by show Wn _ _ _ _ _ _ _ _ _ _ _ _ _ _ _ (q + 1) _ _ _ _ _ _ = _; rw [wn_s (by decide), f0_233]; rfl
theorem f0_236 : at1 code 236 = some (.lload 11) := at1_of at_236 rfl (by decide)
theorem s0_236 : V0 l Z b K (q + 1) 236 ls st H cN sN = (ldJ ls 11 fun v => V0 l Z b K q 238 ls (.long v :: st) H cN sN) := by show Wn _ _ _ _ _ _ _ _ _ _ _ _ _ _ _ (q + 1) _ _ _ _ _ _ = _; rw [wn_s (by decide), f0_236]; rfl
theorem f0_238 : at1 code 238 = some (.iload_n 1) := at1_of at_238 rfl (by decide)
theorem s0_238 : V0 l Z b K (q + 1) 238 ls st H cN sN = (ldI ls 1 fun v => V0 l Z b K q 239 ls (.int v :: st) H cN sN) := by show Wn _ _ _ _ _ _ _ _ _ _ _ _ _ _ _ (q + 1) _ _ _ _ _ _ = _; rw [wn_s (by decide), f0_238]; rfl
theorem f0_239 : at1 code 239 = some (.bipush 15) := at1_of at_239 rfl (by decide)
theorem s0_239 : V0 l Z b K (q + 1) 239 ls st H cN sN = (V0 l Z b K q 241 ls (.int 15 :: st) H cN sN) := by show Wn _ _ _ _ _ _ _ _ _ _ _ _ _ _ _ (q + 1) _ _ _ _ _ _ = _; rw [wn_s (by decide), f0_239]; rfl
theorem f0_241 : at1 code 241 = some (.iand) := at1_of at_241 rfl (by decide)
theorem s0_241 : V0 l Z b K (q + 1) 241 ls st H cN sN = (popI st fun y r => popI r fun x r => V0 l Z b K q 242 ls (.int (x &&& y) :: r) H cN sN) := by show Wn _ _ _ _ _ _ _ _ _ _ _ _ _ _ _ (q + 1) _ _ _ _ _ _ = _; rw [wn_s (by decide), f0_241]; rfl
theorem f0_242 : at1 code 242 = some (.i2l) := at1_of at_242 rfl (by decide)
theorem s0_242 : V0 l Z b K (q + 1) 242 ls st H cN sN = (popI st fun x r => V0 l Z b K q 243 ls (.long (x.toInt64) :: r) H cN sN) := by show Wn _ _ _ _ _ _ _ _ _ _ _ _ _ _ _ (q + 1) _ _ _ _ _ _ = _; rw [wn_s (by decide), f0_242]; rfl
theorem f0_243 : at1 code 243 = some (.ldc2_w 13) := at1_of at_243 rfl (by decide)
theorem s0_243 : V0 l Z b K (q + 1) 243 ls st H cN sN = (V0 l Z b K q 246 ls (.long 268435456 :: st) H cN sN) := by show Wn _ _ _ _ _ _ _ _ _ _ _ _ _ _ _ (q + 1) _ _ _ _ _ _ = _; rw [wn_s (by decide), f0_243]; rfl
theorem f0_246 : at1 code 246 = some (.lmul) := at1_of at_246 rfl (by decide)
theorem s0_246 : V0 l Z b K (q + 1) 246 ls st H cN sN = (popJ st fun y r => popJ r fun x r => V0 l Z b K q 247 ls (.long (x * y) :: r) H cN sN) := by show Wn _ _ _ _ _ _ _ _ _ _ _ _ _ _ _ (q + 1) _ _ _ _ _ _ = _; rw [wn_s (by decide), f0_246]; rfl
theorem f0_247 : at1 code 247 = some (.ladd) := at1_of at_247 rfl (by decide)
theorem s0_247 : V0 l Z b K (q + 1) 247 ls st H cN sN = (popJ st fun y r => popJ r fun x r => V0 l Z b K q 248 ls (.long (x + y) :: r) H cN sN) := by show Wn _ _ _ _ _ _ _ _ _ _ _ _ _ _ _ (q + 1) _ _ _ _ _ _ = _; rw [wn_s (by decide), f0_247]; rfl
theorem f0_248 : at1 code 248 = some (.lstore 11) := at1_of at_248 rfl (by decide)
theorem s0_248 : V0 l Z b K (q + 1) 248 ls st H cN sN = (popJ st fun v r => sto2 ls 11 (.long v) fun l' => V0 l Z b K q 250 l' r H cN sN) := by show Wn _ _ _ _ _ _ _ _ _ _ _ _ _ _ _ (q + 1) _ _ _ _ _ _ = _; rw [wn_s (by decide), f0_248]; rfl
theorem f0_250 : at1 code 250 = some (.iconst 5) := at1_of at_250 rfl (by decide)
theorem s0_250 : V0 l Z b K (q + 1) 250 ls st H cN sN = (V0 l Z b K q 251 ls (.int 5 :: st) H cN sN) := by show Wn _ _ _ _ _ _ _ _ _ _ _ _ _ _ _ (q + 1) _ _ _ _ _ _ = _; rw [wn_s (by decide), f0_250]; rfl
theorem f0_251 : at1 code 251 = some (.istore 13) := at1_of at_251 rfl (by decide)
theorem s0_251 : V0 l Z b K (q + 1) 251 ls st H cN sN = (popI st fun v r => sto1 ls 13 (.int v) fun l' => V0 l Z b K q 253 l' r H cN sN) := by show Wn _ _ _ _ _ _ _ _ _ _ _ _ _ _ _ (q + 1) _ _ _ _ _ _ = _; rw [wn_s (by decide), f0_251]; rfl
theorem f0_253 : at1 code 253 = some (.lload 11) := at1_of at_253 rfl (by decide)
theorem s0_253 : V0 l Z b K (q + 1) 253 ls st H cN sN = (ldJ ls 11 fun v => V0 l Z b K q 255 ls (.long v :: st) H cN sN) := by show Wn _ _ _ _ _ _ _ _ _ _ _ _ _ _ _ (q + 1) _ _ _ _ _ _ = _; rw [wn_s (by decide), f0_253]; rfl
theorem f0_255 : at1 code 255 = some (.l2i) := at1_of at_255 rfl (by decide)
theorem s0_255 : V0 l Z b K (q + 1) 255 ls st H cN sN = (popJ st fun x r => V0 l Z b K q 256 ls (.int (x.toInt32) :: r) H cN sN) := by show Wn _ _ _ _ _ _ _ _ _ _ _ _ _ _ _ (q + 1) _ _ _ _ _ _ = _; rw [wn_s (by decide), f0_255]; rfl
theorem f0_256 : at1 code 256 = some (.istore 14) := at1_of at_256 rfl (by decide)
theorem s0_256 : V0 l Z b K (q + 1) 256 ls st H cN sN = (popI st fun v r => sto1 ls 14 (.int v) fun l' => V0 l Z b K q 258 l' r H cN sN) := by show Wn _ _ _ _ _ _ _ _ _ _ _ _ _ _ _ (q + 1) _ _ _ _ _ _ = _; rw [wn_s (by decide), f0_256]; rfl
theorem f0_258 : at1 code 258 = some (.iload 14) := at1_of at_258 rfl (by decide)
theorem s0_258 : V0 l Z b K (q + 1) 258 ls st H cN sN = (ldI ls 14 fun v => V0 l Z b K q 260 ls (.int v :: st) H cN sN) := by show Wn _ _ _ _ _ _ _ _ _ _ _ _ _ _ _ (q + 1) _ _ _ _ _ _ = _; rw [wn_s (by decide), f0_258]; rfl
theorem f0_260 : at1 code 260 = some (.i2l) := at1_of at_260 rfl (by decide)
theorem s0_260 : V0 l Z b K (q + 1) 260 ls st H cN sN = (popI st fun x r => V0 l Z b K q 261 ls (.long (x.toInt64) :: r) H cN sN) := by show Wn _ _ _ _ _ _ _ _ _ _ _ _ _ _ _ (q + 1) _ _ _ _ _ _ = _; rw [wn_s (by decide), f0_260]; rfl
theorem f0_261 : at1 code 261 = some (.bipush 32) := at1_of at_261 rfl (by decide)
theorem s0_261 : V0 l Z b K (q + 1) 261 ls st H cN sN = (V0 l Z b K q 263 ls (.int 32 :: st) H cN sN) := by show Wn _ _ _ _ _ _ _ _ _ _ _ _ _ _ _ (q + 1) _ _ _ _ _ _ = _; rw [wn_s (by decide), f0_261]; rfl
theorem f0_263 : at1 code 263 = some (.lshl) := at1_of at_263 rfl (by decide)
theorem s0_263 : V0 l Z b K (q + 1) 263 ls st H cN sN = (popI st fun y r => popJ r fun x r => V0 l Z b K q 264 ls (.long (x <<< (y.toInt64 &&& 63)) :: r) H cN sN) := by show Wn _ _ _ _ _ _ _ _ _ _ _ _ _ _ _ (q + 1) _ _ _ _ _ _ = _; rw [wn_s (by decide), f0_263]; rfl
theorem f0_264 : at1 code 264 = some (.iload_n 3) := at1_of at_264 rfl (by decide)
theorem s0_264 : V0 l Z b K (q + 1) 264 ls st H cN sN = (ldI ls 3 fun v => V0 l Z b K q 265 ls (.int v :: st) H cN sN) := by show Wn _ _ _ _ _ _ _ _ _ _ _ _ _ _ _ (q + 1) _ _ _ _ _ _ = _; rw [wn_s (by decide), f0_264]; rfl
theorem f0_265 : at1 code 265 = some (.iload 13) := at1_of at_265 rfl (by decide)
theorem s0_265 : V0 l Z b K (q + 1) 265 ls st H cN sN = (ldI ls 13 fun v => V0 l Z b K q 267 ls (.int v :: st) H cN sN) := by show Wn _ _ _ _ _ _ _ _ _ _ _ _ _ _ _ (q + 1) _ _ _ _ _ _ = _; rw [wn_s (by decide), f0_265]; rfl
theorem f0_267 : at1 code 267 = some (.iadd) := at1_of at_267 rfl (by decide)
theorem s0_267 : V0 l Z b K (q + 1) 267 ls st H cN sN = (popI st fun y r => popI r fun x r => V0 l Z b K q 268 ls (.int (x + y) :: r) H cN sN) := by show Wn _ _ _ _ _ _ _ _ _ _ _ _ _ _ _ (q + 1) _ _ _ _ _ _ = _; rw [wn_s (by decide), f0_267]; rfl
theorem f0_268 : at1 code 268 = some (.i2l) := at1_of at_268 rfl (by decide)
theorem s0_268 : V0 l Z b K (q + 1) 268 ls st H cN sN = (popI st fun x r => V0 l Z b K q 269 ls (.long (x.toInt64) :: r) H cN sN) := by show Wn _ _ _ _ _ _ _ _ _ _ _ _ _ _ _ (q + 1) _ _ _ _ _ _ = _; rw [wn_s (by decide), f0_268]; rfl
theorem f0_269 : at1 code 269 = some (.ladd) := at1_of at_269 rfl (by decide)
theorem s0_269 : V0 l Z b K (q + 1) 269 ls st H cN sN = (popJ st fun y r => popJ r fun x r => V0 l Z b K q 270 ls (.long (x + y) :: r) H cN sN) := by show Wn _ _ _ _ _ _ _ _ _ _ _ _ _ _ _ (q + 1) _ _ _ _ _ _ = _; rw [wn_s (by decide), f0_269]; rfl
theorem f0_270 : at1 code 270 = some (.lstore 15) := at1_of at_270 rfl (by decide)
theorem s0_270 : V0 l Z b K (q + 1) 270 ls st H cN sN = (popJ st fun v r => sto2 ls 15 (.long v) fun l' => V0 l Z b K q 272 l' r H cN sN) := by show Wn _ _ _ _ _ _ _ _ _ _ _ _ _ _ _ (q + 1) _ _ _ _ _ _ = _; rw [wn_s (by decide), f0_270]; rfl
theorem f0_272 : at1 code 272 = some (.aload 5) := at1_of at_272 rfl (by decide)
theorem s0_272 : V0 l Z b K (q + 1) 272 ls st H cN sN = (ldA ls 5 fun v => V0 l Z b K q 274 ls (v :: st) H cN sN) := by show Wn _ _ _ _ _ _ _ _ _ _ _ _ _ _ _ (q + 1) _ _ _ _ _ _ = _; rw [wn_s (by decide), f0_272]; rfl
theorem f0_274 : at1 code 274 = some (.iload_n 3) := at1_of at_274 rfl (by decide)
theorem s0_274 : V0 l Z b K (q + 1) 274 ls st H cN sN = (ldI ls 3 fun v => V0 l Z b K q 275 ls (.int v :: st) H cN sN) := by show Wn _ _ _ _ _ _ _ _ _ _ _ _ _ _ _ (q + 1) _ _ _ _ _ _ = _; rw [wn_s (by decide), f0_274]; rfl
theorem f0_275 : at1 code 275 = some (.invokestatic 15) := at1_of at_275 rfl (by decide)
theorem s0_275 : V0 l Z b K (q + 1) 275 ls st H cN sN = (G0 l Z b K 275 ls st H cN sN) := by show Wn _ _ _ _ _ _ _ _ _ _ _ _ _ _ _ (q + 1) _ _ _ _ _ _ = _; rw [wn_s (by decide), f0_275]; rfl
theorem f0_278 : at1 code 278 = some (.lstore 17) := at1_of at_278 rfl (by decide)
theorem s0_278 : V0 l Z b K (q + 1) 278 ls st H cN sN = (popJ st fun v r => sto2 ls 17 (.long v) fun l' => V0 l Z b K q 280 l' r H cN sN) := by show Wn _ _ _ _ _ _ _ _ _ _ _ _ _ _ _ (q + 1) _ _ _ _ _ _ = _; rw [wn_s (by decide), f0_278]; rfl
theorem f0_280 : at1 code 280 = some (.lload 17) := at1_of at_280 rfl (by decide)
theorem s0_280 : V0 l Z b K (q + 1) 280 ls st H cN sN = (ldJ ls 17 fun v => V0 l Z b K q 282 ls (.long v :: st) H cN sN) := by show Wn _ _ _ _ _ _ _ _ _ _ _ _ _ _ _ (q + 1) _ _ _ _ _ _ = _; rw [wn_s (by decide), f0_280]; rfl
theorem f0_282 : at1 code 282 = some (.lload 15) := at1_of at_282 rfl (by decide)
theorem s0_282 : V0 l Z b K (q + 1) 282 ls st H cN sN = (ldJ ls 15 fun v => V0 l Z b K q 284 ls (.long v :: st) H cN sN) := by show Wn _ _ _ _ _ _ _ _ _ _ _ _ _ _ _ (q + 1) _ _ _ _ _ _ = _; rw [wn_s (by decide), f0_282]; rfl
theorem f0_284 : at1 code 284 = some (.lcmp) := at1_of at_284 rfl (by decide)
theorem s0_284 : V0 l Z b K (q + 1) 284 ls st H cN sN = (popJ st fun y r => popJ r fun x r => V0 l Z b K q 285 ls (.int (XT.cmpL x y) :: r) H cN sN) := by show Wn _ _ _ _ _ _ _ _ _ _ _ _ _ _ _ (q + 1) _ _ _ _ _ _ = _; rw [wn_s (by decide), f0_284]; rfl
theorem f0_285 : at1 code 285 = some (.ifCond .ne 7) := at1_of at_285 rfl (by decide)
theorem s0_285 : V0 l Z b K (q + 1) 285 ls st H cN sN = (popI st fun x r => if x = 0 then V0 l Z b K q 288 ls r H cN sN else V0 l Z b K q 292 ls r H cN sN) := by show Wn _ _ _ _ _ _ _ _ _ _ _ _ _ _ _ (q + 1) _ _ _ _ _ _ = _; rw [wn_s (by decide), f0_285]; rfl
theorem f0_288 : at1 code 288 = some (.iconst 1) := at1_of at_288 rfl (by decide)
theorem s0_288 : V0 l Z b K (q + 1) 288 ls st H cN sN = (V0 l Z b K q 289 ls (.int 1 :: st) H cN sN) := by show Wn _ _ _ _ _ _ _ _ _ _ _ _ _ _ _ (q + 1) _ _ _ _ _ _ = _; rw [wn_s (by decide), f0_288]; rfl
theorem f0_289 : at1 code 289 = some (.goto 4) := at1_of at_289 rfl (by decide)
theorem s0_289 : V0 l Z b K (q + 1) 289 ls st H cN sN = (V0 l Z b K q 293 ls st H cN sN) := by show Wn _ _ _ _ _ _ _ _ _ _ _ _ _ _ _ (q + 1) _ _ _ _ _ _ = _; rw [wn_s (by decide), f0_289]; rfl
theorem f0_292 : at1 code 292 = some (.iconst 0) := at1_of at_292 rfl (by decide)
theorem s0_292 : V0 l Z b K (q + 1) 292 ls st H cN sN = (V0 l Z b K q 293 ls (.int 0 :: st) H cN sN) := by show Wn _ _ _ _ _ _ _ _ _ _ _ _ _ _ _ (q + 1) _ _ _ _ _ _ = _; rw [wn_s (by decide), f0_292]; rfl
theorem f0_293 : at1 code 293 = some (.ireturn) := at1_of at_293 rfl (by decide)
theorem s0_293 : V0 l Z b K (q + 1) 293 ls st H cN sN = (popI st fun x r => if cN ≤ 16 ∧ sN ≤ 128 then K (some (.int (nar .boolean x))) H else False) := by show Wn _ _ _ _ _ _ _ _ _ _ _ _ _ _ _ (q + 1) _ _ _ _ _ _ = _; rw [wn_s (by decide), f0_293]; rfl
theorem S0 : type_of% @z0 ∧ type_of% @s0_0 ∧ type_of% @s0_1 ∧ type_of% @s0_2 ∧ type_of% @s0_3 ∧ type_of% @s0_4 ∧ type_of% @s0_5 ∧ type_of% @s0_7 ∧ type_of% @s0_8 ∧ type_of% @s0_9 ∧ type_of% @s0_11 ∧ type_of% @s0_13 ∧ type_of% @s0_15 ∧ type_of% @s0_17 ∧ type_of% @s0_19 ∧ type_of% @s0_20 ∧ type_of% @s0_22 ∧ type_of% @s0_23 ∧ type_of% @s0_25 ∧ type_of% @s0_26 ∧ type_of% @s0_28 ∧ type_of% @s0_29 ∧ type_of% @s0_31 ∧ type_of% @s0_32 ∧ type_of% @s0_34 ∧ type_of% @s0_35 ∧ type_of% @s0_37 ∧ type_of% @s0_38 ∧ type_of% @s0_40 ∧ type_of% @s0_41 ∧ type_of% @s0_43 ∧ type_of% @s0_44 ∧ type_of% @s0_46 ∧ type_of% @s0_47 ∧ type_of% @s0_49 ∧ type_of% @s0_50 ∧ type_of% @s0_52 ∧ type_of% @s0_53 ∧ type_of% @s0_55 ∧ type_of% @s0_57 ∧ type_of% @s0_59 ∧ type_of% @s0_60 ∧ type_of% @s0_62 ∧ type_of% @s0_64 ∧ type_of% @s0_66 ∧ type_of% @s0_67 ∧ type_of% @s0_69 ∧ type_of% @s0_71 ∧ type_of% @s0_73 ∧ type_of% @s0_74 ∧ type_of% @s0_76 ∧ type_of% @s0_78 ∧ type_of% @s0_80 ∧ type_of% @s0_81 ∧ type_of% @s0_82 ∧ type_of% @s0_83 ∧ type_of% @s0_85 ∧ type_of% @s0_86 ∧ type_of% @s0_88 ∧ type_of% @s0_89 ∧ type_of% @s0_90 ∧ type_of% @s0_92 ∧ type_of% @s0_93 ∧ type_of% @s0_95 ∧ type_of% @s0_96 ∧ type_of% @s0_97 ∧ type_of% @s0_99 ∧ type_of% @s0_100 ∧ type_of% @s0_102 ∧ type_of% @s0_103 ∧ type_of% @s0_104 ∧ type_of% @s0_106 ∧ type_of% @s0_107 ∧ type_of% @s0_109 ∧ type_of% @s0_110 ∧ type_of% @s0_111 ∧ type_of% @s0_113 ∧ type_of% @s0_115 ∧ type_of% @s0_116 ∧ type_of% @s0_118 ∧ type_of% @s0_119 ∧ type_of% @s0_121 ∧ type_of% @s0_122 ∧ type_of% @s0_123 ∧ type_of% @s0_124 ∧ type_of% @s0_126 ∧ type_of% @s0_127 ∧ type_of% @s0_129 ∧ type_of% @s0_130 ∧ type_of% @s0_131 ∧ type_of% @s0_132 ∧ type_of% @s0_134 ∧ type_of% @s0_135 ∧ type_of% @s0_137 ∧ type_of% @s0_138 ∧ type_of% @s0_139 ∧ type_of% @s0_140 ∧ type_of% @s0_142 ∧ type_of% @s0_143 ∧ type_of% @s0_145 ∧ type_of% @s0_146 ∧ type_of% @s0_147 ∧ type_of% @s0_148 ∧ type_of% @s0_150 ∧ type_of% @s0_151 ∧ type_of% @s0_153 ∧ type_of% @s0_155 ∧ type_of% @s0_156 ∧ type_of% @s0_157 ∧ type_of% @s0_159 ∧ type_of% @s0_160 ∧ type_of% @s0_162 ∧ type_of% @s0_164 ∧ type_of% @s0_167 ∧ type_of% @s0_169 ∧ type_of% @s0_171 ∧ type_of% @s0_173 ∧ type_of% @s0_174 ∧ type_of% @s0_175 ∧ type_of% @s0_178 ∧ type_of% @s0_179 ∧ type_of% @s0_180 ∧ type_of% @s0_182 ∧ type_of% @s0_183 ∧ type_of% @s0_185 ∧ type_of% @s0_187 ∧ type_of% @s0_190 ∧ type_of% @s0_192 ∧ type_of% @s0_194 ∧ type_of% @s0_196 ∧ type_of% @s0_197 ∧ type_of% @s0_198 ∧ type_of% @s0_201 ∧ type_of% @s0_202 ∧ type_of% @s0_203 ∧ type_of% @s0_205 ∧ type_of% @s0_206 ∧ type_of% @s0_208 ∧ type_of% @s0_210 ∧ type_of% @s0_213 ∧ type_of% @s0_215 ∧ type_of% @s0_217 ∧ type_of% @s0_219 ∧ type_of% @s0_220 ∧ type_of% @s0_221 ∧ type_of% @s0_224 ∧ type_of% @s0_225 ∧ type_of% @s0_226 ∧ type_of% @s0_228 ∧ type_of% @s0_229 ∧ type_of% @s0_231 ∧ type_of% @s0_233 ∧ type_of% @s0_236 ∧ type_of% @s0_238 ∧ type_of% @s0_239 ∧ type_of% @s0_241 ∧ type_of% @s0_242 ∧ type_of% @s0_243 ∧ type_of% @s0_246 ∧ type_of% @s0_247 ∧ type_of% @s0_248 ∧ type_of% @s0_250 ∧ type_of% @s0_251 ∧ type_of% @s0_253 ∧ type_of% @s0_255 ∧ type_of% @s0_256 ∧ type_of% @s0_258 ∧ type_of% @s0_260 ∧ type_of% @s0_261 ∧ type_of% @s0_263 ∧ type_of% @s0_264 ∧ type_of% @s0_265 ∧ type_of% @s0_267 ∧ type_of% @s0_268 ∧ type_of% @s0_269 ∧ type_of% @s0_270 ∧ type_of% @s0_272 ∧ type_of% @s0_274 ∧ type_of% @s0_275 ∧ type_of% @s0_278 ∧ type_of% @s0_280 ∧ type_of% @s0_282 ∧ type_of% @s0_284 ∧ type_of% @s0_285 ∧ type_of% @s0_288 ∧ type_of% @s0_289 ∧ type_of% @s0_292 ∧ type_of% @s0_293 := ⟨@z0, @s0_0, @s0_1, @s0_2, @s0_3, @s0_4, @s0_5, @s0_7, @s0_8, @s0_9, @s0_11, @s0_13, @s0_15, @s0_17, @s0_19, @s0_20, @s0_22, @s0_23, @s0_25, @s0_26, @s0_28, @s0_29, @s0_31, @s0_32, @s0_34, @s0_35, @s0_37, @s0_38, @s0_40, @s0_41, @s0_43, @s0_44, @s0_46, @s0_47, @s0_49, @s0_50, @s0_52, @s0_53, @s0_55, @s0_57, @s0_59, @s0_60, @s0_62, @s0_64, @s0_66, @s0_67, @s0_69, @s0_71, @s0_73, @s0_74, @s0_76, @s0_78, @s0_80, @s0_81, @s0_82, @s0_83, @s0_85, @s0_86, @s0_88, @s0_89, @s0_90, @s0_92, @s0_93, @s0_95, @s0_96, @s0_97, @s0_99, @s0_100, @s0_102, @s0_103, @s0_104, @s0_106, @s0_107, @s0_109, @s0_110, @s0_111, @s0_113, @s0_115, @s0_116, @s0_118, @s0_119, @s0_121, @s0_122, @s0_123, @s0_124, @s0_126, @s0_127, @s0_129, @s0_130, @s0_131, @s0_132, @s0_134, @s0_135, @s0_137, @s0_138, @s0_139, @s0_140, @s0_142, @s0_143, @s0_145, @s0_146, @s0_147, @s0_148, @s0_150, @s0_151, @s0_153, @s0_155, @s0_156, @s0_157, @s0_159, @s0_160, @s0_162, @s0_164, @s0_167, @s0_169, @s0_171, @s0_173, @s0_174, @s0_175, @s0_178, @s0_179, @s0_180, @s0_182, @s0_183, @s0_185, @s0_187, @s0_190, @s0_192, @s0_194, @s0_196, @s0_197, @s0_198, @s0_201, @s0_202, @s0_203, @s0_205, @s0_206, @s0_208, @s0_210, @s0_213, @s0_215, @s0_217, @s0_219, @s0_220, @s0_221, @s0_224, @s0_225, @s0_226, @s0_228, @s0_229, @s0_231, @s0_233, @s0_236, @s0_238, @s0_239, @s0_241, @s0_242, @s0_243, @s0_246, @s0_247, @s0_248, @s0_250, @s0_251, @s0_253, @s0_255, @s0_256, @s0_258, @s0_260, @s0_261, @s0_263, @s0_264, @s0_265, @s0_267, @s0_268, @s0_269, @s0_270, @s0_272, @s0_274, @s0_275, @s0_278, @s0_280, @s0_282, @s0_284, @s0_285, @s0_288, @s0_289, @s0_292, @s0_293⟩
theorem ef0 (m : MethodId) (x0 : Int32) (x1 : Int32) (x2 : Int32) : entryFrame m [.int x0, .int x1, .int x2].toArray maxLocals = mkF m 0 [.val (.int x0), .val (.int x1), .val (.int x2), .unset, .unset, .unset, .unset, .unset, .unset, .unset, .unset, .unset, .unset, .unset, .unset, .unset, .unset, .unset, .unset].toArray [] := by first | (simp [entryFrame, mkF, argsToLocals, Value.category, maxLocals, List.replicate]; done) | rfl
end Body0
def R1 : Room := { frames := 0, cells := 0, slots := 0, locals := 0 }
def y1 : MethodName := ⟨"com/example/twinsift/twinsift/cover/Varint", "read", "([BI)J"⟩
def G1 (l : Launch) (Z : State) (b : Heap) (K : Option Value → List Cel → Prop) : Cont := G prog_55_method_4_code "com/example/twinsift/twinsift/cover/Varint" "read" 6 (some .long) R1 tables_1 l Z b 0 0 K
def V1 (l : Launch) (Z : State) (b : Heap) (K : Option Value → List Cel → Prop) : Nat → Cont := Wn [] prog_55_method_4_code [] [] [] [] [] [] (some .long) R1 b.size 0 0 K (G1 l Z b K)
section Body1
variable {l : Launch} {Z : State} {b : Heap} {K : Option Value → List Cel → Prop} {q : Nat} {ls : List Slot} {st : List Value} {H : List Cel} {cN sN : Nat}
theorem r1 (q : Nat) {pc : Nat} (h : V1 l Z b K q pc ls st H cN sN) : G1 l Z b K pc ls st H cN sN := G.run q (by intro x hx; cases hx) (by intro x hx; cases hx) (by intro x hx; cases hx) (by intro x hx; cases hx) (by intro x hx; cases hx) (by intro x hx; cases hx) h
theorem z1 {pc : Nat} : V1 l Z b K 0 pc ls st H cN sN = G1 l Z b K pc ls st H cN sN := propext Iff.rfl
theorem f1_0 : at1 prog_55_method_4_code 0 = some (.iload_n 1) := by decide +kernel
theorem s1_0 : V1 l Z b K (q + 1) 0 ls st H cN sN = (ldI ls 1 fun v => V1 l Z b K q 1 ls (.int v :: st) H cN sN) := by show Wn _ _ _ _ _ _ _ _ _ _ _ _ _ _ _ (q + 1) _ _ _ _ _ _ = _; rw [wn_s (by decide), f1_0]; rfl
theorem f1_1 : at1 prog_55_method_4_code 1 = some (.istore_n 2) := by decide +kernel
theorem s1_1 : V1 l Z b K (q + 1) 1 ls st H cN sN = (popI st fun v r => sto1 ls 2 (.int v) fun l' => V1 l Z b K q 2 l' r H cN sN) := by show Wn _ _ _ _ _ _ _ _ _ _ _ _ _ _ _ (q + 1) _ _ _ _ _ _ = _; rw [wn_s (by decide), f1_1]; rfl
theorem f1_2 : at1 prog_55_method_4_code 2 = some (.iconst 0) := by decide +kernel
theorem s1_2 : V1 l Z b K (q + 1) 2 ls st H cN sN = (V1 l Z b K q 3 ls (.int 0 :: st) H cN sN) := by show Wn _ _ _ _ _ _ _ _ _ _ _ _ _ _ _ (q + 1) _ _ _ _ _ _ = _; rw [wn_s (by decide), f1_2]; rfl
theorem f1_3 : at1 prog_55_method_4_code 3 = some (.istore_n 3) := by decide +kernel
theorem s1_3 : V1 l Z b K (q + 1) 3 ls st H cN sN = (popI st fun v r => sto1 ls 3 (.int v) fun l' => V1 l Z b K q 4 l' r H cN sN) := by show Wn _ _ _ _ _ _ _ _ _ _ _ _ _ _ _ (q + 1) _ _ _ _ _ _ = _; rw [wn_s (by decide), f1_3]; rfl
theorem f1_4 : at1 prog_55_method_4_code 4 = some (.iconst 0) := by decide +kernel
theorem s1_4 : V1 l Z b K (q + 1) 4 ls st H cN sN = (V1 l Z b K q 5 ls (.int 0 :: st) H cN sN) := by show Wn _ _ _ _ _ _ _ _ _ _ _ _ _ _ _ (q + 1) _ _ _ _ _ _ = _; rw [wn_s (by decide), f1_4]; rfl
theorem f1_5 : at1 prog_55_method_4_code 5 = some (.istore 5) := by decide +kernel
theorem s1_5 : V1 l Z b K (q + 1) 5 ls st H cN sN = (popI st fun v r => sto1 ls 5 (.int v) fun l' => V1 l Z b K q 7 l' r H cN sN) := by show Wn _ _ _ _ _ _ _ _ _ _ _ _ _ _ _ (q + 1) _ _ _ _ _ _ = _; rw [wn_s (by decide), f1_5]; rfl
theorem f1_7 : at1 prog_55_method_4_code 7 = some (.aload_n 0) := by decide +kernel
theorem s1_7 : V1 l Z b K (q + 1) 7 ls st H cN sN = (ldA ls 0 fun v => V1 l Z b K q 8 ls (v :: st) H cN sN) := by show Wn _ _ _ _ _ _ _ _ _ _ _ _ _ _ _ (q + 1) _ _ _ _ _ _ = _; rw [wn_s (by decide), f1_7]; rfl
theorem f1_8 : at1 prog_55_method_4_code 8 = some (.iload_n 2) := by decide +kernel
theorem s1_8 : V1 l Z b K (q + 1) 8 ls st H cN sN = (ldI ls 2 fun v => V1 l Z b K q 9 ls (.int v :: st) H cN sN) := by show Wn _ _ _ _ _ _ _ _ _ _ _ _ _ _ _ (q + 1) _ _ _ _ _ _ = _; rw [wn_s (by decide), f1_8]; rfl
theorem f1_9 : at1 prog_55_method_4_code 9 = some (.iinc 2 1) := by decide +kernel
theorem s1_9 : V1 l Z b K (q + 1) 9 ls st H cN sN = (ldI ls 2 fun v => setL ls 2 (.val (.int (v + 1))) fun l' => V1 l Z b K q 12 l' st H cN sN) := by show Wn _ _ _ _ _ _ _ _ _ _ _ _ _ _ _ (q + 1) _ _ _ _ _ _ = _; rw [wn_s (by decide), f1_9]; rfl
theorem f1_12 : at1 prog_55_method_4_code 12 = some (.baload) := by decide +kernel
theorem s1_12 : V1 l Z b K (q + 1) 12 ls st H cN sN = (popI st fun j r => popR r fun a r => arr H b.size a fun i ty vs => if ty = .byte then idx vs j fun v => V1 l Z b K q 13 ls (v :: r) H cN sN else False) := by show Wn _ _ _ _ _ _ _ _ _ _ _ _ _ _ _ (q + 1) _ _ _ _ _ _ = _; rw [wn_s (by decide), f1_12]; rfl
theorem f1_13 : at1 prog_55_method_4_code 13 = some (.istore 4) := by decide +kernel
theorem s1_13 : V1 l Z b K (q + 1) 13 ls st H cN sN = (popI st fun v r => sto1 ls 4 (.int v) fun l' => V1 l Z b K q 15 l' r H cN sN) := by show Wn _ _ _ _ _ _ _ _ _ _ _ _ _ _ _ (q + 1) _ _ _ _ _ _ = _; rw [wn_s (by decide), f1_13]; rfl
theorem f1_15 : at1 prog_55_method_4_code 15 = some (.iload_n 3) := by decide +kernel
theorem s1_15 : V1 l Z b K (q + 1) 15 ls st H cN sN = (ldI ls 3 fun v => V1 l Z b K q 16 ls (.int v :: st) H cN sN) := by show Wn _ _ _ _ _ _ _ _ _ _ _ _ _ _ _ (q + 1) _ _ _ _ _ _ = _; rw [wn_s (by decide), f1_15]; rfl
theorem f1_16 : at1 prog_55_method_4_code 16 = some (.iload 4) := by decide +kernel
theorem s1_16 : V1 l Z b K (q + 1) 16 ls st H cN sN = (ldI ls 4 fun v => V1 l Z b K q 18 ls (.int v :: st) H cN sN) := by show Wn _ _ _ _ _ _ _ _ _ _ _ _ _ _ _ (q + 1) _ _ _ _ _ _ = _; rw [wn_s (by decide), f1_16]; rfl
theorem f1_18 : at1 prog_55_method_4_code 18 = some (.bipush 127) := by decide +kernel
theorem s1_18 : V1 l Z b K (q + 1) 18 ls st H cN sN = (V1 l Z b K q 20 ls (.int 127 :: st) H cN sN) := by show Wn _ _ _ _ _ _ _ _ _ _ _ _ _ _ _ (q + 1) _ _ _ _ _ _ = _; rw [wn_s (by decide), f1_18]; rfl
theorem f1_20 : at1 prog_55_method_4_code 20 = some (.iand) := by decide +kernel
theorem s1_20 : V1 l Z b K (q + 1) 20 ls st H cN sN = (popI st fun y r => popI r fun x r => V1 l Z b K q 21 ls (.int (x &&& y) :: r) H cN sN) := by show Wn _ _ _ _ _ _ _ _ _ _ _ _ _ _ _ (q + 1) _ _ _ _ _ _ = _; rw [wn_s (by decide), f1_20]; rfl
theorem f1_21 : at1 prog_55_method_4_code 21 = some (.iload 5) := by decide +kernel
theorem s1_21 : V1 l Z b K (q + 1) 21 ls st H cN sN = (ldI ls 5 fun v => V1 l Z b K q 23 ls (.int v :: st) H cN sN) := by show Wn _ _ _ _ _ _ _ _ _ _ _ _ _ _ _ (q + 1) _ _ _ _ _ _ = _; rw [wn_s (by decide), f1_21]; rfl
theorem f1_23 : at1 prog_55_method_4_code 23 = some (.ishl) := by decide +kernel
theorem s1_23 : V1 l Z b K (q + 1) 23 ls st H cN sN = (popI st fun y r => popI r fun x r => V1 l Z b K q 24 ls (.int (x <<< (y &&& 31)) :: r) H cN sN) := by show Wn _ _ _ _ _ _ _ _ _ _ _ _ _ _ _ (q + 1) _ _ _ _ _ _ = _; rw [wn_s (by decide), f1_23]; rfl
theorem f1_24 : at1 prog_55_method_4_code 24 = some (.ior) := by decide +kernel
theorem s1_24 : V1 l Z b K (q + 1) 24 ls st H cN sN = (popI st fun y r => popI r fun x r => V1 l Z b K q 25 ls (.int (x ||| y) :: r) H cN sN) := by show Wn _ _ _ _ _ _ _ _ _ _ _ _ _ _ _ (q + 1) _ _ _ _ _ _ = _; rw [wn_s (by decide), f1_24]; rfl
theorem f1_25 : at1 prog_55_method_4_code 25 = some (.istore_n 3) := by decide +kernel
theorem s1_25 : V1 l Z b K (q + 1) 25 ls st H cN sN = (popI st fun v r => sto1 ls 3 (.int v) fun l' => V1 l Z b K q 26 l' r H cN sN) := by show Wn _ _ _ _ _ _ _ _ _ _ _ _ _ _ _ (q + 1) _ _ _ _ _ _ = _; rw [wn_s (by decide), f1_25]; rfl
theorem f1_26 : at1 prog_55_method_4_code 26 = some (.iinc 5 7) := by decide +kernel
theorem s1_26 : V1 l Z b K (q + 1) 26 ls st H cN sN = (ldI ls 5 fun v => setL ls 5 (.val (.int (v + 7))) fun l' => V1 l Z b K q 29 l' st H cN sN) := by show Wn _ _ _ _ _ _ _ _ _ _ _ _ _ _ _ (q + 1) _ _ _ _ _ _ = _; rw [wn_s (by decide), f1_26]; rfl
theorem f1_29 : at1 prog_55_method_4_code 29 = some (.iload 4) := by decide +kernel
theorem s1_29 : V1 l Z b K (q + 1) 29 ls st H cN sN = (ldI ls 4 fun v => V1 l Z b K q 31 ls (.int v :: st) H cN sN) := by show Wn _ _ _ _ _ _ _ _ _ _ _ _ _ _ _ (q + 1) _ _ _ _ _ _ = _; rw [wn_s (by decide), f1_29]; rfl
theorem f1_31 : at1 prog_55_method_4_code 31 = some (.ifCond .lt (-24)) := by decide +kernel
theorem s1_31 : V1 l Z b K (q + 1) 31 ls st H cN sN = (popI st fun x r => if x < 0 then V1 l Z b K q 7 ls r H cN sN else V1 l Z b K q 34 ls r H cN sN) := by show Wn _ _ _ _ _ _ _ _ _ _ _ _ _ _ _ (q + 1) _ _ _ _ _ _ = _; rw [wn_s (by decide), f1_31]; rfl
theorem f1_34 : at1 prog_55_method_4_code 34 = some (.iload_n 3) := by decide +kernel
theorem s1_34 : V1 l Z b K (q + 1) 34 ls st H cN sN = (ldI ls 3 fun v => V1 l Z b K q 35 ls (.int v :: st) H cN sN) := by show Wn _ _ _ _ _ _ _ _ _ _ _ _ _ _ _ (q + 1) _ _ _ _ _ _ = _; rw [wn_s (by decide), f1_34]; rfl
theorem f1_35 : at1 prog_55_method_4_code 35 = some (.i2l) := by decide +kernel
theorem s1_35 : V1 l Z b K (q + 1) 35 ls st H cN sN = (popI st fun x r => V1 l Z b K q 36 ls (.long (x.toInt64) :: r) H cN sN) := by show Wn _ _ _ _ _ _ _ _ _ _ _ _ _ _ _ (q + 1) _ _ _ _ _ _ = _; rw [wn_s (by decide), f1_35]; rfl
theorem f1_36 : at1 prog_55_method_4_code 36 = some (.bipush 32) := by decide +kernel
theorem s1_36 : V1 l Z b K (q + 1) 36 ls st H cN sN = (V1 l Z b K q 38 ls (.int 32 :: st) H cN sN) := by show Wn _ _ _ _ _ _ _ _ _ _ _ _ _ _ _ (q + 1) _ _ _ _ _ _ = _; rw [wn_s (by decide), f1_36]; rfl
theorem f1_38 : at1 prog_55_method_4_code 38 = some (.lshl) := by decide +kernel
theorem s1_38 : V1 l Z b K (q + 1) 38 ls st H cN sN = (popI st fun y r => popJ r fun x r => V1 l Z b K q 39 ls (.long (x <<< (y.toInt64 &&& 63)) :: r) H cN sN) := by show Wn _ _ _ _ _ _ _ _ _ _ _ _ _ _ _ (q + 1) _ _ _ _ _ _ = _; rw [wn_s (by decide), f1_38]; rfl
theorem f1_39 : at1 prog_55_method_4_code 39 = some (.iload_n 2) := by decide +kernel
theorem s1_39 : V1 l Z b K (q + 1) 39 ls st H cN sN = (ldI ls 2 fun v => V1 l Z b K q 40 ls (.int v :: st) H cN sN) := by show Wn _ _ _ _ _ _ _ _ _ _ _ _ _ _ _ (q + 1) _ _ _ _ _ _ = _; rw [wn_s (by decide), f1_39]; rfl
theorem f1_40 : at1 prog_55_method_4_code 40 = some (.i2l) := by decide +kernel
theorem s1_40 : V1 l Z b K (q + 1) 40 ls st H cN sN = (popI st fun x r => V1 l Z b K q 41 ls (.long (x.toInt64) :: r) H cN sN) := by show Wn _ _ _ _ _ _ _ _ _ _ _ _ _ _ _ (q + 1) _ _ _ _ _ _ = _; rw [wn_s (by decide), f1_40]; rfl
theorem f1_41 : at1 prog_55_method_4_code 41 = some (.lor) := by decide +kernel
theorem s1_41 : V1 l Z b K (q + 1) 41 ls st H cN sN = (popJ st fun y r => popJ r fun x r => V1 l Z b K q 42 ls (.long (x ||| y) :: r) H cN sN) := by show Wn _ _ _ _ _ _ _ _ _ _ _ _ _ _ _ (q + 1) _ _ _ _ _ _ = _; rw [wn_s (by decide), f1_41]; rfl
theorem f1_42 : at1 prog_55_method_4_code 42 = some (.lreturn) := by decide +kernel
theorem s1_42 : V1 l Z b K (q + 1) 42 ls st H cN sN = (popJ st fun x r => if cN ≤ 0 ∧ sN ≤ 0 ∧ r = [] ∧ (some .long : Option FieldType) = some .long then K (some (.long x)) H else False) := by show Wn _ _ _ _ _ _ _ _ _ _ _ _ _ _ _ (q + 1) _ _ _ _ _ _ = _; rw [wn_s (by decide), f1_42]; rfl
theorem S1 : type_of% @z1 ∧ type_of% @s1_0 ∧ type_of% @s1_1 ∧ type_of% @s1_2 ∧ type_of% @s1_3 ∧ type_of% @s1_4 ∧ type_of% @s1_5 ∧ type_of% @s1_7 ∧ type_of% @s1_8 ∧ type_of% @s1_9 ∧ type_of% @s1_12 ∧ type_of% @s1_13 ∧ type_of% @s1_15 ∧ type_of% @s1_16 ∧ type_of% @s1_18 ∧ type_of% @s1_20 ∧ type_of% @s1_21 ∧ type_of% @s1_23 ∧ type_of% @s1_24 ∧ type_of% @s1_25 ∧ type_of% @s1_26 ∧ type_of% @s1_29 ∧ type_of% @s1_31 ∧ type_of% @s1_34 ∧ type_of% @s1_35 ∧ type_of% @s1_36 ∧ type_of% @s1_38 ∧ type_of% @s1_39 ∧ type_of% @s1_40 ∧ type_of% @s1_41 ∧ type_of% @s1_42 := ⟨@z1, @s1_0, @s1_1, @s1_2, @s1_3, @s1_4, @s1_5, @s1_7, @s1_8, @s1_9, @s1_12, @s1_13, @s1_15, @s1_16, @s1_18, @s1_20, @s1_21, @s1_23, @s1_24, @s1_25, @s1_26, @s1_29, @s1_31, @s1_34, @s1_35, @s1_36, @s1_38, @s1_39, @s1_40, @s1_41, @s1_42⟩
theorem ef1 (m : MethodId) (x0 : Nat) (x1 : Int32) : entryFrame m [.ref x0, .int x1].toArray 6 = mkF m 0 [.val (.ref x0), .val (.int x1), .unset, .unset, .unset, .unset].toArray [] := by first | (simp [entryFrame, mkF, argsToLocals, Value.category, maxLocals, List.replicate]; done) | rfl
theorem pn1 : plainFor y1 = true := by first | decide +kernel | exact plainFor_of_name (by simp [y1, plainName, overriddenIn])
theorem pd1 : parseMethodDescriptor "([BI)J" = some ⟨[(.array .byte), .int], some .long⟩ := by decide +kernel
theorem c1 (x0 : Nat) (x1 : Int32) (g : G1 l Z b K 0 [.val (.ref x0), .val (.int x1), .unset, .unset, .unset, .unset] [] H 0 0) : Con tables_1 l Z b y1 prog_55_method_4_code 6 (some .long) R1 [.ref x0, .int x1] H K := G.con pn1 (fun m => ef1 m x0 x1) g
end Body1
section Calls0
variable {l : Launch} {Z : State} {b : Heap} {K : Option Value → List Cel → Prop} {ls : List Slot} {rest : List Value} {H : List Cel} {cN sN : Nat} {K' : Option Value → List Cel → Prop}
theorem k0_275 {x0 : Nat} {x1 : Int32} (C : Con tables_1 l Z b y1 prog_55_method_4_code 6 (some .long) R1 [.ref x0, .int x1] H K') (k : ∀ v H', K' v H' → G0 l Z b K 278 ls (v.toList ++ rest) H' (cN + 0) (sN + 0)) (hls : ls.length = maxLocals := by rfl) (hlo : wt rest + (6 + 11) + R1.locals ≤ room_1.locals := by exact Nat.le_of_ble_eq_true rfl) (hc : cN + R1.cells ≤ room_1.cells := by exact Nat.le_of_ble_eq_true rfl) (hs : sN + R1.slots ≤ room_1.slots := by exact Nat.le_of_ble_eq_true rfl) : G0 l Z b K 275 ls (.int x1 :: .ref x0 :: rest) H cN sN := G.callS (List.mem_of_getElem? (i := 1) rfl) (List.mem_of_getElem? (i := 2) rfl) (List.mem_of_getElem? (i := 3) rfl) (List.mem_of_getElem? (i := 4) rfl) ⟨by decide, by decide⟩ pd1 C f0_275 rfl rfl hls (by decide) hlo hc hs k
theorem kf0_275 {x0 : Nat} {x1 : Int32} {r : Value} {Hr : List Cel} (C : Con tables_1 l Z b y1 prog_55_method_4_code 6 (some .long) R1 [.ref x0, .int x1] H (is (some r) Hr)) (k : G0 l Z b K 278 ls (r :: rest) Hr (cN + 0) (sN + 0)) (hls : ls.length = maxLocals := by rfl) (hlo : wt rest + (6 + 11) + R1.locals ≤ room_1.locals := by exact Nat.le_of_ble_eq_true rfl) (hc : cN + R1.cells ≤ room_1.cells := by exact Nat.le_of_ble_eq_true rfl) (hs : sN + R1.slots ≤ room_1.slots := by exact Nat.le_of_ble_eq_true rfl) : G0 l Z b K 275 ls (.int x1 :: .ref x0 :: rest) H cN sN := k0_275 C (fun v H' h => by obtain ⟨rfl, rfl⟩ := h; exact k) hls hlo hc hs
end Calls0
theorem room_c : room_1.cells = 16 := by decide
theorem room_s : room_1.slots = 128 := by decide
def ch0 (b0 b1 b2 b3 b4 : Int32) : Int32 := (0 ||| (b0 &&& 127) <<< ((0 : Int32) &&& 31))
def ch1 (b0 b1 b2 b3 b4 : Int32) : Int32 := ((0 ||| (b0 &&& 127) <<< ((0 : Int32) &&& 31)) ||| (b1 &&& 127) <<< ((7 : Int32) &&& 31))
def ch2 (b0 b1 b2 b3 b4 : Int32) : Int32 := (((0 ||| (b0 &&& 127) <<< ((0 : Int32) &&& 31)) ||| (b1 &&& 127) <<< ((7 : Int32) &&& 31)) ||| (b2 &&& 127) <<< ((14 : Int32) &&& 31))
def ch3 (b0 b1 b2 b3 b4 : Int32) : Int32 := ((((0 ||| (b0 &&& 127) <<< ((0 : Int32) &&& 31)) ||| (b1 &&& 127) <<< ((7 : Int32) &&& 31)) ||| (b2 &&& 127) <<< ((14 : Int32) &&& 31)) ||| (b3 &&& 127) <<< ((21 : Int32) &&& 31))
def ch4 (b0 b1 b2 b3 b4 : Int32) : Int32 := (((((0 ||| (b0 &&& 127) <<< ((0 : Int32) &&& 31)) ||| (b1 &&& 127) <<< ((7 : Int32) &&& 31)) ||| (b2 &&& 127) <<< ((14 : Int32) &&& 31)) ||| (b3 &&& 127) <<< ((21 : Int32) &&& 31)) ||| (b4 &&& 127) <<< ((28 : Int32) &&& 31))
def rd (v p : Int32) : Int64 := v.toInt64 <<< ((32 : Int32).toInt64 &&& 63) ||| p.toInt64
section Own
variable {l : Launch} {Z : State} {b : Heap} {H : List Cel}
theorem con1_0_0 (g b0 b1 b2 b3 b4 : Int32)  (h0 : ¬ b0 < 0) : Con tables_1 l Z b y1 prog_55_method_4_code 6 (some .long) R1 [.ref (ad b.size 0), .int 0] [.inl (.byte, [.int b0, .int b1, .int b2, .int b3, .int b4, .int g, .int g, .int g, .int g, .int g])] (is (some (.long (rd (ch0 b0 b1 b2 b3 b4) 1))) [.inl (.byte, [.int b0, .int b1, .int b2, .int b3, .int b4, .int g, .int g, .int g, .int g, .int g])]) := by
  refine c1 _ _ (r1 200 ?_)
  simp only [↓S1, ↓B0, ↓idx_c, ↓setN_c, ↓idxN_c, ↓reduceIte, B1, List.length_cons, List.length_nil, List.mem_cons, List.not_mem_nil, or_false, true_or, or_true, true_and, and_true, and_self, not_true_eq_false, not_false_eq_true, eq_self, ne_eq, Nat.zero_le, Nat.le_refl, Nat.reduceAdd, Nat.reduceSub, Nat.reduceEqDiff, Nat.reduceLeDiff, Int32.reduceLT, Int32.reduceLE, Int32.reduceAdd, Int32.reduceSub, Int32.reduceMul, Int32.reduceToNatClampNeg, Int32.reduceOfNat, Int32.reduceOfInt, Int64.reduceLT, Int64.reduceAdd, Int64.reduceSub, Int64.reduceMul, String.reduceEq, reduceCtorEq, room_c, room_s, rd, ch0, h0]
  exact is_self
theorem con1_0_1 (g b0 b1 b2 b3 b4 : Int32) (h0 : b0 < 0) (h1 : ¬ b1 < 0) : Con tables_1 l Z b y1 prog_55_method_4_code 6 (some .long) R1 [.ref (ad b.size 0), .int 0] [.inl (.byte, [.int b0, .int b1, .int b2, .int b3, .int b4, .int g, .int g, .int g, .int g, .int g])] (is (some (.long (rd (ch1 b0 b1 b2 b3 b4) 2))) [.inl (.byte, [.int b0, .int b1, .int b2, .int b3, .int b4, .int g, .int g, .int g, .int g, .int g])]) := by
  refine c1 _ _ (r1 200 ?_)
  simp only [↓S1, ↓B0, ↓idx_c, ↓setN_c, ↓idxN_c, ↓reduceIte, B1, List.length_cons, List.length_nil, List.mem_cons, List.not_mem_nil, or_false, true_or, or_true, true_and, and_true, and_self, not_true_eq_false, not_false_eq_true, eq_self, ne_eq, Nat.zero_le, Nat.le_refl, Nat.reduceAdd, Nat.reduceSub, Nat.reduceEqDiff, Nat.reduceLeDiff, Int32.reduceLT, Int32.reduceLE, Int32.reduceAdd, Int32.reduceSub, Int32.reduceMul, Int32.reduceToNatClampNeg, Int32.reduceOfNat, Int32.reduceOfInt, Int64.reduceLT, Int64.reduceAdd, Int64.reduceSub, Int64.reduceMul, String.reduceEq, reduceCtorEq, room_c, room_s, rd, ch1, h0, h1]
  exact is_self
theorem con1_0_2 (g b0 b1 b2 b3 b4 : Int32) (h0 : b0 < 0) (h1 : b1 < 0) (h2 : ¬ b2 < 0) : Con tables_1 l Z b y1 prog_55_method_4_code 6 (some .long) R1 [.ref (ad b.size 0), .int 0] [.inl (.byte, [.int b0, .int b1, .int b2, .int b3, .int b4, .int g, .int g, .int g, .int g, .int g])] (is (some (.long (rd (ch2 b0 b1 b2 b3 b4) 3))) [.inl (.byte, [.int b0, .int b1, .int b2, .int b3, .int b4, .int g, .int g, .int g, .int g, .int g])]) := by
  refine c1 _ _ (r1 200 ?_)
  simp only [↓S1, ↓B0, ↓idx_c, ↓setN_c, ↓idxN_c, ↓reduceIte, B1, List.length_cons, List.length_nil, List.mem_cons, List.not_mem_nil, or_false, true_or, or_true, true_and, and_true, and_self, not_true_eq_false, not_false_eq_true, eq_self, ne_eq, Nat.zero_le, Nat.le_refl, Nat.reduceAdd, Nat.reduceSub, Nat.reduceEqDiff, Nat.reduceLeDiff, Int32.reduceLT, Int32.reduceLE, Int32.reduceAdd, Int32.reduceSub, Int32.reduceMul, Int32.reduceToNatClampNeg, Int32.reduceOfNat, Int32.reduceOfInt, Int64.reduceLT, Int64.reduceAdd, Int64.reduceSub, Int64.reduceMul, String.reduceEq, reduceCtorEq, room_c, room_s, rd, ch2, h0, h1, h2]
  exact is_self
theorem con1_0_3 (g b0 b1 b2 b3 b4 : Int32) (h0 : b0 < 0) (h1 : b1 < 0) (h2 : b2 < 0) (h3 : ¬ b3 < 0) : Con tables_1 l Z b y1 prog_55_method_4_code 6 (some .long) R1 [.ref (ad b.size 0), .int 0] [.inl (.byte, [.int b0, .int b1, .int b2, .int b3, .int b4, .int g, .int g, .int g, .int g, .int g])] (is (some (.long (rd (ch3 b0 b1 b2 b3 b4) 4))) [.inl (.byte, [.int b0, .int b1, .int b2, .int b3, .int b4, .int g, .int g, .int g, .int g, .int g])]) := by
  refine c1 _ _ (r1 200 ?_)
  simp only [↓S1, ↓B0, ↓idx_c, ↓setN_c, ↓idxN_c, ↓reduceIte, B1, List.length_cons, List.length_nil, List.mem_cons, List.not_mem_nil, or_false, true_or, or_true, true_and, and_true, and_self, not_true_eq_false, not_false_eq_true, eq_self, ne_eq, Nat.zero_le, Nat.le_refl, Nat.reduceAdd, Nat.reduceSub, Nat.reduceEqDiff, Nat.reduceLeDiff, Int32.reduceLT, Int32.reduceLE, Int32.reduceAdd, Int32.reduceSub, Int32.reduceMul, Int32.reduceToNatClampNeg, Int32.reduceOfNat, Int32.reduceOfInt, Int64.reduceLT, Int64.reduceAdd, Int64.reduceSub, Int64.reduceMul, String.reduceEq, reduceCtorEq, room_c, room_s, rd, ch3, h0, h1, h2, h3]
  exact is_self
theorem con1_0_4 (g b0 b1 b2 b3 b4 : Int32) (h0 : b0 < 0) (h1 : b1 < 0) (h2 : b2 < 0) (h3 : b3 < 0) (h4 : ¬ b4 < 0) : Con tables_1 l Z b y1 prog_55_method_4_code 6 (some .long) R1 [.ref (ad b.size 0), .int 0] [.inl (.byte, [.int b0, .int b1, .int b2, .int b3, .int b4, .int g, .int g, .int g, .int g, .int g])] (is (some (.long (rd (ch4 b0 b1 b2 b3 b4) 5))) [.inl (.byte, [.int b0, .int b1, .int b2, .int b3, .int b4, .int g, .int g, .int g, .int g, .int g])]) := by
  refine c1 _ _ (r1 200 ?_)
  simp only [↓S1, ↓B0, ↓idx_c, ↓setN_c, ↓idxN_c, ↓reduceIte, B1, List.length_cons, List.length_nil, List.mem_cons, List.not_mem_nil, or_false, true_or, or_true, true_and, and_true, and_self, not_true_eq_false, not_false_eq_true, eq_self, ne_eq, Nat.zero_le, Nat.le_refl, Nat.reduceAdd, Nat.reduceSub, Nat.reduceEqDiff, Nat.reduceLeDiff, Int32.reduceLT, Int32.reduceLE, Int32.reduceAdd, Int32.reduceSub, Int32.reduceMul, Int32.reduceToNatClampNeg, Int32.reduceOfNat, Int32.reduceOfInt, Int64.reduceLT, Int64.reduceAdd, Int64.reduceSub, Int64.reduceMul, String.reduceEq, reduceCtorEq, room_c, room_s, rd, ch4, h0, h1, h2, h3, h4]
  exact is_self
theorem con1_1_0 (g b0 b1 b2 b3 b4 : Int32)  (h0 : ¬ b0 < 0) : Con tables_1 l Z b y1 prog_55_method_4_code 6 (some .long) R1 [.ref (ad b.size 0), .int 1] [.inl (.byte, [.int g, .int b0, .int b1, .int b2, .int b3, .int b4, .int g, .int g, .int g, .int g])] (is (some (.long (rd (ch0 b0 b1 b2 b3 b4) 2))) [.inl (.byte, [.int g, .int b0, .int b1, .int b2, .int b3, .int b4, .int g, .int g, .int g, .int g])]) := by
  refine c1 _ _ (r1 200 ?_)
  simp only [↓S1, ↓B0, ↓idx_c, ↓setN_c, ↓idxN_c, ↓reduceIte, B1, List.length_cons, List.length_nil, List.mem_cons, List.not_mem_nil, or_false, true_or, or_true, true_and, and_true, and_self, not_true_eq_false, not_false_eq_true, eq_self, ne_eq, Nat.zero_le, Nat.le_refl, Nat.reduceAdd, Nat.reduceSub, Nat.reduceEqDiff, Nat.reduceLeDiff, Int32.reduceLT, Int32.reduceLE, Int32.reduceAdd, Int32.reduceSub, Int32.reduceMul, Int32.reduceToNatClampNeg, Int32.reduceOfNat, Int32.reduceOfInt, Int64.reduceLT, Int64.reduceAdd, Int64.reduceSub, Int64.reduceMul, String.reduceEq, reduceCtorEq, room_c, room_s, rd, ch0, h0]
  exact is_self
theorem con1_1_1 (g b0 b1 b2 b3 b4 : Int32) (h0 : b0 < 0) (h1 : ¬ b1 < 0) : Con tables_1 l Z b y1 prog_55_method_4_code 6 (some .long) R1 [.ref (ad b.size 0), .int 1] [.inl (.byte, [.int g, .int b0, .int b1, .int b2, .int b3, .int b4, .int g, .int g, .int g, .int g])] (is (some (.long (rd (ch1 b0 b1 b2 b3 b4) 3))) [.inl (.byte, [.int g, .int b0, .int b1, .int b2, .int b3, .int b4, .int g, .int g, .int g, .int g])]) := by
  refine c1 _ _ (r1 200 ?_)
  simp only [↓S1, ↓B0, ↓idx_c, ↓setN_c, ↓idxN_c, ↓reduceIte, B1, List.length_cons, List.length_nil, List.mem_cons, List.not_mem_nil, or_false, true_or, or_true, true_and, and_true, and_self, not_true_eq_false, not_false_eq_true, eq_self, ne_eq, Nat.zero_le, Nat.le_refl, Nat.reduceAdd, Nat.reduceSub, Nat.reduceEqDiff, Nat.reduceLeDiff, Int32.reduceLT, Int32.reduceLE, Int32.reduceAdd, Int32.reduceSub, Int32.reduceMul, Int32.reduceToNatClampNeg, Int32.reduceOfNat, Int32.reduceOfInt, Int64.reduceLT, Int64.reduceAdd, Int64.reduceSub, Int64.reduceMul, String.reduceEq, reduceCtorEq, room_c, room_s, rd, ch1, h0, h1]
  exact is_self
theorem con1_1_2 (g b0 b1 b2 b3 b4 : Int32) (h0 : b0 < 0) (h1 : b1 < 0) (h2 : ¬ b2 < 0) : Con tables_1 l Z b y1 prog_55_method_4_code 6 (some .long) R1 [.ref (ad b.size 0), .int 1] [.inl (.byte, [.int g, .int b0, .int b1, .int b2, .int b3, .int b4, .int g, .int g, .int g, .int g])] (is (some (.long (rd (ch2 b0 b1 b2 b3 b4) 4))) [.inl (.byte, [.int g, .int b0, .int b1, .int b2, .int b3, .int b4, .int g, .int g, .int g, .int g])]) := by
  refine c1 _ _ (r1 200 ?_)
  simp only [↓S1, ↓B0, ↓idx_c, ↓setN_c, ↓idxN_c, ↓reduceIte, B1, List.length_cons, List.length_nil, List.mem_cons, List.not_mem_nil, or_false, true_or, or_true, true_and, and_true, and_self, not_true_eq_false, not_false_eq_true, eq_self, ne_eq, Nat.zero_le, Nat.le_refl, Nat.reduceAdd, Nat.reduceSub, Nat.reduceEqDiff, Nat.reduceLeDiff, Int32.reduceLT, Int32.reduceLE, Int32.reduceAdd, Int32.reduceSub, Int32.reduceMul, Int32.reduceToNatClampNeg, Int32.reduceOfNat, Int32.reduceOfInt, Int64.reduceLT, Int64.reduceAdd, Int64.reduceSub, Int64.reduceMul, String.reduceEq, reduceCtorEq, room_c, room_s, rd, ch2, h0, h1, h2]
  exact is_self
theorem con1_1_3 (g b0 b1 b2 b3 b4 : Int32) (h0 : b0 < 0) (h1 : b1 < 0) (h2 : b2 < 0) (h3 : ¬ b3 < 0) : Con tables_1 l Z b y1 prog_55_method_4_code 6 (some .long) R1 [.ref (ad b.size 0), .int 1] [.inl (.byte, [.int g, .int b0, .int b1, .int b2, .int b3, .int b4, .int g, .int g, .int g, .int g])] (is (some (.long (rd (ch3 b0 b1 b2 b3 b4) 5))) [.inl (.byte, [.int g, .int b0, .int b1, .int b2, .int b3, .int b4, .int g, .int g, .int g, .int g])]) := by
  refine c1 _ _ (r1 200 ?_)
  simp only [↓S1, ↓B0, ↓idx_c, ↓setN_c, ↓idxN_c, ↓reduceIte, B1, List.length_cons, List.length_nil, List.mem_cons, List.not_mem_nil, or_false, true_or, or_true, true_and, and_true, and_self, not_true_eq_false, not_false_eq_true, eq_self, ne_eq, Nat.zero_le, Nat.le_refl, Nat.reduceAdd, Nat.reduceSub, Nat.reduceEqDiff, Nat.reduceLeDiff, Int32.reduceLT, Int32.reduceLE, Int32.reduceAdd, Int32.reduceSub, Int32.reduceMul, Int32.reduceToNatClampNeg, Int32.reduceOfNat, Int32.reduceOfInt, Int64.reduceLT, Int64.reduceAdd, Int64.reduceSub, Int64.reduceMul, String.reduceEq, reduceCtorEq, room_c, room_s, rd, ch3, h0, h1, h2, h3]
  exact is_self
theorem con1_1_4 (g b0 b1 b2 b3 b4 : Int32) (h0 : b0 < 0) (h1 : b1 < 0) (h2 : b2 < 0) (h3 : b3 < 0) (h4 : ¬ b4 < 0) : Con tables_1 l Z b y1 prog_55_method_4_code 6 (some .long) R1 [.ref (ad b.size 0), .int 1] [.inl (.byte, [.int g, .int b0, .int b1, .int b2, .int b3, .int b4, .int g, .int g, .int g, .int g])] (is (some (.long (rd (ch4 b0 b1 b2 b3 b4) 6))) [.inl (.byte, [.int g, .int b0, .int b1, .int b2, .int b3, .int b4, .int g, .int g, .int g, .int g])]) := by
  refine c1 _ _ (r1 200 ?_)
  simp only [↓S1, ↓B0, ↓idx_c, ↓setN_c, ↓idxN_c, ↓reduceIte, B1, List.length_cons, List.length_nil, List.mem_cons, List.not_mem_nil, or_false, true_or, or_true, true_and, and_true, and_self, not_true_eq_false, not_false_eq_true, eq_self, ne_eq, Nat.zero_le, Nat.le_refl, Nat.reduceAdd, Nat.reduceSub, Nat.reduceEqDiff, Nat.reduceLeDiff, Int32.reduceLT, Int32.reduceLE, Int32.reduceAdd, Int32.reduceSub, Int32.reduceMul, Int32.reduceToNatClampNeg, Int32.reduceOfNat, Int32.reduceOfInt, Int64.reduceLT, Int64.reduceAdd, Int64.reduceSub, Int64.reduceMul, String.reduceEq, reduceCtorEq, room_c, room_s, rd, ch4, h0, h1, h2, h3, h4]
  exact is_self
theorem con1_2_0 (g b0 b1 b2 b3 b4 : Int32)  (h0 : ¬ b0 < 0) : Con tables_1 l Z b y1 prog_55_method_4_code 6 (some .long) R1 [.ref (ad b.size 0), .int 2] [.inl (.byte, [.int g, .int g, .int b0, .int b1, .int b2, .int b3, .int b4, .int g, .int g, .int g])] (is (some (.long (rd (ch0 b0 b1 b2 b3 b4) 3))) [.inl (.byte, [.int g, .int g, .int b0, .int b1, .int b2, .int b3, .int b4, .int g, .int g, .int g])]) := by
  refine c1 _ _ (r1 200 ?_)
  simp only [↓S1, ↓B0, ↓idx_c, ↓setN_c, ↓idxN_c, ↓reduceIte, B1, List.length_cons, List.length_nil, List.mem_cons, List.not_mem_nil, or_false, true_or, or_true, true_and, and_true, and_self, not_true_eq_false, not_false_eq_true, eq_self, ne_eq, Nat.zero_le, Nat.le_refl, Nat.reduceAdd, Nat.reduceSub, Nat.reduceEqDiff, Nat.reduceLeDiff, Int32.reduceLT, Int32.reduceLE, Int32.reduceAdd, Int32.reduceSub, Int32.reduceMul, Int32.reduceToNatClampNeg, Int32.reduceOfNat, Int32.reduceOfInt, Int64.reduceLT, Int64.reduceAdd, Int64.reduceSub, Int64.reduceMul, String.reduceEq, reduceCtorEq, room_c, room_s, rd, ch0, h0]
  exact is_self
theorem con1_2_1 (g b0 b1 b2 b3 b4 : Int32) (h0 : b0 < 0) (h1 : ¬ b1 < 0) : Con tables_1 l Z b y1 prog_55_method_4_code 6 (some .long) R1 [.ref (ad b.size 0), .int 2] [.inl (.byte, [.int g, .int g, .int b0, .int b1, .int b2, .int b3, .int b4, .int g, .int g, .int g])] (is (some (.long (rd (ch1 b0 b1 b2 b3 b4) 4))) [.inl (.byte, [.int g, .int g, .int b0, .int b1, .int b2, .int b3, .int b4, .int g, .int g, .int g])]) := by
  refine c1 _ _ (r1 200 ?_)
  simp only [↓S1, ↓B0, ↓idx_c, ↓setN_c, ↓idxN_c, ↓reduceIte, B1, List.length_cons, List.length_nil, List.mem_cons, List.not_mem_nil, or_false, true_or, or_true, true_and, and_true, and_self, not_true_eq_false, not_false_eq_true, eq_self, ne_eq, Nat.zero_le, Nat.le_refl, Nat.reduceAdd, Nat.reduceSub, Nat.reduceEqDiff, Nat.reduceLeDiff, Int32.reduceLT, Int32.reduceLE, Int32.reduceAdd, Int32.reduceSub, Int32.reduceMul, Int32.reduceToNatClampNeg, Int32.reduceOfNat, Int32.reduceOfInt, Int64.reduceLT, Int64.reduceAdd, Int64.reduceSub, Int64.reduceMul, String.reduceEq, reduceCtorEq, room_c, room_s, rd, ch1, h0, h1]
  exact is_self
theorem con1_2_2 (g b0 b1 b2 b3 b4 : Int32) (h0 : b0 < 0) (h1 : b1 < 0) (h2 : ¬ b2 < 0) : Con tables_1 l Z b y1 prog_55_method_4_code 6 (some .long) R1 [.ref (ad b.size 0), .int 2] [.inl (.byte, [.int g, .int g, .int b0, .int b1, .int b2, .int b3, .int b4, .int g, .int g, .int g])] (is (some (.long (rd (ch2 b0 b1 b2 b3 b4) 5))) [.inl (.byte, [.int g, .int g, .int b0, .int b1, .int b2, .int b3, .int b4, .int g, .int g, .int g])]) := by
  refine c1 _ _ (r1 200 ?_)
  simp only [↓S1, ↓B0, ↓idx_c, ↓setN_c, ↓idxN_c, ↓reduceIte, B1, List.length_cons, List.length_nil, List.mem_cons, List.not_mem_nil, or_false, true_or, or_true, true_and, and_true, and_self, not_true_eq_false, not_false_eq_true, eq_self, ne_eq, Nat.zero_le, Nat.le_refl, Nat.reduceAdd, Nat.reduceSub, Nat.reduceEqDiff, Nat.reduceLeDiff, Int32.reduceLT, Int32.reduceLE, Int32.reduceAdd, Int32.reduceSub, Int32.reduceMul, Int32.reduceToNatClampNeg, Int32.reduceOfNat, Int32.reduceOfInt, Int64.reduceLT, Int64.reduceAdd, Int64.reduceSub, Int64.reduceMul, String.reduceEq, reduceCtorEq, room_c, room_s, rd, ch2, h0, h1, h2]
  exact is_self
theorem con1_2_3 (g b0 b1 b2 b3 b4 : Int32) (h0 : b0 < 0) (h1 : b1 < 0) (h2 : b2 < 0) (h3 : ¬ b3 < 0) : Con tables_1 l Z b y1 prog_55_method_4_code 6 (some .long) R1 [.ref (ad b.size 0), .int 2] [.inl (.byte, [.int g, .int g, .int b0, .int b1, .int b2, .int b3, .int b4, .int g, .int g, .int g])] (is (some (.long (rd (ch3 b0 b1 b2 b3 b4) 6))) [.inl (.byte, [.int g, .int g, .int b0, .int b1, .int b2, .int b3, .int b4, .int g, .int g, .int g])]) := by
  refine c1 _ _ (r1 200 ?_)
  simp only [↓S1, ↓B0, ↓idx_c, ↓setN_c, ↓idxN_c, ↓reduceIte, B1, List.length_cons, List.length_nil, List.mem_cons, List.not_mem_nil, or_false, true_or, or_true, true_and, and_true, and_self, not_true_eq_false, not_false_eq_true, eq_self, ne_eq, Nat.zero_le, Nat.le_refl, Nat.reduceAdd, Nat.reduceSub, Nat.reduceEqDiff, Nat.reduceLeDiff, Int32.reduceLT, Int32.reduceLE, Int32.reduceAdd, Int32.reduceSub, Int32.reduceMul, Int32.reduceToNatClampNeg, Int32.reduceOfNat, Int32.reduceOfInt, Int64.reduceLT, Int64.reduceAdd, Int64.reduceSub, Int64.reduceMul, String.reduceEq, reduceCtorEq, room_c, room_s, rd, ch3, h0, h1, h2, h3]
  exact is_self
theorem con1_2_4 (g b0 b1 b2 b3 b4 : Int32) (h0 : b0 < 0) (h1 : b1 < 0) (h2 : b2 < 0) (h3 : b3 < 0) (h4 : ¬ b4 < 0) : Con tables_1 l Z b y1 prog_55_method_4_code 6 (some .long) R1 [.ref (ad b.size 0), .int 2] [.inl (.byte, [.int g, .int g, .int b0, .int b1, .int b2, .int b3, .int b4, .int g, .int g, .int g])] (is (some (.long (rd (ch4 b0 b1 b2 b3 b4) 7))) [.inl (.byte, [.int g, .int g, .int b0, .int b1, .int b2, .int b3, .int b4, .int g, .int g, .int g])]) := by
  refine c1 _ _ (r1 200 ?_)
  simp only [↓S1, ↓B0, ↓idx_c, ↓setN_c, ↓idxN_c, ↓reduceIte, B1, List.length_cons, List.length_nil, List.mem_cons, List.not_mem_nil, or_false, true_or, or_true, true_and, and_true, and_self, not_true_eq_false, not_false_eq_true, eq_self, ne_eq, Nat.zero_le, Nat.le_refl, Nat.reduceAdd, Nat.reduceSub, Nat.reduceEqDiff, Nat.reduceLeDiff, Int32.reduceLT, Int32.reduceLE, Int32.reduceAdd, Int32.reduceSub, Int32.reduceMul, Int32.reduceToNatClampNeg, Int32.reduceOfNat, Int32.reduceOfInt, Int64.reduceLT, Int64.reduceAdd, Int64.reduceSub, Int64.reduceMul, String.reduceEq, reduceCtorEq, room_c, room_s, rd, ch4, h0, h1, h2, h3, h4]
  exact is_self
theorem con1_3_0 (g b0 b1 b2 b3 b4 : Int32)  (h0 : ¬ b0 < 0) : Con tables_1 l Z b y1 prog_55_method_4_code 6 (some .long) R1 [.ref (ad b.size 0), .int 3] [.inl (.byte, [.int g, .int g, .int g, .int b0, .int b1, .int b2, .int b3, .int b4, .int g, .int g])] (is (some (.long (rd (ch0 b0 b1 b2 b3 b4) 4))) [.inl (.byte, [.int g, .int g, .int g, .int b0, .int b1, .int b2, .int b3, .int b4, .int g, .int g])]) := by
  refine c1 _ _ (r1 200 ?_)
  simp only [↓S1, ↓B0, ↓idx_c, ↓setN_c, ↓idxN_c, ↓reduceIte, B1, List.length_cons, List.length_nil, List.mem_cons, List.not_mem_nil, or_false, true_or, or_true, true_and, and_true, and_self, not_true_eq_false, not_false_eq_true, eq_self, ne_eq, Nat.zero_le, Nat.le_refl, Nat.reduceAdd, Nat.reduceSub, Nat.reduceEqDiff, Nat.reduceLeDiff, Int32.reduceLT, Int32.reduceLE, Int32.reduceAdd, Int32.reduceSub, Int32.reduceMul, Int32.reduceToNatClampNeg, Int32.reduceOfNat, Int32.reduceOfInt, Int64.reduceLT, Int64.reduceAdd, Int64.reduceSub, Int64.reduceMul, String.reduceEq, reduceCtorEq, room_c, room_s, rd, ch0, h0]
  exact is_self
theorem con1_3_1 (g b0 b1 b2 b3 b4 : Int32) (h0 : b0 < 0) (h1 : ¬ b1 < 0) : Con tables_1 l Z b y1 prog_55_method_4_code 6 (some .long) R1 [.ref (ad b.size 0), .int 3] [.inl (.byte, [.int g, .int g, .int g, .int b0, .int b1, .int b2, .int b3, .int b4, .int g, .int g])] (is (some (.long (rd (ch1 b0 b1 b2 b3 b4) 5))) [.inl (.byte, [.int g, .int g, .int g, .int b0, .int b1, .int b2, .int b3, .int b4, .int g, .int g])]) := by
  refine c1 _ _ (r1 200 ?_)
  simp only [↓S1, ↓B0, ↓idx_c, ↓setN_c, ↓idxN_c, ↓reduceIte, B1, List.length_cons, List.length_nil, List.mem_cons, List.not_mem_nil, or_false, true_or, or_true, true_and, and_true, and_self, not_true_eq_false, not_false_eq_true, eq_self, ne_eq, Nat.zero_le, Nat.le_refl, Nat.reduceAdd, Nat.reduceSub, Nat.reduceEqDiff, Nat.reduceLeDiff, Int32.reduceLT, Int32.reduceLE, Int32.reduceAdd, Int32.reduceSub, Int32.reduceMul, Int32.reduceToNatClampNeg, Int32.reduceOfNat, Int32.reduceOfInt, Int64.reduceLT, Int64.reduceAdd, Int64.reduceSub, Int64.reduceMul, String.reduceEq, reduceCtorEq, room_c, room_s, rd, ch1, h0, h1]
  exact is_self
theorem con1_3_2 (g b0 b1 b2 b3 b4 : Int32) (h0 : b0 < 0) (h1 : b1 < 0) (h2 : ¬ b2 < 0) : Con tables_1 l Z b y1 prog_55_method_4_code 6 (some .long) R1 [.ref (ad b.size 0), .int 3] [.inl (.byte, [.int g, .int g, .int g, .int b0, .int b1, .int b2, .int b3, .int b4, .int g, .int g])] (is (some (.long (rd (ch2 b0 b1 b2 b3 b4) 6))) [.inl (.byte, [.int g, .int g, .int g, .int b0, .int b1, .int b2, .int b3, .int b4, .int g, .int g])]) := by
  refine c1 _ _ (r1 200 ?_)
  simp only [↓S1, ↓B0, ↓idx_c, ↓setN_c, ↓idxN_c, ↓reduceIte, B1, List.length_cons, List.length_nil, List.mem_cons, List.not_mem_nil, or_false, true_or, or_true, true_and, and_true, and_self, not_true_eq_false, not_false_eq_true, eq_self, ne_eq, Nat.zero_le, Nat.le_refl, Nat.reduceAdd, Nat.reduceSub, Nat.reduceEqDiff, Nat.reduceLeDiff, Int32.reduceLT, Int32.reduceLE, Int32.reduceAdd, Int32.reduceSub, Int32.reduceMul, Int32.reduceToNatClampNeg, Int32.reduceOfNat, Int32.reduceOfInt, Int64.reduceLT, Int64.reduceAdd, Int64.reduceSub, Int64.reduceMul, String.reduceEq, reduceCtorEq, room_c, room_s, rd, ch2, h0, h1, h2]
  exact is_self
theorem con1_3_3 (g b0 b1 b2 b3 b4 : Int32) (h0 : b0 < 0) (h1 : b1 < 0) (h2 : b2 < 0) (h3 : ¬ b3 < 0) : Con tables_1 l Z b y1 prog_55_method_4_code 6 (some .long) R1 [.ref (ad b.size 0), .int 3] [.inl (.byte, [.int g, .int g, .int g, .int b0, .int b1, .int b2, .int b3, .int b4, .int g, .int g])] (is (some (.long (rd (ch3 b0 b1 b2 b3 b4) 7))) [.inl (.byte, [.int g, .int g, .int g, .int b0, .int b1, .int b2, .int b3, .int b4, .int g, .int g])]) := by
  refine c1 _ _ (r1 200 ?_)
  simp only [↓S1, ↓B0, ↓idx_c, ↓setN_c, ↓idxN_c, ↓reduceIte, B1, List.length_cons, List.length_nil, List.mem_cons, List.not_mem_nil, or_false, true_or, or_true, true_and, and_true, and_self, not_true_eq_false, not_false_eq_true, eq_self, ne_eq, Nat.zero_le, Nat.le_refl, Nat.reduceAdd, Nat.reduceSub, Nat.reduceEqDiff, Nat.reduceLeDiff, Int32.reduceLT, Int32.reduceLE, Int32.reduceAdd, Int32.reduceSub, Int32.reduceMul, Int32.reduceToNatClampNeg, Int32.reduceOfNat, Int32.reduceOfInt, Int64.reduceLT, Int64.reduceAdd, Int64.reduceSub, Int64.reduceMul, String.reduceEq, reduceCtorEq, room_c, room_s, rd, ch3, h0, h1, h2, h3]
  exact is_self
theorem con1_3_4 (g b0 b1 b2 b3 b4 : Int32) (h0 : b0 < 0) (h1 : b1 < 0) (h2 : b2 < 0) (h3 : b3 < 0) (h4 : ¬ b4 < 0) : Con tables_1 l Z b y1 prog_55_method_4_code 6 (some .long) R1 [.ref (ad b.size 0), .int 3] [.inl (.byte, [.int g, .int g, .int g, .int b0, .int b1, .int b2, .int b3, .int b4, .int g, .int g])] (is (some (.long (rd (ch4 b0 b1 b2 b3 b4) 8))) [.inl (.byte, [.int g, .int g, .int g, .int b0, .int b1, .int b2, .int b3, .int b4, .int g, .int g])]) := by
  refine c1 _ _ (r1 200 ?_)
  simp only [↓S1, ↓B0, ↓idx_c, ↓setN_c, ↓idxN_c, ↓reduceIte, B1, List.length_cons, List.length_nil, List.mem_cons, List.not_mem_nil, or_false, true_or, or_true, true_and, and_true, and_self, not_true_eq_false, not_false_eq_true, eq_self, ne_eq, Nat.zero_le, Nat.le_refl, Nat.reduceAdd, Nat.reduceSub, Nat.reduceEqDiff, Nat.reduceLeDiff, Int32.reduceLT, Int32.reduceLE, Int32.reduceAdd, Int32.reduceSub, Int32.reduceMul, Int32.reduceToNatClampNeg, Int32.reduceOfNat, Int32.reduceOfInt, Int64.reduceLT, Int64.reduceAdd, Int64.reduceSub, Int64.reduceMul, String.reduceEq, reduceCtorEq, room_c, room_s, rd, ch4, h0, h1, h2, h3, h4]
  exact is_self
theorem or_shl (x c : Int32) (s : Int32) (k : Nat) (hs : (s.toBitVec.smod 32).toNat = k) (hk : k < 32) (hx : x.toBitVec.toNat < 2 ^ k) : x ||| (c <<< s) = x + c * Int32.ofNat (2 ^ k) := by
  apply Int32.toBitVec_inj.mp
  rw [Int32.toBitVec_or, Int32.toBitVec_shiftLeft, Int32.toBitVec_add, Int32.toBitVec_mul]
  have e1 : c.toBitVec <<< (s.toBitVec.smod 32) = c.toBitVec <<< k := by rw [← hs]; rfl
  have e2 : c.toBitVec * (Int32.ofNat (2 ^ k)).toBitVec = c.toBitVec <<< k := by rw [BitVec.shiftLeft_eq_mul_twoPow]; congr 1; apply BitVec.eq_of_toNat_eq; rw [BitVec.toNat_twoPow]; simp [Int32.ofNat, Int32.toBitVec]
  rw [e1, e2, BitVec.add_eq_or_of_and_eq_zero]
  apply BitVec.eq_of_toNat_eq
  apply Nat.eq_of_testBit_eq
  intro i
  rw [BitVec.testBit_toNat, BitVec.getLsbD_and, BitVec.getLsbD_shiftLeft]
  by_cases q : i < k
  · simp [q]
  · have : x.toBitVec.getLsbD i = false := by
      rw [← BitVec.testBit_toNat]
      exact Nat.testBit_lt_two_pow (Nat.lt_of_lt_of_le hx (Nat.pow_le_pow_right (by decide) (by omega)))
    simp [this]
theorem c127 (x : Int32) : 0 ≤ (x &&& 127).toInt ∧ (x &&& 127).toInt < 128 := by
  have e : (x &&& 127).toInt = x.toInt % 2 ^ 7 := Jvm.Kit.i32_mask _ _ (k := 7) (by decide) (by decide)
  omega
theorem nat_of {x : Int32} {n : Nat} (h : 0 ≤ x.toInt) (h2 : x.toInt < n) : x.toBitVec.toNat < n := by
  have e : x.toInt = x.toBitVec.toInt := rfl
  rw [e, BitVec.toInt_eq_toNat_cond] at h h2
  have := x.toBitVec.isLt
  split at h <;> omega
theorem byte15 (x : Int32) : nar .byte (x &&& 15) = x &&& 15 := by
  have e : (x &&& 15).toInt = x.toInt % 2 ^ 4 := Jvm.Kit.i32_mask _ _ (k := 4) (by decide) (by decide)
  apply Int32.toInt_inj.mp
  show (x &&& 15).toInt8.toInt32.toInt = _
  rw [Int8.toInt_toInt32, Int32.toInt_toInt8, Int.bmod_eq_of_le (by omega) (by omega)]
theorem and15 (x : Int32) : (x &&& 15) &&& 127 = x &&& 15 := by
  rw [Int32.and_assoc]; rfl
theorem nn15 (x : Int32) : ¬ (x &&& 15) < 0 := by
  have e : (x &&& 15).toInt = x.toInt % 2 ^ 4 := Jvm.Kit.i32_mask _ _ (k := 4) (by decide) (by decide)
  rw [Int32.lt_iff_toInt_lt, show (0 : Int32).toInt = 0 from rfl]; omega
theorem sums (b0 b1 b2 b3 b4 : Int32) : ch0 b0 b1 b2 b3 b4 = (b0 &&& 127) ∧ ch1 b0 b1 b2 b3 b4 = (b0 &&& 127) + (b1 &&& 127) * 128 ∧ ch2 b0 b1 b2 b3 b4 = (b0 &&& 127) + (b1 &&& 127) * 128 + (b2 &&& 127) * 16384 ∧
    ch3 b0 b1 b2 b3 b4 = (b0 &&& 127) + (b1 &&& 127) * 128 + (b2 &&& 127) * 16384 + (b3 &&& 127) * 2097152 ∧ ch4 b0 b1 b2 b3 b4 = (b0 &&& 127) + (b1 &&& 127) * 128 + (b2 &&& 127) * 16384 + (b3 &&& 127) * 2097152 + (b4 &&& 127) * 268435456 := by
  have k0 := c127 b0; have k1 := c127 b1; have k2 := c127 b2; have k3 := c127 b3
  have m1 := m32 (x := b1 &&& 127) (q := 128) (c := 128) rfl (by omega) (by omega)
  have m2 := m32 (x := b2 &&& 127) (q := 16384) (c := 16384) rfl (by omega) (by omega)
  have m3 := m32 (x := b3 &&& 127) (q := 2097152) (c := 2097152) rfl (by omega) (by omega)
  have s1 := a32 (x := b0 &&& 127) (q := (b1 &&& 127) * 128) rfl (by omega) (by omega)
  have s2 := a32 (x := (b0 &&& 127) + (b1 &&& 127) * 128) (q := (b2 &&& 127) * 16384) rfl (by omega) (by omega)
  have s3 := a32 (x := (b0 &&& 127) + (b1 &&& 127) * 128 + (b2 &&& 127) * 16384) (q := (b3 &&& 127) * 2097152) rfl (by omega) (by omega)
  have e0 : ch0 b0 b1 b2 b3 b4 = (b0 &&& 127) := by
    unfold ch0
    rw [or_shl 0 _ _ 0 (by decide) (by decide) (by decide), show Int32.ofNat (2 ^ 0) = 1 from rfl, Int32.mul_one, Int32.zero_add]
  have e1 : ch1 b0 b1 b2 b3 b4 = (b0 &&& 127) + (b1 &&& 127) * 128 := by
    unfold ch1
    rw [show (0 ||| (b0 &&& 127) <<< ((0 : Int32) &&& 31)) = (b0 &&& 127) from e0]
    exact or_shl _ _ _ 7 (by decide) (by decide) (nat_of (by omega) (by omega))
  have e2 : ch2 b0 b1 b2 b3 b4 = (b0 &&& 127) + (b1 &&& 127) * 128 + (b2 &&& 127) * 16384 := by
    unfold ch2
    rw [show ((0 ||| (b0 &&& 127) <<< ((0 : Int32) &&& 31)) ||| (b1 &&& 127) <<< ((7 : Int32) &&& 31)) = (b0 &&& 127) + (b1 &&& 127) * 128 from e1]
    exact or_shl _ _ _ 14 (by decide) (by decide) (nat_of (by omega) (by omega))
  have e3 : ch3 b0 b1 b2 b3 b4 = (b0 &&& 127) + (b1 &&& 127) * 128 + (b2 &&& 127) * 16384 + (b3 &&& 127) * 2097152 := by
    unfold ch3
    rw [show (((0 ||| (b0 &&& 127) <<< ((0 : Int32) &&& 31)) ||| (b1 &&& 127) <<< ((7 : Int32) &&& 31)) ||| (b2 &&& 127) <<< ((14 : Int32) &&& 31)) = (b0 &&& 127) + (b1 &&& 127) * 128 + (b2 &&& 127) * 16384 from e2]
    exact or_shl _ _ _ 21 (by decide) (by decide) (nat_of (by omega) (by omega))
  refine ⟨e0, e1, e2, e3, ?_⟩
  unfold ch4
  rw [show ((((0 ||| (b0 &&& 127) <<< ((0 : Int32) &&& 31)) ||| (b1 &&& 127) <<< ((7 : Int32) &&& 31)) ||| (b2 &&& 127) <<< ((14 : Int32) &&& 31)) ||| (b3 &&& 127) <<< ((21 : Int32) &&& 31)) = (b0 &&& 127) + (b1 &&& 127) * 128 + (b2 &&& 127) * 16384 + (b3 &&& 127) * 2097152 from e3]
  exact or_shl _ _ _ 28 (by decide) (by decide) (nat_of (by omega) (by omega))
theorem or64 (x p s : Int64) (hs : (s.toBitVec.smod 64).toNat = 32) (hp : p.toBitVec.toNat < 2 ^ 32) : x <<< s ||| p = x <<< s + p := by
  apply Int64.toBitVec_inj.mp
  rw [Int64.toBitVec_or, Int64.toBitVec_shiftLeft, Int64.toBitVec_add, Int64.toBitVec_shiftLeft]
  have e1 : x.toBitVec <<< (s.toBitVec.smod 64) = x.toBitVec <<< 32 := by rw [← hs]; rfl
  rw [e1, BitVec.add_eq_or_of_and_eq_zero]
  apply BitVec.eq_of_toNat_eq
  apply Nat.eq_of_testBit_eq
  intro i
  rw [BitVec.testBit_toNat, BitVec.getLsbD_and, BitVec.getLsbD_shiftLeft]
  by_cases q : i < 32
  · simp [q]
  · have : p.toBitVec.getLsbD i = false := by
      rw [← BitVec.testBit_toNat]
      exact Nat.testBit_lt_two_pow (Nat.lt_of_lt_of_le hp (Nat.pow_le_pow_right (by decide) (by omega)))
    simp [this]
end Own
theorem eq_0 (b0 b1 b2 b3 y p : Int32) (hp : p.toInt64.toBitVec.toNat < 2 ^ 32) : rd (ch0 b0 b1 b2 b3 (y &&& 15)) p = (((b0 &&& 127).toInt64).toInt32).toInt64 <<< ((32 : Int32).toInt64 &&& 63) + p.toInt64 := by
  have h := sums b0 b1 b2 b3 (y &&& 15)
  rw [and15] at h
  have h1 : (128 : Int64).toInt32 = 128 := rfl
  have h2 : (16384 : Int64).toInt32 = 16384 := rfl
  have h3 : (2097152 : Int64).toInt32 = 2097152 := rfl
  have h4 : (268435456 : Int64).toInt32 = 268435456 := rfl
  simp only [Int64.toInt32_add, Int64.toInt32_mul, Int32.toInt32_toInt64, h1, h2, h3, h4]
  rw [rd, or64 _ _ _ (by decide) hp, h.1]
theorem eq_1 (b0 b1 b2 b3 y p : Int32) (hp : p.toInt64.toBitVec.toNat < 2 ^ 32) : rd (ch1 b0 b1 b2 b3 (y &&& 15)) p = (((b0 &&& 127).toInt64 + (b1 &&& 127).toInt64 * 128).toInt32).toInt64 <<< ((32 : Int32).toInt64 &&& 63) + p.toInt64 := by
  have h := sums b0 b1 b2 b3 (y &&& 15)
  rw [and15] at h
  have h1 : (128 : Int64).toInt32 = 128 := rfl
  have h2 : (16384 : Int64).toInt32 = 16384 := rfl
  have h3 : (2097152 : Int64).toInt32 = 2097152 := rfl
  have h4 : (268435456 : Int64).toInt32 = 268435456 := rfl
  simp only [Int64.toInt32_add, Int64.toInt32_mul, Int32.toInt32_toInt64, h1, h2, h3, h4]
  rw [rd, or64 _ _ _ (by decide) hp, h.2.1]
theorem eq_2 (b0 b1 b2 b3 y p : Int32) (hp : p.toInt64.toBitVec.toNat < 2 ^ 32) : rd (ch2 b0 b1 b2 b3 (y &&& 15)) p = (((b0 &&& 127).toInt64 + (b1 &&& 127).toInt64 * 128 + (b2 &&& 127).toInt64 * 16384).toInt32).toInt64 <<< ((32 : Int32).toInt64 &&& 63) + p.toInt64 := by
  have h := sums b0 b1 b2 b3 (y &&& 15)
  rw [and15] at h
  have h1 : (128 : Int64).toInt32 = 128 := rfl
  have h2 : (16384 : Int64).toInt32 = 16384 := rfl
  have h3 : (2097152 : Int64).toInt32 = 2097152 := rfl
  have h4 : (268435456 : Int64).toInt32 = 268435456 := rfl
  simp only [Int64.toInt32_add, Int64.toInt32_mul, Int32.toInt32_toInt64, h1, h2, h3, h4]
  rw [rd, or64 _ _ _ (by decide) hp, h.2.2.1]
theorem eq_3 (b0 b1 b2 b3 y p : Int32) (hp : p.toInt64.toBitVec.toNat < 2 ^ 32) : rd (ch3 b0 b1 b2 b3 (y &&& 15)) p = (((b0 &&& 127).toInt64 + (b1 &&& 127).toInt64 * 128 + (b2 &&& 127).toInt64 * 16384 + (b3 &&& 127).toInt64 * 2097152).toInt32).toInt64 <<< ((32 : Int32).toInt64 &&& 63) + p.toInt64 := by
  have h := sums b0 b1 b2 b3 (y &&& 15)
  rw [and15] at h
  have h1 : (128 : Int64).toInt32 = 128 := rfl
  have h2 : (16384 : Int64).toInt32 = 16384 := rfl
  have h3 : (2097152 : Int64).toInt32 = 2097152 := rfl
  have h4 : (268435456 : Int64).toInt32 = 268435456 := rfl
  simp only [Int64.toInt32_add, Int64.toInt32_mul, Int32.toInt32_toInt64, h1, h2, h3, h4]
  rw [rd, or64 _ _ _ (by decide) hp, h.2.2.2.1]
theorem eq_4 (b0 b1 b2 b3 y p : Int32) (hp : p.toInt64.toBitVec.toNat < 2 ^ 32) : rd (ch4 b0 b1 b2 b3 (y &&& 15)) p = (((b0 &&& 127).toInt64 + (b1 &&& 127).toInt64 * 128 + (b2 &&& 127).toInt64 * 16384 + (b3 &&& 127).toInt64 * 2097152 + (y &&& 15).toInt64 * 268435456).toInt32).toInt64 <<< ((32 : Int32).toInt64 &&& 63) + p.toInt64 := by
  have h := sums b0 b1 b2 b3 (y &&& 15)
  rw [and15] at h
  have h1 : (128 : Int64).toInt32 = 128 := rfl
  have h2 : (16384 : Int64).toInt32 = 16384 := rfl
  have h3 : (2097152 : Int64).toInt32 = 2097152 := rfl
  have h4 : (268435456 : Int64).toInt32 = 268435456 := rfl
  simp only [Int64.toInt32_add, Int64.toInt32_mul, Int32.toInt32_toInt64, h1, h2, h3, h4]
  rw [rd, or64 _ _ _ (by decide) hp, h.2.2.2.2]
theorem law (l : Launch) (Z : State) (b : Heap) (i0 i1 i2 : Int32) : G0 l Z b (fun v _ => v = some (.int 1)) 0 [.val (.int i0), .val (.int i1), .val (.int i2), .unset, .unset, .unset, .unset, .unset, .unset, .unset, .unset, .unset, .unset, .unset, .unset, .unset, .unset, .unset, .unset] [] [] 0 0 := by
  have e1 : (i2 &&& 3).toInt = i2.toInt % 2 ^ 2 := Jvm.Kit.i32_mask _ _ (k := 2) (by decide) (by decide)
  have h4 := nn15 i1
  refine r0 500 ?_
  rcases cases4 (v := i2 &&& 3) (by omega) (by omega) with hv | hv | hv | hv
  · by_cases h0 : nar .byte i0 < 0
    rotate_left
    · simp only [↓S0, ↓B0, ↓idx_c, ↓setN_c, ↓idxN_c, ↓reduceIte, B1, List.length_cons, List.length_nil, List.mem_cons, List.not_mem_nil, or_false, true_or, or_true, true_and, and_true, and_self, not_true_eq_false, not_false_eq_true, eq_self, ne_eq, Nat.zero_le, Nat.le_refl, Nat.reduceAdd, Nat.reduceSub, Nat.reduceEqDiff, Nat.reduceLeDiff, Int32.reduceLT, Int32.reduceLE, Int32.reduceAdd, Int32.reduceSub, Int32.reduceMul, Int32.reduceToNatClampNeg, Int32.reduceOfNat, Int32.reduceOfInt, Int64.reduceLT, Int64.reduceAdd, Int64.reduceSub, Int64.reduceMul, String.reduceEq, reduceCtorEq, room_c, room_s, hv, byte15, h0]
      refine kf0_275 (con1_0_0 (nar .byte (i1 >>> (8 &&& 31))) (nar .byte i0) (nar .byte (i0 >>> (8 &&& 31))) (nar .byte (i0 >>> (16 &&& 31))) (nar .byte (i0 >>> (24 &&& 31))) (i1 &&& 15) h0) (r0 100 ?_)
      simp only [↓S0, ↓B0, ↓idx_c, ↓setN_c, ↓idxN_c, ↓reduceIte, B1, List.length_cons, List.length_nil, List.mem_cons, List.not_mem_nil, or_false, true_or, or_true, true_and, and_true, and_self, not_true_eq_false, not_false_eq_true, eq_self, ne_eq, Nat.zero_le, Nat.le_refl, Nat.reduceAdd, Nat.reduceSub, Nat.reduceEqDiff, Nat.reduceLeDiff, Int32.reduceLT, Int32.reduceLE, Int32.reduceAdd, Int32.reduceSub, Int32.reduceMul, Int32.reduceToNatClampNeg, Int32.reduceOfNat, Int32.reduceOfInt, Int64.reduceLT, Int64.reduceAdd, Int64.reduceSub, Int64.reduceMul, String.reduceEq, reduceCtorEq, room_c, room_s, eq_0 (nar .byte i0) (nar .byte (i0 >>> (8 &&& 31))) (nar .byte (i0 >>> (16 &&& 31))) (nar .byte (i0 >>> (24 &&& 31))) i1 1 (by decide)]
    by_cases h1 : nar .byte (i0 >>> (8 &&& 31)) < 0
    rotate_left
    · simp only [↓S0, ↓B0, ↓idx_c, ↓setN_c, ↓idxN_c, ↓reduceIte, B1, List.length_cons, List.length_nil, List.mem_cons, List.not_mem_nil, or_false, true_or, or_true, true_and, and_true, and_self, not_true_eq_false, not_false_eq_true, eq_self, ne_eq, Nat.zero_le, Nat.le_refl, Nat.reduceAdd, Nat.reduceSub, Nat.reduceEqDiff, Nat.reduceLeDiff, Int32.reduceLT, Int32.reduceLE, Int32.reduceAdd, Int32.reduceSub, Int32.reduceMul, Int32.reduceToNatClampNeg, Int32.reduceOfNat, Int32.reduceOfInt, Int64.reduceLT, Int64.reduceAdd, Int64.reduceSub, Int64.reduceMul, String.reduceEq, reduceCtorEq, room_c, room_s, hv, byte15, h0, h1]
      refine kf0_275 (con1_0_1 (nar .byte (i1 >>> (8 &&& 31))) (nar .byte i0) (nar .byte (i0 >>> (8 &&& 31))) (nar .byte (i0 >>> (16 &&& 31))) (nar .byte (i0 >>> (24 &&& 31))) (i1 &&& 15) h0 h1) (r0 100 ?_)
      simp only [↓S0, ↓B0, ↓idx_c, ↓setN_c, ↓idxN_c, ↓reduceIte, B1, List.length_cons, List.length_nil, List.mem_cons, List.not_mem_nil, or_false, true_or, or_true, true_and, and_true, and_self, not_true_eq_false, not_false_eq_true, eq_self, ne_eq, Nat.zero_le, Nat.le_refl, Nat.reduceAdd, Nat.reduceSub, Nat.reduceEqDiff, Nat.reduceLeDiff, Int32.reduceLT, Int32.reduceLE, Int32.reduceAdd, Int32.reduceSub, Int32.reduceMul, Int32.reduceToNatClampNeg, Int32.reduceOfNat, Int32.reduceOfInt, Int64.reduceLT, Int64.reduceAdd, Int64.reduceSub, Int64.reduceMul, String.reduceEq, reduceCtorEq, room_c, room_s, eq_1 (nar .byte i0) (nar .byte (i0 >>> (8 &&& 31))) (nar .byte (i0 >>> (16 &&& 31))) (nar .byte (i0 >>> (24 &&& 31))) i1 2 (by decide)]
    by_cases h2 : nar .byte (i0 >>> (16 &&& 31)) < 0
    rotate_left
    · simp only [↓S0, ↓B0, ↓idx_c, ↓setN_c, ↓idxN_c, ↓reduceIte, B1, List.length_cons, List.length_nil, List.mem_cons, List.not_mem_nil, or_false, true_or, or_true, true_and, and_true, and_self, not_true_eq_false, not_false_eq_true, eq_self, ne_eq, Nat.zero_le, Nat.le_refl, Nat.reduceAdd, Nat.reduceSub, Nat.reduceEqDiff, Nat.reduceLeDiff, Int32.reduceLT, Int32.reduceLE, Int32.reduceAdd, Int32.reduceSub, Int32.reduceMul, Int32.reduceToNatClampNeg, Int32.reduceOfNat, Int32.reduceOfInt, Int64.reduceLT, Int64.reduceAdd, Int64.reduceSub, Int64.reduceMul, String.reduceEq, reduceCtorEq, room_c, room_s, hv, byte15, h0, h1, h2]
      refine kf0_275 (con1_0_2 (nar .byte (i1 >>> (8 &&& 31))) (nar .byte i0) (nar .byte (i0 >>> (8 &&& 31))) (nar .byte (i0 >>> (16 &&& 31))) (nar .byte (i0 >>> (24 &&& 31))) (i1 &&& 15) h0 h1 h2) (r0 100 ?_)
      simp only [↓S0, ↓B0, ↓idx_c, ↓setN_c, ↓idxN_c, ↓reduceIte, B1, List.length_cons, List.length_nil, List.mem_cons, List.not_mem_nil, or_false, true_or, or_true, true_and, and_true, and_self, not_true_eq_false, not_false_eq_true, eq_self, ne_eq, Nat.zero_le, Nat.le_refl, Nat.reduceAdd, Nat.reduceSub, Nat.reduceEqDiff, Nat.reduceLeDiff, Int32.reduceLT, Int32.reduceLE, Int32.reduceAdd, Int32.reduceSub, Int32.reduceMul, Int32.reduceToNatClampNeg, Int32.reduceOfNat, Int32.reduceOfInt, Int64.reduceLT, Int64.reduceAdd, Int64.reduceSub, Int64.reduceMul, String.reduceEq, reduceCtorEq, room_c, room_s, eq_2 (nar .byte i0) (nar .byte (i0 >>> (8 &&& 31))) (nar .byte (i0 >>> (16 &&& 31))) (nar .byte (i0 >>> (24 &&& 31))) i1 3 (by decide)]
    by_cases h3 : nar .byte (i0 >>> (24 &&& 31)) < 0
    rotate_left
    · simp only [↓S0, ↓B0, ↓idx_c, ↓setN_c, ↓idxN_c, ↓reduceIte, B1, List.length_cons, List.length_nil, List.mem_cons, List.not_mem_nil, or_false, true_or, or_true, true_and, and_true, and_self, not_true_eq_false, not_false_eq_true, eq_self, ne_eq, Nat.zero_le, Nat.le_refl, Nat.reduceAdd, Nat.reduceSub, Nat.reduceEqDiff, Nat.reduceLeDiff, Int32.reduceLT, Int32.reduceLE, Int32.reduceAdd, Int32.reduceSub, Int32.reduceMul, Int32.reduceToNatClampNeg, Int32.reduceOfNat, Int32.reduceOfInt, Int64.reduceLT, Int64.reduceAdd, Int64.reduceSub, Int64.reduceMul, String.reduceEq, reduceCtorEq, room_c, room_s, hv, byte15, h0, h1, h2, h3]
      refine kf0_275 (con1_0_3 (nar .byte (i1 >>> (8 &&& 31))) (nar .byte i0) (nar .byte (i0 >>> (8 &&& 31))) (nar .byte (i0 >>> (16 &&& 31))) (nar .byte (i0 >>> (24 &&& 31))) (i1 &&& 15) h0 h1 h2 h3) (r0 100 ?_)
      simp only [↓S0, ↓B0, ↓idx_c, ↓setN_c, ↓idxN_c, ↓reduceIte, B1, List.length_cons, List.length_nil, List.mem_cons, List.not_mem_nil, or_false, true_or, or_true, true_and, and_true, and_self, not_true_eq_false, not_false_eq_true, eq_self, ne_eq, Nat.zero_le, Nat.le_refl, Nat.reduceAdd, Nat.reduceSub, Nat.reduceEqDiff, Nat.reduceLeDiff, Int32.reduceLT, Int32.reduceLE, Int32.reduceAdd, Int32.reduceSub, Int32.reduceMul, Int32.reduceToNatClampNeg, Int32.reduceOfNat, Int32.reduceOfInt, Int64.reduceLT, Int64.reduceAdd, Int64.reduceSub, Int64.reduceMul, String.reduceEq, reduceCtorEq, room_c, room_s, eq_3 (nar .byte i0) (nar .byte (i0 >>> (8 &&& 31))) (nar .byte (i0 >>> (16 &&& 31))) (nar .byte (i0 >>> (24 &&& 31))) i1 4 (by decide)]
    simp only [↓S0, ↓B0, ↓idx_c, ↓setN_c, ↓idxN_c, ↓reduceIte, B1, List.length_cons, List.length_nil, List.mem_cons, List.not_mem_nil, or_false, true_or, or_true, true_and, and_true, and_self, not_true_eq_false, not_false_eq_true, eq_self, ne_eq, Nat.zero_le, Nat.le_refl, Nat.reduceAdd, Nat.reduceSub, Nat.reduceEqDiff, Nat.reduceLeDiff, Int32.reduceLT, Int32.reduceLE, Int32.reduceAdd, Int32.reduceSub, Int32.reduceMul, Int32.reduceToNatClampNeg, Int32.reduceOfNat, Int32.reduceOfInt, Int64.reduceLT, Int64.reduceAdd, Int64.reduceSub, Int64.reduceMul, String.reduceEq, reduceCtorEq, room_c, room_s, hv, byte15, h0, h1, h2, h3, h4]
    refine kf0_275 (con1_0_4 (nar .byte (i1 >>> (8 &&& 31))) (nar .byte i0) (nar .byte (i0 >>> (8 &&& 31))) (nar .byte (i0 >>> (16 &&& 31))) (nar .byte (i0 >>> (24 &&& 31))) (i1 &&& 15) h0 h1 h2 h3 h4) (r0 100 ?_)
    simp only [↓S0, ↓B0, ↓idx_c, ↓setN_c, ↓idxN_c, ↓reduceIte, B1, List.length_cons, List.length_nil, List.mem_cons, List.not_mem_nil, or_false, true_or, or_true, true_and, and_true, and_self, not_true_eq_false, not_false_eq_true, eq_self, ne_eq, Nat.zero_le, Nat.le_refl, Nat.reduceAdd, Nat.reduceSub, Nat.reduceEqDiff, Nat.reduceLeDiff, Int32.reduceLT, Int32.reduceLE, Int32.reduceAdd, Int32.reduceSub, Int32.reduceMul, Int32.reduceToNatClampNeg, Int32.reduceOfNat, Int32.reduceOfInt, Int64.reduceLT, Int64.reduceAdd, Int64.reduceSub, Int64.reduceMul, String.reduceEq, reduceCtorEq, room_c, room_s, eq_4 (nar .byte i0) (nar .byte (i0 >>> (8 &&& 31))) (nar .byte (i0 >>> (16 &&& 31))) (nar .byte (i0 >>> (24 &&& 31))) i1 5 (by decide)]
  · by_cases h0 : nar .byte i0 < 0
    rotate_left
    · simp only [↓S0, ↓B0, ↓idx_c, ↓setN_c, ↓idxN_c, ↓reduceIte, B1, List.length_cons, List.length_nil, List.mem_cons, List.not_mem_nil, or_false, true_or, or_true, true_and, and_true, and_self, not_true_eq_false, not_false_eq_true, eq_self, ne_eq, Nat.zero_le, Nat.le_refl, Nat.reduceAdd, Nat.reduceSub, Nat.reduceEqDiff, Nat.reduceLeDiff, Int32.reduceLT, Int32.reduceLE, Int32.reduceAdd, Int32.reduceSub, Int32.reduceMul, Int32.reduceToNatClampNeg, Int32.reduceOfNat, Int32.reduceOfInt, Int64.reduceLT, Int64.reduceAdd, Int64.reduceSub, Int64.reduceMul, String.reduceEq, reduceCtorEq, room_c, room_s, hv, byte15, h0]
      refine kf0_275 (con1_1_0 (nar .byte (i1 >>> (8 &&& 31))) (nar .byte i0) (nar .byte (i0 >>> (8 &&& 31))) (nar .byte (i0 >>> (16 &&& 31))) (nar .byte (i0 >>> (24 &&& 31))) (i1 &&& 15) h0) (r0 100 ?_)
      simp only [↓S0, ↓B0, ↓idx_c, ↓setN_c, ↓idxN_c, ↓reduceIte, B1, List.length_cons, List.length_nil, List.mem_cons, List.not_mem_nil, or_false, true_or, or_true, true_and, and_true, and_self, not_true_eq_false, not_false_eq_true, eq_self, ne_eq, Nat.zero_le, Nat.le_refl, Nat.reduceAdd, Nat.reduceSub, Nat.reduceEqDiff, Nat.reduceLeDiff, Int32.reduceLT, Int32.reduceLE, Int32.reduceAdd, Int32.reduceSub, Int32.reduceMul, Int32.reduceToNatClampNeg, Int32.reduceOfNat, Int32.reduceOfInt, Int64.reduceLT, Int64.reduceAdd, Int64.reduceSub, Int64.reduceMul, String.reduceEq, reduceCtorEq, room_c, room_s, eq_0 (nar .byte i0) (nar .byte (i0 >>> (8 &&& 31))) (nar .byte (i0 >>> (16 &&& 31))) (nar .byte (i0 >>> (24 &&& 31))) i1 2 (by decide)]
    by_cases h1 : nar .byte (i0 >>> (8 &&& 31)) < 0
    rotate_left
    · simp only [↓S0, ↓B0, ↓idx_c, ↓setN_c, ↓idxN_c, ↓reduceIte, B1, List.length_cons, List.length_nil, List.mem_cons, List.not_mem_nil, or_false, true_or, or_true, true_and, and_true, and_self, not_true_eq_false, not_false_eq_true, eq_self, ne_eq, Nat.zero_le, Nat.le_refl, Nat.reduceAdd, Nat.reduceSub, Nat.reduceEqDiff, Nat.reduceLeDiff, Int32.reduceLT, Int32.reduceLE, Int32.reduceAdd, Int32.reduceSub, Int32.reduceMul, Int32.reduceToNatClampNeg, Int32.reduceOfNat, Int32.reduceOfInt, Int64.reduceLT, Int64.reduceAdd, Int64.reduceSub, Int64.reduceMul, String.reduceEq, reduceCtorEq, room_c, room_s, hv, byte15, h0, h1]
      refine kf0_275 (con1_1_1 (nar .byte (i1 >>> (8 &&& 31))) (nar .byte i0) (nar .byte (i0 >>> (8 &&& 31))) (nar .byte (i0 >>> (16 &&& 31))) (nar .byte (i0 >>> (24 &&& 31))) (i1 &&& 15) h0 h1) (r0 100 ?_)
      simp only [↓S0, ↓B0, ↓idx_c, ↓setN_c, ↓idxN_c, ↓reduceIte, B1, List.length_cons, List.length_nil, List.mem_cons, List.not_mem_nil, or_false, true_or, or_true, true_and, and_true, and_self, not_true_eq_false, not_false_eq_true, eq_self, ne_eq, Nat.zero_le, Nat.le_refl, Nat.reduceAdd, Nat.reduceSub, Nat.reduceEqDiff, Nat.reduceLeDiff, Int32.reduceLT, Int32.reduceLE, Int32.reduceAdd, Int32.reduceSub, Int32.reduceMul, Int32.reduceToNatClampNeg, Int32.reduceOfNat, Int32.reduceOfInt, Int64.reduceLT, Int64.reduceAdd, Int64.reduceSub, Int64.reduceMul, String.reduceEq, reduceCtorEq, room_c, room_s, eq_1 (nar .byte i0) (nar .byte (i0 >>> (8 &&& 31))) (nar .byte (i0 >>> (16 &&& 31))) (nar .byte (i0 >>> (24 &&& 31))) i1 3 (by decide)]
    by_cases h2 : nar .byte (i0 >>> (16 &&& 31)) < 0
    rotate_left
    · simp only [↓S0, ↓B0, ↓idx_c, ↓setN_c, ↓idxN_c, ↓reduceIte, B1, List.length_cons, List.length_nil, List.mem_cons, List.not_mem_nil, or_false, true_or, or_true, true_and, and_true, and_self, not_true_eq_false, not_false_eq_true, eq_self, ne_eq, Nat.zero_le, Nat.le_refl, Nat.reduceAdd, Nat.reduceSub, Nat.reduceEqDiff, Nat.reduceLeDiff, Int32.reduceLT, Int32.reduceLE, Int32.reduceAdd, Int32.reduceSub, Int32.reduceMul, Int32.reduceToNatClampNeg, Int32.reduceOfNat, Int32.reduceOfInt, Int64.reduceLT, Int64.reduceAdd, Int64.reduceSub, Int64.reduceMul, String.reduceEq, reduceCtorEq, room_c, room_s, hv, byte15, h0, h1, h2]
      refine kf0_275 (con1_1_2 (nar .byte (i1 >>> (8 &&& 31))) (nar .byte i0) (nar .byte (i0 >>> (8 &&& 31))) (nar .byte (i0 >>> (16 &&& 31))) (nar .byte (i0 >>> (24 &&& 31))) (i1 &&& 15) h0 h1 h2) (r0 100 ?_)
      simp only [↓S0, ↓B0, ↓idx_c, ↓setN_c, ↓idxN_c, ↓reduceIte, B1, List.length_cons, List.length_nil, List.mem_cons, List.not_mem_nil, or_false, true_or, or_true, true_and, and_true, and_self, not_true_eq_false, not_false_eq_true, eq_self, ne_eq, Nat.zero_le, Nat.le_refl, Nat.reduceAdd, Nat.reduceSub, Nat.reduceEqDiff, Nat.reduceLeDiff, Int32.reduceLT, Int32.reduceLE, Int32.reduceAdd, Int32.reduceSub, Int32.reduceMul, Int32.reduceToNatClampNeg, Int32.reduceOfNat, Int32.reduceOfInt, Int64.reduceLT, Int64.reduceAdd, Int64.reduceSub, Int64.reduceMul, String.reduceEq, reduceCtorEq, room_c, room_s, eq_2 (nar .byte i0) (nar .byte (i0 >>> (8 &&& 31))) (nar .byte (i0 >>> (16 &&& 31))) (nar .byte (i0 >>> (24 &&& 31))) i1 4 (by decide)]
    by_cases h3 : nar .byte (i0 >>> (24 &&& 31)) < 0
    rotate_left
    · simp only [↓S0, ↓B0, ↓idx_c, ↓setN_c, ↓idxN_c, ↓reduceIte, B1, List.length_cons, List.length_nil, List.mem_cons, List.not_mem_nil, or_false, true_or, or_true, true_and, and_true, and_self, not_true_eq_false, not_false_eq_true, eq_self, ne_eq, Nat.zero_le, Nat.le_refl, Nat.reduceAdd, Nat.reduceSub, Nat.reduceEqDiff, Nat.reduceLeDiff, Int32.reduceLT, Int32.reduceLE, Int32.reduceAdd, Int32.reduceSub, Int32.reduceMul, Int32.reduceToNatClampNeg, Int32.reduceOfNat, Int32.reduceOfInt, Int64.reduceLT, Int64.reduceAdd, Int64.reduceSub, Int64.reduceMul, String.reduceEq, reduceCtorEq, room_c, room_s, hv, byte15, h0, h1, h2, h3]
      refine kf0_275 (con1_1_3 (nar .byte (i1 >>> (8 &&& 31))) (nar .byte i0) (nar .byte (i0 >>> (8 &&& 31))) (nar .byte (i0 >>> (16 &&& 31))) (nar .byte (i0 >>> (24 &&& 31))) (i1 &&& 15) h0 h1 h2 h3) (r0 100 ?_)
      simp only [↓S0, ↓B0, ↓idx_c, ↓setN_c, ↓idxN_c, ↓reduceIte, B1, List.length_cons, List.length_nil, List.mem_cons, List.not_mem_nil, or_false, true_or, or_true, true_and, and_true, and_self, not_true_eq_false, not_false_eq_true, eq_self, ne_eq, Nat.zero_le, Nat.le_refl, Nat.reduceAdd, Nat.reduceSub, Nat.reduceEqDiff, Nat.reduceLeDiff, Int32.reduceLT, Int32.reduceLE, Int32.reduceAdd, Int32.reduceSub, Int32.reduceMul, Int32.reduceToNatClampNeg, Int32.reduceOfNat, Int32.reduceOfInt, Int64.reduceLT, Int64.reduceAdd, Int64.reduceSub, Int64.reduceMul, String.reduceEq, reduceCtorEq, room_c, room_s, eq_3 (nar .byte i0) (nar .byte (i0 >>> (8 &&& 31))) (nar .byte (i0 >>> (16 &&& 31))) (nar .byte (i0 >>> (24 &&& 31))) i1 5 (by decide)]
    simp only [↓S0, ↓B0, ↓idx_c, ↓setN_c, ↓idxN_c, ↓reduceIte, B1, List.length_cons, List.length_nil, List.mem_cons, List.not_mem_nil, or_false, true_or, or_true, true_and, and_true, and_self, not_true_eq_false, not_false_eq_true, eq_self, ne_eq, Nat.zero_le, Nat.le_refl, Nat.reduceAdd, Nat.reduceSub, Nat.reduceEqDiff, Nat.reduceLeDiff, Int32.reduceLT, Int32.reduceLE, Int32.reduceAdd, Int32.reduceSub, Int32.reduceMul, Int32.reduceToNatClampNeg, Int32.reduceOfNat, Int32.reduceOfInt, Int64.reduceLT, Int64.reduceAdd, Int64.reduceSub, Int64.reduceMul, String.reduceEq, reduceCtorEq, room_c, room_s, hv, byte15, h0, h1, h2, h3, h4]
    refine kf0_275 (con1_1_4 (nar .byte (i1 >>> (8 &&& 31))) (nar .byte i0) (nar .byte (i0 >>> (8 &&& 31))) (nar .byte (i0 >>> (16 &&& 31))) (nar .byte (i0 >>> (24 &&& 31))) (i1 &&& 15) h0 h1 h2 h3 h4) (r0 100 ?_)
    simp only [↓S0, ↓B0, ↓idx_c, ↓setN_c, ↓idxN_c, ↓reduceIte, B1, List.length_cons, List.length_nil, List.mem_cons, List.not_mem_nil, or_false, true_or, or_true, true_and, and_true, and_self, not_true_eq_false, not_false_eq_true, eq_self, ne_eq, Nat.zero_le, Nat.le_refl, Nat.reduceAdd, Nat.reduceSub, Nat.reduceEqDiff, Nat.reduceLeDiff, Int32.reduceLT, Int32.reduceLE, Int32.reduceAdd, Int32.reduceSub, Int32.reduceMul, Int32.reduceToNatClampNeg, Int32.reduceOfNat, Int32.reduceOfInt, Int64.reduceLT, Int64.reduceAdd, Int64.reduceSub, Int64.reduceMul, String.reduceEq, reduceCtorEq, room_c, room_s, eq_4 (nar .byte i0) (nar .byte (i0 >>> (8 &&& 31))) (nar .byte (i0 >>> (16 &&& 31))) (nar .byte (i0 >>> (24 &&& 31))) i1 6 (by decide)]
  · by_cases h0 : nar .byte i0 < 0
    rotate_left
    · simp only [↓S0, ↓B0, ↓idx_c, ↓setN_c, ↓idxN_c, ↓reduceIte, B1, List.length_cons, List.length_nil, List.mem_cons, List.not_mem_nil, or_false, true_or, or_true, true_and, and_true, and_self, not_true_eq_false, not_false_eq_true, eq_self, ne_eq, Nat.zero_le, Nat.le_refl, Nat.reduceAdd, Nat.reduceSub, Nat.reduceEqDiff, Nat.reduceLeDiff, Int32.reduceLT, Int32.reduceLE, Int32.reduceAdd, Int32.reduceSub, Int32.reduceMul, Int32.reduceToNatClampNeg, Int32.reduceOfNat, Int32.reduceOfInt, Int64.reduceLT, Int64.reduceAdd, Int64.reduceSub, Int64.reduceMul, String.reduceEq, reduceCtorEq, room_c, room_s, hv, byte15, h0]
      refine kf0_275 (con1_2_0 (nar .byte (i1 >>> (8 &&& 31))) (nar .byte i0) (nar .byte (i0 >>> (8 &&& 31))) (nar .byte (i0 >>> (16 &&& 31))) (nar .byte (i0 >>> (24 &&& 31))) (i1 &&& 15) h0) (r0 100 ?_)
      simp only [↓S0, ↓B0, ↓idx_c, ↓setN_c, ↓idxN_c, ↓reduceIte, B1, List.length_cons, List.length_nil, List.mem_cons, List.not_mem_nil, or_false, true_or, or_true, true_and, and_true, and_self, not_true_eq_false, not_false_eq_true, eq_self, ne_eq, Nat.zero_le, Nat.le_refl, Nat.reduceAdd, Nat.reduceSub, Nat.reduceEqDiff, Nat.reduceLeDiff, Int32.reduceLT, Int32.reduceLE, Int32.reduceAdd, Int32.reduceSub, Int32.reduceMul, Int32.reduceToNatClampNeg, Int32.reduceOfNat, Int32.reduceOfInt, Int64.reduceLT, Int64.reduceAdd, Int64.reduceSub, Int64.reduceMul, String.reduceEq, reduceCtorEq, room_c, room_s, eq_0 (nar .byte i0) (nar .byte (i0 >>> (8 &&& 31))) (nar .byte (i0 >>> (16 &&& 31))) (nar .byte (i0 >>> (24 &&& 31))) i1 3 (by decide)]
    by_cases h1 : nar .byte (i0 >>> (8 &&& 31)) < 0
    rotate_left
    · simp only [↓S0, ↓B0, ↓idx_c, ↓setN_c, ↓idxN_c, ↓reduceIte, B1, List.length_cons, List.length_nil, List.mem_cons, List.not_mem_nil, or_false, true_or, or_true, true_and, and_true, and_self, not_true_eq_false, not_false_eq_true, eq_self, ne_eq, Nat.zero_le, Nat.le_refl, Nat.reduceAdd, Nat.reduceSub, Nat.reduceEqDiff, Nat.reduceLeDiff, Int32.reduceLT, Int32.reduceLE, Int32.reduceAdd, Int32.reduceSub, Int32.reduceMul, Int32.reduceToNatClampNeg, Int32.reduceOfNat, Int32.reduceOfInt, Int64.reduceLT, Int64.reduceAdd, Int64.reduceSub, Int64.reduceMul, String.reduceEq, reduceCtorEq, room_c, room_s, hv, byte15, h0, h1]
      refine kf0_275 (con1_2_1 (nar .byte (i1 >>> (8 &&& 31))) (nar .byte i0) (nar .byte (i0 >>> (8 &&& 31))) (nar .byte (i0 >>> (16 &&& 31))) (nar .byte (i0 >>> (24 &&& 31))) (i1 &&& 15) h0 h1) (r0 100 ?_)
      simp only [↓S0, ↓B0, ↓idx_c, ↓setN_c, ↓idxN_c, ↓reduceIte, B1, List.length_cons, List.length_nil, List.mem_cons, List.not_mem_nil, or_false, true_or, or_true, true_and, and_true, and_self, not_true_eq_false, not_false_eq_true, eq_self, ne_eq, Nat.zero_le, Nat.le_refl, Nat.reduceAdd, Nat.reduceSub, Nat.reduceEqDiff, Nat.reduceLeDiff, Int32.reduceLT, Int32.reduceLE, Int32.reduceAdd, Int32.reduceSub, Int32.reduceMul, Int32.reduceToNatClampNeg, Int32.reduceOfNat, Int32.reduceOfInt, Int64.reduceLT, Int64.reduceAdd, Int64.reduceSub, Int64.reduceMul, String.reduceEq, reduceCtorEq, room_c, room_s, eq_1 (nar .byte i0) (nar .byte (i0 >>> (8 &&& 31))) (nar .byte (i0 >>> (16 &&& 31))) (nar .byte (i0 >>> (24 &&& 31))) i1 4 (by decide)]
    by_cases h2 : nar .byte (i0 >>> (16 &&& 31)) < 0
    rotate_left
    · simp only [↓S0, ↓B0, ↓idx_c, ↓setN_c, ↓idxN_c, ↓reduceIte, B1, List.length_cons, List.length_nil, List.mem_cons, List.not_mem_nil, or_false, true_or, or_true, true_and, and_true, and_self, not_true_eq_false, not_false_eq_true, eq_self, ne_eq, Nat.zero_le, Nat.le_refl, Nat.reduceAdd, Nat.reduceSub, Nat.reduceEqDiff, Nat.reduceLeDiff, Int32.reduceLT, Int32.reduceLE, Int32.reduceAdd, Int32.reduceSub, Int32.reduceMul, Int32.reduceToNatClampNeg, Int32.reduceOfNat, Int32.reduceOfInt, Int64.reduceLT, Int64.reduceAdd, Int64.reduceSub, Int64.reduceMul, String.reduceEq, reduceCtorEq, room_c, room_s, hv, byte15, h0, h1, h2]
      refine kf0_275 (con1_2_2 (nar .byte (i1 >>> (8 &&& 31))) (nar .byte i0) (nar .byte (i0 >>> (8 &&& 31))) (nar .byte (i0 >>> (16 &&& 31))) (nar .byte (i0 >>> (24 &&& 31))) (i1 &&& 15) h0 h1 h2) (r0 100 ?_)
      simp only [↓S0, ↓B0, ↓idx_c, ↓setN_c, ↓idxN_c, ↓reduceIte, B1, List.length_cons, List.length_nil, List.mem_cons, List.not_mem_nil, or_false, true_or, or_true, true_and, and_true, and_self, not_true_eq_false, not_false_eq_true, eq_self, ne_eq, Nat.zero_le, Nat.le_refl, Nat.reduceAdd, Nat.reduceSub, Nat.reduceEqDiff, Nat.reduceLeDiff, Int32.reduceLT, Int32.reduceLE, Int32.reduceAdd, Int32.reduceSub, Int32.reduceMul, Int32.reduceToNatClampNeg, Int32.reduceOfNat, Int32.reduceOfInt, Int64.reduceLT, Int64.reduceAdd, Int64.reduceSub, Int64.reduceMul, String.reduceEq, reduceCtorEq, room_c, room_s, eq_2 (nar .byte i0) (nar .byte (i0 >>> (8 &&& 31))) (nar .byte (i0 >>> (16 &&& 31))) (nar .byte (i0 >>> (24 &&& 31))) i1 5 (by decide)]
    by_cases h3 : nar .byte (i0 >>> (24 &&& 31)) < 0
    rotate_left
    · simp only [↓S0, ↓B0, ↓idx_c, ↓setN_c, ↓idxN_c, ↓reduceIte, B1, List.length_cons, List.length_nil, List.mem_cons, List.not_mem_nil, or_false, true_or, or_true, true_and, and_true, and_self, not_true_eq_false, not_false_eq_true, eq_self, ne_eq, Nat.zero_le, Nat.le_refl, Nat.reduceAdd, Nat.reduceSub, Nat.reduceEqDiff, Nat.reduceLeDiff, Int32.reduceLT, Int32.reduceLE, Int32.reduceAdd, Int32.reduceSub, Int32.reduceMul, Int32.reduceToNatClampNeg, Int32.reduceOfNat, Int32.reduceOfInt, Int64.reduceLT, Int64.reduceAdd, Int64.reduceSub, Int64.reduceMul, String.reduceEq, reduceCtorEq, room_c, room_s, hv, byte15, h0, h1, h2, h3]
      refine kf0_275 (con1_2_3 (nar .byte (i1 >>> (8 &&& 31))) (nar .byte i0) (nar .byte (i0 >>> (8 &&& 31))) (nar .byte (i0 >>> (16 &&& 31))) (nar .byte (i0 >>> (24 &&& 31))) (i1 &&& 15) h0 h1 h2 h3) (r0 100 ?_)
      simp only [↓S0, ↓B0, ↓idx_c, ↓setN_c, ↓idxN_c, ↓reduceIte, B1, List.length_cons, List.length_nil, List.mem_cons, List.not_mem_nil, or_false, true_or, or_true, true_and, and_true, and_self, not_true_eq_false, not_false_eq_true, eq_self, ne_eq, Nat.zero_le, Nat.le_refl, Nat.reduceAdd, Nat.reduceSub, Nat.reduceEqDiff, Nat.reduceLeDiff, Int32.reduceLT, Int32.reduceLE, Int32.reduceAdd, Int32.reduceSub, Int32.reduceMul, Int32.reduceToNatClampNeg, Int32.reduceOfNat, Int32.reduceOfInt, Int64.reduceLT, Int64.reduceAdd, Int64.reduceSub, Int64.reduceMul, String.reduceEq, reduceCtorEq, room_c, room_s, eq_3 (nar .byte i0) (nar .byte (i0 >>> (8 &&& 31))) (nar .byte (i0 >>> (16 &&& 31))) (nar .byte (i0 >>> (24 &&& 31))) i1 6 (by decide)]
    simp only [↓S0, ↓B0, ↓idx_c, ↓setN_c, ↓idxN_c, ↓reduceIte, B1, List.length_cons, List.length_nil, List.mem_cons, List.not_mem_nil, or_false, true_or, or_true, true_and, and_true, and_self, not_true_eq_false, not_false_eq_true, eq_self, ne_eq, Nat.zero_le, Nat.le_refl, Nat.reduceAdd, Nat.reduceSub, Nat.reduceEqDiff, Nat.reduceLeDiff, Int32.reduceLT, Int32.reduceLE, Int32.reduceAdd, Int32.reduceSub, Int32.reduceMul, Int32.reduceToNatClampNeg, Int32.reduceOfNat, Int32.reduceOfInt, Int64.reduceLT, Int64.reduceAdd, Int64.reduceSub, Int64.reduceMul, String.reduceEq, reduceCtorEq, room_c, room_s, hv, byte15, h0, h1, h2, h3, h4]
    refine kf0_275 (con1_2_4 (nar .byte (i1 >>> (8 &&& 31))) (nar .byte i0) (nar .byte (i0 >>> (8 &&& 31))) (nar .byte (i0 >>> (16 &&& 31))) (nar .byte (i0 >>> (24 &&& 31))) (i1 &&& 15) h0 h1 h2 h3 h4) (r0 100 ?_)
    simp only [↓S0, ↓B0, ↓idx_c, ↓setN_c, ↓idxN_c, ↓reduceIte, B1, List.length_cons, List.length_nil, List.mem_cons, List.not_mem_nil, or_false, true_or, or_true, true_and, and_true, and_self, not_true_eq_false, not_false_eq_true, eq_self, ne_eq, Nat.zero_le, Nat.le_refl, Nat.reduceAdd, Nat.reduceSub, Nat.reduceEqDiff, Nat.reduceLeDiff, Int32.reduceLT, Int32.reduceLE, Int32.reduceAdd, Int32.reduceSub, Int32.reduceMul, Int32.reduceToNatClampNeg, Int32.reduceOfNat, Int32.reduceOfInt, Int64.reduceLT, Int64.reduceAdd, Int64.reduceSub, Int64.reduceMul, String.reduceEq, reduceCtorEq, room_c, room_s, eq_4 (nar .byte i0) (nar .byte (i0 >>> (8 &&& 31))) (nar .byte (i0 >>> (16 &&& 31))) (nar .byte (i0 >>> (24 &&& 31))) i1 7 (by decide)]
  · by_cases h0 : nar .byte i0 < 0
    rotate_left
    · simp only [↓S0, ↓B0, ↓idx_c, ↓setN_c, ↓idxN_c, ↓reduceIte, B1, List.length_cons, List.length_nil, List.mem_cons, List.not_mem_nil, or_false, true_or, or_true, true_and, and_true, and_self, not_true_eq_false, not_false_eq_true, eq_self, ne_eq, Nat.zero_le, Nat.le_refl, Nat.reduceAdd, Nat.reduceSub, Nat.reduceEqDiff, Nat.reduceLeDiff, Int32.reduceLT, Int32.reduceLE, Int32.reduceAdd, Int32.reduceSub, Int32.reduceMul, Int32.reduceToNatClampNeg, Int32.reduceOfNat, Int32.reduceOfInt, Int64.reduceLT, Int64.reduceAdd, Int64.reduceSub, Int64.reduceMul, String.reduceEq, reduceCtorEq, room_c, room_s, hv, byte15, h0]
      refine kf0_275 (con1_3_0 (nar .byte (i1 >>> (8 &&& 31))) (nar .byte i0) (nar .byte (i0 >>> (8 &&& 31))) (nar .byte (i0 >>> (16 &&& 31))) (nar .byte (i0 >>> (24 &&& 31))) (i1 &&& 15) h0) (r0 100 ?_)
      simp only [↓S0, ↓B0, ↓idx_c, ↓setN_c, ↓idxN_c, ↓reduceIte, B1, List.length_cons, List.length_nil, List.mem_cons, List.not_mem_nil, or_false, true_or, or_true, true_and, and_true, and_self, not_true_eq_false, not_false_eq_true, eq_self, ne_eq, Nat.zero_le, Nat.le_refl, Nat.reduceAdd, Nat.reduceSub, Nat.reduceEqDiff, Nat.reduceLeDiff, Int32.reduceLT, Int32.reduceLE, Int32.reduceAdd, Int32.reduceSub, Int32.reduceMul, Int32.reduceToNatClampNeg, Int32.reduceOfNat, Int32.reduceOfInt, Int64.reduceLT, Int64.reduceAdd, Int64.reduceSub, Int64.reduceMul, String.reduceEq, reduceCtorEq, room_c, room_s, eq_0 (nar .byte i0) (nar .byte (i0 >>> (8 &&& 31))) (nar .byte (i0 >>> (16 &&& 31))) (nar .byte (i0 >>> (24 &&& 31))) i1 4 (by decide)]
    by_cases h1 : nar .byte (i0 >>> (8 &&& 31)) < 0
    rotate_left
    · simp only [↓S0, ↓B0, ↓idx_c, ↓setN_c, ↓idxN_c, ↓reduceIte, B1, List.length_cons, List.length_nil, List.mem_cons, List.not_mem_nil, or_false, true_or, or_true, true_and, and_true, and_self, not_true_eq_false, not_false_eq_true, eq_self, ne_eq, Nat.zero_le, Nat.le_refl, Nat.reduceAdd, Nat.reduceSub, Nat.reduceEqDiff, Nat.reduceLeDiff, Int32.reduceLT, Int32.reduceLE, Int32.reduceAdd, Int32.reduceSub, Int32.reduceMul, Int32.reduceToNatClampNeg, Int32.reduceOfNat, Int32.reduceOfInt, Int64.reduceLT, Int64.reduceAdd, Int64.reduceSub, Int64.reduceMul, String.reduceEq, reduceCtorEq, room_c, room_s, hv, byte15, h0, h1]
      refine kf0_275 (con1_3_1 (nar .byte (i1 >>> (8 &&& 31))) (nar .byte i0) (nar .byte (i0 >>> (8 &&& 31))) (nar .byte (i0 >>> (16 &&& 31))) (nar .byte (i0 >>> (24 &&& 31))) (i1 &&& 15) h0 h1) (r0 100 ?_)
      simp only [↓S0, ↓B0, ↓idx_c, ↓setN_c, ↓idxN_c, ↓reduceIte, B1, List.length_cons, List.length_nil, List.mem_cons, List.not_mem_nil, or_false, true_or, or_true, true_and, and_true, and_self, not_true_eq_false, not_false_eq_true, eq_self, ne_eq, Nat.zero_le, Nat.le_refl, Nat.reduceAdd, Nat.reduceSub, Nat.reduceEqDiff, Nat.reduceLeDiff, Int32.reduceLT, Int32.reduceLE, Int32.reduceAdd, Int32.reduceSub, Int32.reduceMul, Int32.reduceToNatClampNeg, Int32.reduceOfNat, Int32.reduceOfInt, Int64.reduceLT, Int64.reduceAdd, Int64.reduceSub, Int64.reduceMul, String.reduceEq, reduceCtorEq, room_c, room_s, eq_1 (nar .byte i0) (nar .byte (i0 >>> (8 &&& 31))) (nar .byte (i0 >>> (16 &&& 31))) (nar .byte (i0 >>> (24 &&& 31))) i1 5 (by decide)]
    by_cases h2 : nar .byte (i0 >>> (16 &&& 31)) < 0
    rotate_left
    · simp only [↓S0, ↓B0, ↓idx_c, ↓setN_c, ↓idxN_c, ↓reduceIte, B1, List.length_cons, List.length_nil, List.mem_cons, List.not_mem_nil, or_false, true_or, or_true, true_and, and_true, and_self, not_true_eq_false, not_false_eq_true, eq_self, ne_eq, Nat.zero_le, Nat.le_refl, Nat.reduceAdd, Nat.reduceSub, Nat.reduceEqDiff, Nat.reduceLeDiff, Int32.reduceLT, Int32.reduceLE, Int32.reduceAdd, Int32.reduceSub, Int32.reduceMul, Int32.reduceToNatClampNeg, Int32.reduceOfNat, Int32.reduceOfInt, Int64.reduceLT, Int64.reduceAdd, Int64.reduceSub, Int64.reduceMul, String.reduceEq, reduceCtorEq, room_c, room_s, hv, byte15, h0, h1, h2]
      refine kf0_275 (con1_3_2 (nar .byte (i1 >>> (8 &&& 31))) (nar .byte i0) (nar .byte (i0 >>> (8 &&& 31))) (nar .byte (i0 >>> (16 &&& 31))) (nar .byte (i0 >>> (24 &&& 31))) (i1 &&& 15) h0 h1 h2) (r0 100 ?_)
      simp only [↓S0, ↓B0, ↓idx_c, ↓setN_c, ↓idxN_c, ↓reduceIte, B1, List.length_cons, List.length_nil, List.mem_cons, List.not_mem_nil, or_false, true_or, or_true, true_and, and_true, and_self, not_true_eq_false, not_false_eq_true, eq_self, ne_eq, Nat.zero_le, Nat.le_refl, Nat.reduceAdd, Nat.reduceSub, Nat.reduceEqDiff, Nat.reduceLeDiff, Int32.reduceLT, Int32.reduceLE, Int32.reduceAdd, Int32.reduceSub, Int32.reduceMul, Int32.reduceToNatClampNeg, Int32.reduceOfNat, Int32.reduceOfInt, Int64.reduceLT, Int64.reduceAdd, Int64.reduceSub, Int64.reduceMul, String.reduceEq, reduceCtorEq, room_c, room_s, eq_2 (nar .byte i0) (nar .byte (i0 >>> (8 &&& 31))) (nar .byte (i0 >>> (16 &&& 31))) (nar .byte (i0 >>> (24 &&& 31))) i1 6 (by decide)]
    by_cases h3 : nar .byte (i0 >>> (24 &&& 31)) < 0
    rotate_left
    · simp only [↓S0, ↓B0, ↓idx_c, ↓setN_c, ↓idxN_c, ↓reduceIte, B1, List.length_cons, List.length_nil, List.mem_cons, List.not_mem_nil, or_false, true_or, or_true, true_and, and_true, and_self, not_true_eq_false, not_false_eq_true, eq_self, ne_eq, Nat.zero_le, Nat.le_refl, Nat.reduceAdd, Nat.reduceSub, Nat.reduceEqDiff, Nat.reduceLeDiff, Int32.reduceLT, Int32.reduceLE, Int32.reduceAdd, Int32.reduceSub, Int32.reduceMul, Int32.reduceToNatClampNeg, Int32.reduceOfNat, Int32.reduceOfInt, Int64.reduceLT, Int64.reduceAdd, Int64.reduceSub, Int64.reduceMul, String.reduceEq, reduceCtorEq, room_c, room_s, hv, byte15, h0, h1, h2, h3]
      refine kf0_275 (con1_3_3 (nar .byte (i1 >>> (8 &&& 31))) (nar .byte i0) (nar .byte (i0 >>> (8 &&& 31))) (nar .byte (i0 >>> (16 &&& 31))) (nar .byte (i0 >>> (24 &&& 31))) (i1 &&& 15) h0 h1 h2 h3) (r0 100 ?_)
      simp only [↓S0, ↓B0, ↓idx_c, ↓setN_c, ↓idxN_c, ↓reduceIte, B1, List.length_cons, List.length_nil, List.mem_cons, List.not_mem_nil, or_false, true_or, or_true, true_and, and_true, and_self, not_true_eq_false, not_false_eq_true, eq_self, ne_eq, Nat.zero_le, Nat.le_refl, Nat.reduceAdd, Nat.reduceSub, Nat.reduceEqDiff, Nat.reduceLeDiff, Int32.reduceLT, Int32.reduceLE, Int32.reduceAdd, Int32.reduceSub, Int32.reduceMul, Int32.reduceToNatClampNeg, Int32.reduceOfNat, Int32.reduceOfInt, Int64.reduceLT, Int64.reduceAdd, Int64.reduceSub, Int64.reduceMul, String.reduceEq, reduceCtorEq, room_c, room_s, eq_3 (nar .byte i0) (nar .byte (i0 >>> (8 &&& 31))) (nar .byte (i0 >>> (16 &&& 31))) (nar .byte (i0 >>> (24 &&& 31))) i1 7 (by decide)]
    simp only [↓S0, ↓B0, ↓idx_c, ↓setN_c, ↓idxN_c, ↓reduceIte, B1, List.length_cons, List.length_nil, List.mem_cons, List.not_mem_nil, or_false, true_or, or_true, true_and, and_true, and_self, not_true_eq_false, not_false_eq_true, eq_self, ne_eq, Nat.zero_le, Nat.le_refl, Nat.reduceAdd, Nat.reduceSub, Nat.reduceEqDiff, Nat.reduceLeDiff, Int32.reduceLT, Int32.reduceLE, Int32.reduceAdd, Int32.reduceSub, Int32.reduceMul, Int32.reduceToNatClampNeg, Int32.reduceOfNat, Int32.reduceOfInt, Int64.reduceLT, Int64.reduceAdd, Int64.reduceSub, Int64.reduceMul, String.reduceEq, reduceCtorEq, room_c, room_s, hv, byte15, h0, h1, h2, h3, h4]
    refine kf0_275 (con1_3_4 (nar .byte (i1 >>> (8 &&& 31))) (nar .byte i0) (nar .byte (i0 >>> (8 &&& 31))) (nar .byte (i0 >>> (16 &&& 31))) (nar .byte (i0 >>> (24 &&& 31))) (i1 &&& 15) h0 h1 h2 h3 h4) (r0 100 ?_)
    simp only [↓S0, ↓B0, ↓idx_c, ↓setN_c, ↓idxN_c, ↓reduceIte, B1, List.length_cons, List.length_nil, List.mem_cons, List.not_mem_nil, or_false, true_or, or_true, true_and, and_true, and_self, not_true_eq_false, not_false_eq_true, eq_self, ne_eq, Nat.zero_le, Nat.le_refl, Nat.reduceAdd, Nat.reduceSub, Nat.reduceEqDiff, Nat.reduceLeDiff, Int32.reduceLT, Int32.reduceLE, Int32.reduceAdd, Int32.reduceSub, Int32.reduceMul, Int32.reduceToNatClampNeg, Int32.reduceOfNat, Int32.reduceOfInt, Int64.reduceLT, Int64.reduceAdd, Int64.reduceSub, Int64.reduceMul, String.reduceEq, reduceCtorEq, room_c, room_s, eq_4 (nar .byte i0) (nar .byte (i0 >>> (8 &&& 31))) (nar .byte (i0 >>> (16 &&& 31))) (nar .byte (i0 >>> (24 &&& 31))) i1 8 (by decide)]
theorem comes_1 {Post : Tables → Env → Array Value → State → Outcome → State → Prop} (hpost : ∀ tb e args s v u, (limb_1_1.after args s (.returned v) u = true ∧ limb_1_2.after args s (.returned v) u = true ∧ True) → FrameEnd s (.returned v) u (Jvm.fieldLocs frame_1_writes args s ++ Jvm.arrayLocs frame_1_arrays args s ++ Jvm.staticLocs frame_1_statics s) 16 128 → Post tb e args s (.returned v) u) :
    ArmFor flags0 classFile x code maxLocals ret World_1 tables_1 room_1 Calls_1 rest_1 Pre_1 Post := by
  intro l hfl _ _ p e ha hc hk s m args below hf hA hF happ hP
  obtain ⟨hcalls, hrest, hpre⟩ := hP
  obtain ⟨-, -, -, hnamed, -, -, -, hat⟩ := (Spec.applies_iff hf).mp happ
  obtain ⟨hg, hn⟩ := and_e (Cond.before_iff.mp (show (Jvm.Cond.and given_1 narrow_1).before args s = true from hpre))
  obtain ⟨hcount, g0⟩ := and_e hg
  obtain ⟨q0, g1⟩ := and_e g0
  obtain ⟨q1, g2⟩ := and_e g1
  obtain ⟨w0, w1, w2, rfl⟩ : ∃ w0 w1 w2 : Value, args = #[w0, w1, w2] := by
    have hs : args.size = 3 := by simpa [Cond.value, given_1] using hcount
    obtain ⟨L⟩ := args
    match L, hs with
    | [w0, w1, w2], _ => exact ⟨w0, w1, w2, rfl⟩
  have hw := fun d (hd : d ∈ tables_1) => atoms_spec (ws := Jvm.Cond.code x code maxLocals ret :: tables_1) hat d (List.mem_cons_of_mem _ hd)
  obtain ⟨i0, ei0⟩ := is_v q0
  obtain rfl : w0 = (.int i0) := Option.some.inj ei0
  obtain ⟨i1, ei1⟩ := is_v q1
  obtain rfl : w1 = (.int i1) := Option.some.inj ei1
  obtain ⟨i2, ei2⟩ := is_v g2
  obtain rfl : w2 = (.int i2) := Option.some.inj ei2
  obtain ⟨n, o, h1, h2, h3, v, L, rfl, ⟨N, H', -, hv⟩, hq⟩ := G.met (ws := tables_1) (y := x) (by first | decide +kernel | exact plainFor_of_name (by simp [x, plainName, overriddenIn])) (fun m => ef0 m i0 i1 i2) (show G code x.cls x.name maxLocals ret room_1 tables_1 l s s.heap 16 128 _ 0 _ [] [] 0 0 from law l s s.heap i0 i1 i2) _ s.heap hw ⟨rfl, fun i c hc => by cases hc⟩ p e ha hc hk s m _ below hf ((Spec.applies_iff_loose hf).mp happ).1 ⟨rfl, State.Warmed39.refl s, rfl⟩ trivial
  cases hv
  refine ⟨n, _, h1, h2, h3, hpost _ _ _ _ _ _ ⟨Cond.after_iff.mpr rfl, Cond.after_iff.mpr (eq_i res_at (Term.int_eval (1)) rfl), trivial⟩ ⟨hq.1, hq.2.1, hq.2.2.sift fun y hy => Or.inr (N y hy)⟩⟩
theorem main_1_1 : Claimed_1_1 := comes_1 fun _ _ _ _ _ _ h hF => ⟨h.1, hF⟩
theorem main_1_2 : Claimed_1_2 := comes_1 fun _ _ _ _ _ _ h hF => ⟨h.2.1, hF⟩
end Jvm.Pilot.@@N@@
namespace Jvm.Pilot.@@N@@
open Jvm Jvm.ClassFile Sem Op Lib Jvm.Free Jvm.Stand Jvm.Pilot.@@N@@.Jvm.D
/-! MADE BY PROGRAM (witnessworld.py) out of the Statement's table words and the real class files: 9 classes; the members and pool entries that the words name. The judged class is class 1, her method 1. -/
namespace start1
open Jvm.ClassFile
def u (s : String) : CpInfo := .utf8 (stringToUtf16 s)
/-- a pool by its gaps: so many unusable entries, then the entry; so many at the end -/
def gap : Nat → List CpInfo → List CpInfo
  | 0, r => r
  | n + 1, r => .unusable :: gap n r
def poolList (es : List (Nat × CpInfo)) (last : Nat) : List CpInfo := es.foldr (fun e r => gap e.1 (e.2 :: r)) (gap last [])
def pool (es : List (Nat × CpInfo)) (last : Nat) : Array CpInfo := ⟨poolList es last⟩
def fileOf (pool : Array CpInfo) (this : Nat) (attrs : Array Attribute := #[]) (ms : Array MethodInfo := #[]) (fl : Nat := 33) (sup : Nat := 0) (ifs : Array Nat := #[]) (fds : Array FieldInfo := #[]) : ClassFile where
  minorVersion := 0
  majorVersion := 65
  constantPool := pool
  accessFlags := fl
  thisClass := this
  superClass := sup
  interfaces := ifs
  fields := fds
  methods := ms
  attributes := attrs
def plain (name : String) (sup : Option ClassId) : Class where
  name := name
  kind := .ordinary
  loader := none
  accessFlags := 33
  super := sup
  interfaces := #[]
  cf := none
  fields := #[]
  methods := #[]
  instanceTypes := #[]
  staticTypes := #[]
  resolved := #[]
  callSites := []
  init := .initialized
  statics := none
  mirror := none

def pool0 : Array CpInfo := pool [(5, u "<init>"), (0, u "()V"), (1, .class_ 10), (1, u "java/lang/Object")] 113

def k0m0 : Method := { name := "<init>", desc := "()V", sig := { parameters := [], returnType := none }, accessFlags := 1, code := none }
/-- java/lang/Object -/
def k0 : Class := { plain "java/lang/Object" none with
  accessFlags := 33
  interfaces := #[]
  cf := some (fileOf pool0 8 #[] #[{ accessFlags := 1, nameIndex := 5, descriptorIndex := 6, attributes := #[] }] 33 0 #[] #[])
  fields := #[]
  methods := #[k0m0]
  instanceTypes := #[]
  staticTypes := #[]
  resolved := Array.replicate 124 none
  statics := none }

def pool1 : Array CpInfo := pool [(2, .class_ 4), (1, u "java/lang/Object"), (0, u "<init>"), (0, u "()V"), (0, .long 128), (1, .long 16384), (1, .long 2097152), (1, .long 268435456), (1, .methodref 16 17), (0, .class_ 18), (0, .nameAndType 19 20), (0, u "com/example/twinsift/twinsift/cover/Varint"), (0, u "read"), (0, u "([BI)J"), (0, .class_ 22), (0, u "com/example/twinsift/twinsift/cover/VarintReadPinLaw"), (2, u "law"), (0, u "(III)Z")] 5

def k1m0 : Method := { name := "<init>", desc := "()V", sig := { parameters := [], returnType := none }, accessFlags := 2, code := none }
def k1c1 : Code := { maxStack := 6, maxLocals := 19, code := code, exceptionTable := #[], attributes := #[] }
def k1m1 : Method := { name := "law", desc := "(III)Z", sig := { parameters := [.int, .int, .int], returnType := some .boolean }, accessFlags := 9, code := some k1c1 }
/-- com/example/twinsift/twinsift/cover/VarintReadPinLaw -/
def k1 : Class := { plain "com/example/twinsift/twinsift/cover/VarintReadPinLaw" (some 0) with
  accessFlags := 49
  interfaces := #[]
  cf := some (fileOf pool1 21 #[] #[{ accessFlags := 2, nameIndex := 5, descriptorIndex := 6, attributes := #[] }, { accessFlags := 9, nameIndex := 25, descriptorIndex := 26, attributes := #[] }] 49 2 #[] #[])
  fields := #[]
  methods := #[k1m0, k1m1]
  instanceTypes := #[]
  staticTypes := #[]
  resolved := Array.replicate 32 none
  statics := none }

def pool2 : Array CpInfo := pool [(1, .class_ 2), (0, u "com/example/twinsift/twinsift/cover/Varint"), (1, .class_ 6), (1, u "java/lang/Object"), (0, u "<init>"), (0, u "()V"), (14, u "read"), (0, u "([BI)J"), (0, u "BITS"), (0, u "I"), (2, u "LOW"), (1, u "MOST_BYTES"), (1, u "MORE")] 14

def k2m0 : Method := { name := "<init>", desc := "()V", sig := { parameters := [], returnType := none }, accessFlags := 2, code := none }
def k2c1 : Code := { maxStack := 4, maxLocals := 6, code := prog_55_method_4_code, exceptionTable := #[], attributes := #[] }
def k2m1 : Method := { name := "read", desc := "([BI)J", sig := { parameters := [(.array .byte), .int], returnType := some .long }, accessFlags := 8, code := some k2c1 }
/-- com/example/twinsift/twinsift/cover/Varint -/
def k2 : Class := { plain "com/example/twinsift/twinsift/cover/Varint" (some 0) with
  accessFlags := 48
  interfaces := #[]
  cf := some (fileOf pool2 1 #[] #[{ accessFlags := 2, nameIndex := 7, descriptorIndex := 8, attributes := #[] }, { accessFlags := 8, nameIndex := 23, descriptorIndex := 24, attributes := #[] }] 48 4 #[] #[{ accessFlags := 26, nameIndex := 25, descriptorIndex := 26, attributes := #[] }, { accessFlags := 26, nameIndex := 29, descriptorIndex := 26, attributes := #[] }, { accessFlags := 24, nameIndex := 31, descriptorIndex := 26, attributes := #[] }, { accessFlags := 26, nameIndex := 33, descriptorIndex := 26, attributes := #[] }])
  fields := #[{ name := "BITS", type := .int, accessFlags := 26, slot := 0, constantValue := 0 }, { name := "LOW", type := .int, accessFlags := 26, slot := 1, constantValue := 0 }, { name := "MOST_BYTES", type := .int, accessFlags := 24, slot := 2, constantValue := 0 }, { name := "MORE", type := .int, accessFlags := 26, slot := 3, constantValue := 0 }]
  methods := #[k2m0, k2m1]
  instanceTypes := #[]
  staticTypes := #[.int, .int, .int, .int]
  resolved := Array.replicate 48 none
  statics := none }

def pool3 : Array CpInfo := pool [(1, u "java/lang/Cloneable"), (0, .class_ 1), (0, u "java/lang/Object"), (0, .class_ 3)] 3

/-- java/lang/Cloneable -/
def k3 : Class := { plain "java/lang/Cloneable" (some 0) with
  accessFlags := 1537
  interfaces := #[]
  cf := some (fileOf pool3 2 #[] #[] 1537 4 #[] #[])
  fields := #[]
  methods := #[]
  instanceTypes := #[]
  staticTypes := #[]
  resolved := Array.replicate 8 none
  statics := none }

def pool4 : Array CpInfo := pool [(1, u "java/io/Serializable"), (0, .class_ 1), (0, u "java/lang/Object"), (0, .class_ 3)] 3

/-- java/io/Serializable -/
def k4 : Class := { plain "java/io/Serializable" (some 0) with
  accessFlags := 1537
  interfaces := #[]
  cf := some (fileOf pool4 2 #[] #[] 1537 4 #[] #[])
  fields := #[]
  methods := #[]
  instanceTypes := #[]
  staticTypes := #[]
  resolved := Array.replicate 8 none
  statics := none }

/-- the primitive byte -/
def k5 : Class := { plain "byte" none with kind := .primitive 'B', accessFlags := 0x411 }
/-- [B -/
def k6 : Class := { plain "[B" (some 0) with kind := .array 5 .byte, interfaces := #[3, 4], accessFlags := 1041 }

/-- the primitive int -/
def k7 : Class := { plain "int" none with kind := .primitive 'I', accessFlags := 0x411 }
/-- [I -/
def k8 : Class := { plain "[I" (some 0) with kind := .array 7 .int, interfaces := #[3, 4], accessFlags := 1041 }

def heap : Heap := #[]
def classes : Array Class := #[k0, k1, k2, k3, k4, k5, k6, k7, k8]
def interned : List (Array UInt16 × Addr) := []
def slotsUsed : Nat := 0
def theMethod : MethodId := ⟨1, 1⟩
def args0 : Array Value := #[.int 4, .int 85, .int 28]
def aboutOver (below : List Frame) : State where
  vm := { classes := classes, interned := interned.toArray }
  heap := heap
  slotsUsed := slotsUsed
  threads := #[{ frames := .invoking theMethod args0 :: below }]
def below0 : List Frame := [.native { method := ⟨0, 0⟩, args := #[] }]
def about1 : State := aboutOver below0
def p0 : Program := .bare "" "" ""
def e0 : Env := launch0.env 0 0 0
theorem w_frames : about1.frames = Frame.invoking theMethod args0 :: below0 := rfl
set_option maxRecDepth 65536 in
theorem w_args : argsFit about1.vm theMethod args0 = true := by decide +kernel
set_option maxRecDepth 65536 in
theorem w_heap : heapFits about1 = true := by decide +kernel
set_option maxRecDepth 65536 in
theorem w_runnable : about1.curStatus? = some .runnable := by decide +kernel
set_option maxRecDepth 65536 in
theorem w_alone : about1.alone = true := by decide +kernel
set_option maxRecDepth 65536 in
theorem w_named : about1.methodNamed? x = some theMethod := by decide +kernel
set_option maxRecDepth 65536 in
theorem w_hears : about1.hears theMethod below0 = true := by decide +kernel
set_option maxRecDepth 65536 in
theorem w_ripe : about1.ripe theMethod args0 below0 = true := by decide +kernel
theorem w_running : about1.status = .running := rfl
set_option maxRecDepth 65536 in
theorem w_room : about1.hasRoom e0.platform room_1 = true :=
  launch0.hasRoom_least _ room_1 (by decide +kernel) (by decide +kernel) (by decide +kernel) (by decide +kernel) (by decide +kernel) (by decide +kernel)
theorem allAtoms_all (ts : List Jvm.Cond) (a : Array Jvm.Value) (st : Jvm.State) : (allAtoms ts).before a st = ts.all (fun c => c.before a st) := by
  induction ts with
  | nil => rfl
  | cons c t ih =>
    show (Jvm.Cond.and c (allAtoms t)).before a st = _
    rw [Jvm.Cond.before_and, ih, List.all_cons]
def words1 : List Jvm.Cond := Jvm.Cond.code x code maxLocals ret :: tables_1
/-- a 'code' word, met by the world's own term for the bytes: nothing is compared byte by byte -/
theorem code_word {y : MethodName} {bytes : ByteArray} {mx : Nat} {rt : Option FieldType} {a : Array Value} {s : State} {m : MethodId} {meth : Method} {c : Code} (h1 : s.methodNamed? y = some m) (h2 : s.vm.method? m = some meth) (h3 : meth.code = some c) (h4 : c.code = bytes)
    (h5 : (c.maxLocals == mx && c.exceptionTable.isEmpty && decide (c.maxStack ≤ mostOperands) && decide (meth.sig.returnType = rt) && !meth.locks && decide (parseMethodDescriptor y.desc = some meth.sig)) = true) : (Jvm.Cond.code y bytes mx rt).before a s = true := by
  simp only [Bool.and_eq_true, beq_iff_eq, Bool.not_eq_true', decide_eq_true_eq] at h5
  obtain ⟨⟨⟨⟨⟨g1, g2⟩, g3⟩, g4⟩, g5⟩, g6⟩ := h5
  simp [Cond.before, Cond.holds, Cond.value, h1, h2, h3, h4, g1, g2, g3, g4, g5, g6]
def isCode : Jvm.Cond → Bool
  | .code _ _ _ _ => true
  | _ => false
theorem all_split {L : List Jvm.Cond} {P : Jvm.Cond → Bool} (h1 : L.all (fun c => isCode c || P c) = true) (h2 : ∀ c ∈ L.filter isCode, P c = true) : L.all P = true := by
  refine List.all_eq_true.mpr fun c hc => ?_
  have h := List.all_eq_true.mp h1 c hc
  rcases Bool.eq_false_or_eq_true (isCode c) with hi | hi
  · exact h2 c (List.mem_filter.mpr ⟨hc, hi⟩)
  · simpa [hi] using h
set_option maxRecDepth 65536 in
theorem w_c0 : (Jvm.Cond.code x code maxLocals ret).before args0 about1 = true := code_word (m := ⟨1, 1⟩) (meth := k1m1) (c := k1c1) (by decide +kernel) rfl rfl rfl (by decide +kernel)
set_option maxRecDepth 65536 in
theorem w_c1 : (Jvm.Cond.code ({ cls := "com/example/twinsift/twinsift/cover/Varint", name := "read", desc := "([BI)J" } : Jvm.MethodName) prog_55_method_4_code (6 : Nat) (Option.some Jvm.ClassFile.FieldType.long)).before args0 about1 = true := code_word (m := ⟨2, 1⟩) (meth := k2m1) (c := k2c1) (by decide +kernel) rfl rfl rfl (by decide +kernel)
def codes1 : List Jvm.Cond := [Jvm.Cond.code x code maxLocals ret, Jvm.Cond.code ({ cls := "com/example/twinsift/twinsift/cover/Varint", name := "read", desc := "([BI)J" } : Jvm.MethodName) prog_55_method_4_code (6 : Nat) (Option.some Jvm.ClassFile.FieldType.long)]
set_option maxRecDepth 65536 in
theorem codes_eq : words1.filter isCode = codes1 := rfl
theorem w_codes : ∀ c ∈ words1.filter isCode, c.before args0 about1 = true := by
  rw [codes_eq]
  intro c hc
  simp only [codes1, List.mem_cons, List.not_mem_nil, or_false] at hc
  rcases hc with rfl | rfl
  · exact w_c0
  · exact w_c1
set_option maxRecDepth 65536 in
theorem w_t1 : words1.all (fun c => isCode c || c.before args0 about1) = true := by decide +kernel
theorem w_tables : (allAtoms (Jvm.Cond.code x code maxLocals ret :: tables_1)).before args0 about1 = true := by
  rw [allAtoms_all]
  show words1.all (fun c => c.before args0 about1) = true
  refine all_split ?_ w_codes
  rw [w_t1]
set_option maxRecDepth 65536 in
theorem w_case : (Jvm.Cond.and given_1 narrow_1).before args0 about1 = true := by decide +kernel
theorem w_applies : (headSpec (Jvm.Cond.code x code maxLocals ret :: tables_1) room_1).applies x e0.platform about1 = true :=
  (Spec.applies_iff w_frames).mpr ⟨w_running, w_runnable, w_alone, w_named, w_hears, w_ripe, w_room, w_tables⟩
theorem atStart : AtStart classFile x code maxLocals ret World_1 tables_1 room_1 Calls_1 rest_1 Pre_1 launch0 p0 e0 about1 theMethod args0 below0 :=
  ⟨lists_1, trivial, launch0.admits_env _ _ _, launch0.least_env, fairChoices_fair.cas, fairChoices_fair.clock, w_frames, w_args, w_heap, w_applies, trivial, trivial, w_case⟩
end start1
theorem witness_1 : WitnessClaimed_1 := ⟨start1.p0, start1.e0, start1.about1, start1.theMethod, start1.args0, start1.below0, start1.atStart⟩
end Jvm.Pilot.@@N@@
