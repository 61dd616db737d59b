import JvmDerived
import JvmDerived.Pilot.@@N@@Statement
import JvmDerived.Pilot.@@N@@Code
set_option linter.unusedVariables false
set_option linter.unusedSimpArgs false
namespace Jvm.WK
open Sem ClassFile Op Lib Jvm.Stand Jvm.Free Jvm.LawKit Jvm.RoadKit
/-! ## 1. the context of one law's run, and what is known of its heap -/
/-- program, launch, environment, start, the law's arguments, the frames below, the law's own method, its String constants, no constant may be interned, room, the law's local variables -/
abbrev Cx := Program × Launch × Env × State × Array Value × List Frame × MethodId × List (String × Nat) × Bool × Room × Nat
def kp (κ : Cx) : Program := κ.1
def kl (κ : Cx) : Launch := κ.2.1
def ke (κ : Cx) : Env := κ.2.2.1
def kZ (κ : Cx) : State := κ.2.2.2.1
def ka (κ : Cx) : Array Value := κ.2.2.2.2.1
def kb (κ : Cx) : List Frame := κ.2.2.2.2.2.1
def km (κ : Cx) : MethodId := κ.2.2.2.2.2.2.1
def kE (κ : Cx) : List (String × Nat) := κ.2.2.2.2.2.2.2.1
def kS (κ : Cx) : Bool := κ.2.2.2.2.2.2.2.2.1
def kR (κ : Cx) : Room := κ.2.2.2.2.2.2.2.2.2.1
def kx (κ : Cx) : Nat := κ.2.2.2.2.2.2.2.2.2.2
/-- a word of the tables -/
def Wd (κ : Cx) (d : Jvm.Cond) : Prop := d.before (ka κ) (kZ κ) = true
/-- the method called y has these bytes -/
def Meth (κ : Cx) (y : MethodName) (bytes : ByteArray) (mx : Nat) (rt : Option FieldType) : Prop := plainFor y = true ∧ Wd κ (.code y bytes mx rt)
def mid (κ : Cx) (y : MethodName) : MethodId := ((kZ κ).methodNamed? y).getD ⟨0, 0⟩
def fr (κ : Cx) (y : MethodName) (pc : Nat) (L : List Slot) (S : List Value) : Frame := .java (mkF (mid κ y) pc L.toArray S)
def cats (S : List Value) : Nat := (S.map fun v => v.category).sum
def wt (F : List Frame) : Nat := stackWeight F
/-- a frame that waits for a callee's answer -/
def Waits (κ : Cx) (f : Frame) : Prop := ∃ (y : MethodName) (bytes : ByteArray) (rt : Option FieldType) (pc : Nat) (L : List Slot) (S : List Value) (i : Instr) (len : Nat), f = fr κ y pc L S ∧ Meth κ y bytes L.length rt ∧ decode bytes pc = .ok (i, len)
/-- room for so many frames more and so many words, over the frames F (which lie above the law's invoker's) -/
def Rm (κ : Cx) (F : List Frame) (d w : Nat) : Prop := F.length + d ≤ (kR κ).frames + 1 ∧ wt F + w ≤ (kR κ).locals + (kx κ + 11)
def Under (κ : Cx) (F : List Frame) : Prop := ∀ f ∈ F, Waits κ f
/-- address; may be written; an object (its class; its fields: declarer, name, descriptor, value) or an array (its components) -/
abbrev Chunk := Addr × Bool × (String × List (String × String × String × Value) ⊕ FieldType × List Value)
def fslot (κ : Cx) (f : String × String × String × Value) : Nat := RoadKit.slotOf (kZ κ) f.1 f.2.1 f.2.2.1
def Holds (κ : Cx) (h : Heap) : Chunk → Prop
  | (a, _, .inl (C, fs)) => Exa (kZ κ) h a C ∧ (∀ f ∈ fs, Fld (kZ κ) h a f.1 f.2.1 f.2.2.1 f.2.2.2) ∧ (fs.map (fslot κ)).Nodup
  | (a, _, .inr (ty, vs)) => ∃ c : Cell, Arr (kZ κ) h a c ty ∧ c.slots.toList = vs ∧ ∀ C, ty = .object C → Ovr (kZ κ) c.cls C
def key (x : Chunk) : Addr × Bool := (x.1, x.2.1)
def Apart (x y : Addr × Bool) : Prop := (x.2 = true ∨ y.2 = true) → x.1 ≠ y.1
def Hp (κ : Cx) (vm : Vm) (h : Heap) (l : List Chunk) : Prop :=
  (∀ x ∈ l, Holds κ h x) ∧ (l.map key).Pairwise Apart ∧ (∀ x ∈ l, x.2.1 = true → (kZ κ).heap.size ≤ x.1 ∧ Safe (kZ κ) (kE κ) vm h x.1)
/-- what is the same all along -/
def Ok (κ : Cx) : Prop :=
  (kl κ).admits (ke κ) ∧ FairCas (ke κ).choices ∧ FairClock (ke κ).choices ∧ (kp κ).tables.exec = Jvm.exec ∧ (kZ κ).frames = .invoking (km κ) (ka κ) :: kb κ ∧ (kZ κ).hasRoom (ke κ).platform (kR κ) = true ∧
    (kZ κ).hears (km κ) (kb κ) = true ∧ (kZ κ).status = .running ∧ (kZ κ).curStatus? = some .runnable ∧ (kZ κ).alone = true ∧ EW (kZ κ) (ka κ) (kE κ) ∧ ∃ (x : MethodName) (bytes : ByteArray), Meth κ x bytes (kx κ) (some .boolean) ∧ mid κ x = km κ
def Good (κ : Cx) (T : State) (y : MethodName) (pc : Nat) (L : List Slot) (S : List Value) (F : List Frame) (l : List Chunk) (k n : Nat) : Prop :=
  T.frames = fr κ y pc L S :: (F ++ kb κ) ∧ (kZ κ).sameButNew (T.setVm (kZ κ).vm) [] k n ∧ (kZ κ).Since T.vm T.heap.size ∧ (kS κ = true → (kZ κ).WarmedH T.vm) ∧ CHv (kZ κ) (kE κ) T.vm T.heap ∧ Hp κ T.vm T.heap l ∧
    k ≤ (kR κ).cells ∧ n ≤ (kR κ).slots ∧ Under κ F ∧ Rm κ F 1 (L.length + 11) ∧ ∃ bytes rt, Meth κ y bytes L.length rt
/-- the end that the law owes -/
def Ends (κ : Cx) (t : State) : Prop :=
  t.status = .running ∧ Ended t (kb κ) (.returned (some (.int 1))) ∧ (kZ κ).Since t.vm t.heap.size ∧ (kS κ = true → (kZ κ).WarmedH t.vm) ∧ (kZ κ).sameButNew { t with vm := (kZ κ).vm } [] (kR κ).cells (kR κ).slots
def Done (κ : Cx) (T : State) : Prop := ∃ t, Steps (kp κ).tables (ke κ) (kb κ) T t ∧ Ends κ t
/-- **from every state that looks like this the law comes to its end** -/
def WP (κ : Cx) (y : MethodName) (pc : Nat) (L : List Slot) (S : List Value) (F : List Frame) (l : List Chunk) (k n : Nat) : Prop := ∀ T, Good κ T y pc L S F l k n → Done κ T
/-! ## 2. small facts -/
theorem steps_weaken {tb : Tables} {e : Env} {mid below : List Frame} {a b : State} (h : Steps tb e (mid ++ below) a b) : Steps tb e below a b := by
  obtain ⟨n, hn, hw⟩ := h
  refine ⟨n, hn, fun k hk => ?_⟩
  obtain ⟨above, h1, h2, h3⟩ := hw k hk
  refine ⟨above ++ mid, by rw [h1, List.append_assoc], by simp [h2], fun x hx => ?_⟩
  cases above with
  | nil => exact h2 rfl
  | cons y r =>
    cases r with
    | nil => cases mid with
      | nil => exact h3 x (by simpa using hx)
      | cons _ _ => simp at hx
    | cons _ _ => simp at hx
theorem wt_nil : wt [] = 0 := rfl
theorem wt_cons (f : Frame) (F : List Frame) : wt (f :: F) = f.weight + wt F := by simp [wt, stackWeight]
theorem wt_append (F G : List Frame) : wt (F ++ G) = wt F + wt G := by simp [wt, stackWeight]
theorem fr_weight (κ : Cx) (y : MethodName) (pc : Nat) (L : List Slot) (S : List Value) : (fr κ y pc L S).weight = 11 + L.length + cats S := by simp [fr, Frame.weight, cats]
theorem Rm.mono {κ : Cx} {F : List Frame} {d w d' w' : Nat} (h : Rm κ F d w) (h1 : d' ≤ d) (h2 : w' ≤ w) : Rm κ F d' w' := ⟨by have := h.1; omega, by have := h.2; omega⟩
theorem Rm.push {κ : Cx} {F : List Frame} {d w d' w' : Nat} {y : MethodName} {pc : Nat} {L : List Slot} {S : List Value} (h : Rm κ F d w) (h1 : d' + 1 ≤ d) (h2 : w' + (11 + L.length + cats S) ≤ w) : Rm κ (fr κ y pc L S :: F) d' w' :=
  ⟨by have := h.1; simp only [List.length_cons]; omega, by have := h.2; rw [wt_cons, fr_weight]; omega⟩
theorem Meth.get {κ : Cx} {y : MethodName} {bytes : ByteArray} {mx : Nat} {rt : Option FieldType} (M : Meth κ y bytes mx rt) :
    ∃ (meth : Method) (c : Code), (kZ κ).methodNamed? y = some (mid κ y) ∧ (kZ κ).vm.method? (mid κ y) = some meth ∧ meth.code = some c ∧ c.code = bytes ∧ c.maxLocals = mx ∧ meth.sig.returnType = rt ∧ meth.locks = false ∧ c.exceptionTable.isEmpty = true ∧ parseMethodDescriptor y.desc = some meth.sig := by
  obtain ⟨m, hn⟩ := Cond.code_named M.2
  obtain ⟨meth, c, h1, h2, h3, h4, h5, h6, h7, h8⟩ := Cond.code_spec hn M.2
  have e : mid κ y = m := by simp [mid, hn]
  rw [e]
  exact ⟨meth, c, hn, h1, h2, h3, h4, h5, h6, h7, h8⟩
theorem Meth.cls {κ : Cx} {y : MethodName} {bytes : ByteArray} {mx : Nat} {rt : Option FieldType} (M : Meth κ y bytes mx rt) : (kZ κ).vm.findClass y.cls = some (mid κ y).cls := by
  obtain ⟨_, _, h, _⟩ := M.get
  exact findClass_of_methodNamed h
section G
variable {κ : Cx} {T : State} {y : MethodName} {pc : Nat} {L : List Slot} {S : List Value} {F : List Frame} {l : List Chunk} {k n : Nat} {bytes : ByteArray} {mx : Nat} {rt : Option FieldType}
theorem Good.alike (G : Good κ T y pc L S F l k n) : (kZ κ).vm.Alike T.vm := G.2.2.1.1.alike
theorem Good.warm (G : Good κ T y pc L S F l k n) : (kZ κ).Warmed39 T.vm := G.2.2.1.1
theorem Good.eqT (G : Good κ T y pc L S F l k n) : T.setVm (kZ κ).vm = { (kZ κ).setFrames T.frames with heap := T.heap, slotsUsed := T.slotsUsed } := G.2.1.1
theorem Good.status (G : Good κ T y pc L S F l k n) : T.status = (kZ κ).status := by
  have q := congrArg State.status G.eqT
  exact q
theorem Good.threads (G : Good κ T y pc L S F l k n) : T.threads = ((kZ κ).setFrames T.frames).threads := by
  have q := congrArg State.threads G.eqT
  exact q
theorem Good.curEq (G : Good κ T y pc L S F l k n) : T.cur = (kZ κ).cur := by
  have q := congrArg State.cur G.eqT
  exact q
theorem Good.curStatus (G : Good κ T y pc L S F l k n) : T.curStatus? = (kZ κ).curStatus? := by
  rw [← State.curStatus?_setFrames (kZ κ) T.frames]
  show (T.threads[T.cur]?).map _ = (((kZ κ).setFrames T.frames).threads[(kZ κ).cur]?).map _
  rw [G.threads, G.curEq]
theorem Good.alone (G : Good κ T y pc L S F l k n) : T.alone = (kZ κ).alone := by
  rw [← State.alone_setFrames (kZ κ) T.frames]
  show State.alone T = State.alone ((kZ κ).setFrames T.frames)
  unfold State.alone
  rw [G.threads, G.curEq]
  rfl
theorem Good.me (G : Good κ T y pc L S F l k n) : T.me = ((kZ κ).setFrames T.frames).me := by
  unfold State.me
  rw [G.threads, G.curEq]
  rfl
theorem Good.limits (G : Good κ T y pc L S F l k n) (pl : Platform) : pl.stackLimits T.me = pl.stackLimits (kZ κ).me := by rw [G.me, State.stackLimits_setFrames]
theorem Good.sbytes (G : Good κ T y pc L S F l k n) : T.me.stackBytes = (kZ κ).me.stackBytes := by rw [G.me, State.stackBytes_setFrames]
theorem Good.len (G : Good κ T y pc L S F l k n) (M : Meth κ y bytes mx rt) : L.length = mx := by
  obtain ⟨b', rt', M'⟩ := G.2.2.2.2.2.2.2.2.2.2
  obtain ⟨m1, c1, -, h1, h2, -, h3, -⟩ := M.get
  obtain ⟨m2, c2, -, g1, g2, -, g3, -⟩ := M'.get
  cases h1.symm.trans g1
  cases h2.symm.trans g2
  exact g3.symm.trans h3
theorem Good.hears (C : Ok κ) (G : Good κ T y pc L S F l k n) (m : MethodId) : T.hears m (F ++ kb κ) = true := by
  obtain ⟨-, -, -, -, -, -, hh, -, -, -, -, x, bx, Mx, hmx⟩ := C
  obtain ⟨m0, c0, -, q1, -, -, -, q5, -⟩ := Mx.get
  rw [hmx] at q1
  cases F with
  | cons f F' =>
    obtain ⟨yc, bc, rc, pcc, Lc, Sc, i, len, rfl, Mc, hd⟩ := G.2.2.2.2.2.2.2.2.1 f (by simp)
    obtain ⟨mc, cc, -, n2, n3, n4, -⟩ := Mc.get
    have hm : T.vm.method? (mid κ yc) = some mc := by rw [G.alike.method?]; exact n2
    show ((T.code? (mid κ yc)).bind fun c => (decode c.code pcc).toOption).isSome = true
    rw [State.code?_eq, hm]
    simp [n3, n4, hd, Except.toOption]
  | nil =>
    show T.hears m (kb κ) = true
    cases hb : kb κ with
    | nil => rw [hb] at hh; simp [State.hears, q1, q5] at hh
    | cons f r =>
      rw [hb] at hh
      cases f
      case java g =>
        have e : T.code? g.method = (kZ κ).code? g.method := by rw [State.code?_eq, State.code?_eq, G.alike.method?]
        show ((T.code? g.method).bind fun c => (decode c.code g.pc).toOption).isSome = true
        rw [e]; exact hh
      case native g => rfl
      case proc g => rfl
      all_goals (simp [State.hears, q1, q5] at hh)
abbrev base (κ : Cx) (T : State) (y : MethodName) (F : List Frame) : State := T.setFrames (.invoking (mid κ y) (ka κ) :: (F ++ kb κ))
theorem Good.stand (C : Ok κ) (G : Good κ T y pc L S F l k n) (M : Meth κ y bytes mx rt) {d w : Nat} (hR : Rm κ F (d + 1) (L.length + 11 + w)) :
    ∃ meth c, Stand (kp κ) (kl κ) (ke κ) ⟨d, (kR κ).cells - k, (kR κ).slots - n, w⟩ (base κ T y F) (mid κ y) (ka κ) (F ++ kb κ) meth c T [] 0 0 ∧ c.code = bytes ∧ c.maxLocals = L.length ∧ meth.sig.returnType = rt ∧ meth.locks = false ∧ parseMethodDescriptor y.desc = some meth.sig := by
  have eL := G.len M
  obtain ⟨meth, c, h1, h2, h3, h4, h5, h6, h7, -, h8⟩ := M.get
  have hf := G.1
  have hcur := State.cur_lt_of_frames hf
  have hal := G.alike
  have hm : T.vm.method? (mid κ y) = some meth := by rw [hal.method?]; exact h2
  have hH := G.hears C (mid κ y)
  obtain ⟨c1, c2, c3, c4, c5, c6, c7, c8, c9, c10, c11, x, bx, Mx, hmx⟩ := C
  obtain ⟨m0, c0, -, q1, q2, -, q4, q5, -⟩ := Mx.get
  rw [hmx] at q1
  have hname : T.methodNamed? y = some (mid κ y) := by
    have q : ((kZ κ).setVm T.vm).methodNamed? y = some (mid κ y) := by rw [State.methodNamed?_setVm hal]; exact h1
    exact q
  have hfs : (base κ T y F).frames = .invoking (mid κ y) (ka κ) :: (F ++ kb κ) := State.frames_setFrames _ hcur
  obtain ⟨t, ht, -⟩ := State.frames_cons hfs
  refine ⟨meth, c, ⟨c1, c2, c3, hfs, ?_, ?_, hm, h3, ⟨?_, ⟨[], by rw [hf]; rfl⟩, G.status.trans c8, G.curStatus.trans c9, G.alone.trans c10, ?_, ?_⟩, by rw [hf]; rfl, State.WarmedH.refl (base κ T y F), ?_, ?_, ?_⟩, h4, by rw [h5, eL], h6, h7, h8⟩
  · have r := c6
    have e1 := State.localsInUse_invoking c5 q1 q2
    have e2 := State.localsInUse_invoking (s := base κ T y F) hfs hm h3
    have e3 : stackWeight (F ++ kb κ) = wt F + stackWeight (kb κ) := wt_append F (kb κ)
    have b1 : (ke κ).platform.stackLimits (base κ T y F).me = (ke κ).platform.stackLimits (kZ κ).me := by rw [State.stackLimits_setFrames]; exact G.limits _
    have b2 : (base κ T y F).me.stackBytes = (kZ κ).me.stackBytes := by rw [State.stackBytes_setFrames]; exact G.sbytes
    have b3 : (base κ T y F).slotsTrue = true := by
      simp only [State.hasRoom, Bool.and_eq_true] at r
      have q := State.slotsTrue_of_sameButNew r.2 G.2.1
      exact q
    have b4 : (base κ T y F).heap.size ≤ (kZ κ).heap.size + k := G.2.1.2.2.1
    have b5 : (base κ T y F).slotsUsed ≤ (kZ κ).slotsUsed + n := by
      have u1 : T.slotsUsed = (kZ κ).slotsUsed + _ := G.2.1.2.2.2.1
      have u2 := G.2.1.2.2.2.2.1
      show T.slotsUsed ≤ _
      rw [u1]; exact Nat.add_le_add_left u2 _
    have b6 := G.2.2.2.2.2.2.1
    have b7 := G.2.2.2.2.2.2.2.1
    have b8 : (base κ T y F).frames.length = F.length + (kb κ).length + 1 := by rw [hfs]; simp
    have b9 : (kZ κ).frames.length = (kb κ).length + 1 := by rw [c5]; simp
    have r1 := hR.1
    have r2 := hR.2
    simp only [State.hasRoom, Bool.and_eq_true, decide_eq_true_eq] at r ⊢
    rw [e1, b9] at r
    rw [e2, e3, b8, b1, b2]
    rw [h5, ← eL]
    rw [q4] at r
    refine ⟨⟨⟨⟨?_, ⟨?_, ?_, ?_, ?_, r.1.1.1.2.2.2.2.2⟩⟩, ?_⟩, ?_⟩, b3⟩
    · have := r.1.1.1.1; omega
    · have := r.1.1.1.2.1; omega
    · have := r.1.1.1.2.2.1; omega
    · have := r.1.1.1.2.2.2.1; omega
    · have := r.1.1.1.2.2.2.2.1; omega
    · have := r.1.1.2; omega
    · have := r.1.2; omega
  · have e : (base κ T y F).hears (mid κ y) (F ++ kb κ) = T.hears (mid κ y) (F ++ kb κ) := by
      cases F ++ kb κ with
      | nil => rfl
      | cons f r => cases f <;> rfl
    rw [e]; exact hH
  · rw [State.topJava?_of_frames hf]; rfl
  · rw [State.code?_eq, hm]; simp [h3]
  · exact State.plainMethod.of_named M.1 hname hm
  · rw [State.stackLimits_setFrames]
  · rw [State.stackBytes_setFrames]
  · have q := (State.sameButNew.refl (base κ T y F) ht).setFrames T.frames (State.cur_lt_of_frames hfs)
    have e : (base κ T y F).setFrames T.frames = T := by
      show (T.setFrames _).setFrames T.frames = T
      rw [State.setFrames_setFrames, hf]
      have e2 := State.setTop_of_frames (mkF (mid κ y) pc L.toArray S) hf
      rw [State.setTop_self (State.topJava?_of_frames hf)] at e2
      exact e2.symm
    rw [e] at q
    exact q
end G
end Jvm.WK
namespace Jvm.WK
open Sem ClassFile Op Lib Jvm.Stand Jvm.Free Jvm.LawKit Jvm.RoadKit
/-! ## 3. the instructions that touch the frame alone, by evaluation -/
abbrev Pr := Option (Nat × List Slot × List Value)
def pK (len w pc : Nat) (L : List Slot) (S : List Value) (v : Value) : Pr := if len = w then some (pc + w, L, v :: S) else none
def kindOf : Value → Nat
  | .int _ => 0
  | .long _ => 1
  | .null => 2
  | .ref _ => 2
  | _ => 9
def pLd (len w pc : Nat) (L : List Slot) (S : List Value) (k kd : Nat) : Pr := match L[k]? with
  | some (.val v) => if len = w ∧ kindOf v = kd then some (pc + w, L, v :: S) else none
  | _ => none
def pSt (len w pc : Nat) (L : List Slot) (S : List Value) (k kd : Nat) : Pr := match S with
  | v :: r => if len = w ∧ kindOf v = kd then (match storeLocals L.toArray k v with
    | some l' => if l'.size = L.length then some (pc + w, l'.toList, r) else none
    | none => none) else none
  | [] => none
def pInc (len pc : Nat) (L : List Slot) (S : List Value) (k : Nat) (cst : Int) : Pr := match L[k]? with
  | some (.val (.int x)) => if len = 3 then (match storeLocals L.toArray k (.int (x + Int32.ofInt cst)) with
    | some l' => if l'.size = L.length then some (pc + 3, l'.toList, S) else none
    | none => none) else none
  | _ => none
def pI2 (len pc : Nat) (L : List Slot) (S : List Value) (f : Int32 → Int32 → Int32) : Pr := match S with
  | .int y :: .int x :: r => if len = 1 then some (pc + 1, L, .int (f x y) :: r) else none
  | _ => none
def pL2 (len pc : Nat) (L : List Slot) (S : List Value) (f : Int64 → Int64 → Value) : Pr := match S with
  | .long y :: .long x :: r => if len = 1 then some (pc + 1, L, f x y :: r) else none
  | _ => none
def pLI (len pc : Nat) (L : List Slot) (S : List Value) (f : Int64 → Int32 → Int64) : Pr := match S with
  | .int y :: .long x :: r => if len = 1 then some (pc + 1, L, .long (f x y) :: r) else none
  | _ => none
def pI1 (len pc : Nat) (L : List Slot) (S : List Value) (f : Int32 → Value) : Pr := match S with
  | .int x :: r => if len = 1 then some (pc + 1, L, f x :: r) else none
  | _ => none
def pL1 (len pc : Nat) (L : List Slot) (S : List Value) (f : Int64 → Value) : Pr := match S with
  | .long x :: r => if len = 1 then some (pc + 1, L, f x :: r) else none
  | _ => none
def pPop (len pc : Nat) (L : List Slot) (S : List Value) : Pr := match S with
  | x :: r => if len = 1 ∧ x.category = 1 then some (pc + 1, L, r) else none
  | _ => none
def pDup (len pc : Nat) (L : List Slot) (S : List Value) : Pr := match S with
  | x :: r => if len = 1 ∧ x.category = 1 then some (pc + 1, L, x :: x :: r) else none
  | _ => none
def pDupX1 (len pc : Nat) (L : List Slot) (S : List Value) : Pr := match S with
  | x :: y :: r => if len = 1 ∧ x.category = 1 ∧ y.category = 1 then some (pc + 1, L, x :: y :: x :: r) else none
  | _ => none
def pDup2 (len pc : Nat) (L : List Slot) (S : List Value) : Pr := match S with
  | .long x :: r => if len = 1 then some (pc + 1, L, .long x :: .long x :: r) else none
  | x :: y :: r => if len = 1 ∧ x.category = 1 ∧ y.category = 1 then some (pc + 1, L, x :: y :: x :: y :: r) else none
  | _ => none
def pGo (len pc : Nat) (L : List Slot) (S : List Value) (o : Int) : Pr := if len = 3 ∧ 0 ≤ (pc : Int) + o then some (((pc : Int) + o).toNat, L, S) else none
/-- one instruction of the frame's own -/
def ps (i : Instr) (len pc : Nat) (L : List Slot) (S : List Value) : Pr := match i with
  | .iconst v => pK len 1 pc L S (.int (Int32.ofInt v))
  | .bipush v => pK len 2 pc L S (.int (Int8.ofInt v).toInt32)
  | .sipush v => pK len 3 pc L S (.int (Int16.ofInt v).toInt32)
  | .lconst k => pK len 1 pc L S (.long (Int64.ofNat k))
  | .aconst_null => pK len 1 pc L S .null
  | .iload_n k => pLd len 1 pc L S k.val 0
  | .iload k => pLd len 2 pc L S k 0
  | .lload_n k => pLd len 1 pc L S k.val 1
  | .lload k => pLd len 2 pc L S k 1
  | .aload_n k => pLd len 1 pc L S k.val 2
  | .aload k => pLd len 2 pc L S k 2
  | .istore_n k => pSt len 1 pc L S k.val 0
  | .istore k => pSt len 2 pc L S k 0
  | .lstore_n k => pSt len 1 pc L S k.val 1
  | .lstore k => pSt len 2 pc L S k 1
  | .astore_n k => pSt len 1 pc L S k.val 2
  | .astore k => pSt len 2 pc L S k 2
  | .iinc k cst => pInc len pc L S k cst
  | .iadd => pI2 len pc L S (fun x y => x + y)
  | .isub => pI2 len pc L S (fun x y => x - y)
  | .imul => pI2 len pc L S (fun x y => x * y)
  | .iand => pI2 len pc L S (fun x y => x &&& y)
  | .ior => pI2 len pc L S (fun x y => x ||| y)
  | .ixor => pI2 len pc L S (fun x y => x ^^^ y)
  | .ishl => pI2 len pc L S (fun x y => x <<< (y &&& 31))
  | .ishr => pI2 len pc L S (fun x y => x >>> (y &&& 31))
  | .iushr => pI2 len pc L S (fun x y => XT.ushr x y)
  | .ladd => pL2 len pc L S (fun x y => .long (x + y))
  | .lsub => pL2 len pc L S (fun x y => .long (x - y))
  | .lmul => pL2 len pc L S (fun x y => .long (x * y))
  | .land => pL2 len pc L S (fun x y => .long (x &&& y))
  | .lor => pL2 len pc L S (fun x y => .long (x ||| y))
  | .lxor => pL2 len pc L S (fun x y => .long (x ^^^ y))
  | .lcmp => pL2 len pc L S (fun x y => .int (XT.cmpL x y))
  | .lshl => pLI len pc L S (fun x y => x <<< (y.toInt64 &&& 63))
  | .lshr => pLI len pc L S (fun x y => x >>> (y.toInt64 &&& 63))
  | .lushr => pLI len pc L S (fun x y => XT.ushrL x y)
  | .i2l => pI1 len pc L S (fun x => .long x.toInt64)
  | .i2b => pI1 len pc L S (fun x => .int x.toInt8.toInt32)
  | .i2c => pI1 len pc L S (fun x => .int x.toUInt32.toUInt16.toUInt32.toInt32)
  | .i2s => pI1 len pc L S (fun x => .int x.toInt16.toInt32)
  | .ineg => pI1 len pc L S (fun x => .int (-x))
  | .l2i => pL1 len pc L S (fun x => .int x.toInt32)
  | .lneg => pL1 len pc L S (fun x => .long (-x))
  | .pop => pPop len pc L S
  | .dup => pDup len pc L S
  | .dup_x1 => pDupX1 len pc L S
  | .dup2 => pDup2 len pc L S
  | .goto o => pGo len pc L S o
  | _ => none
/-- a stretch of them -/
def runs : List (Instr × Nat) → Nat → List Slot → List Value → Pr
  | [], pc, L, S => some (pc, L, S)
  | (i, len) :: r, pc, L, S => match ps i len pc L S with
    | some (pc', L', S') => runs r pc' L' S'
    | none => none
/-- where it goes on -/
def npc (i : Instr) (len pc : Nat) : Nat := match i with
  | .goto o => ((pc : Int) + o).toNat
  | _ => pc + len
/-- the bytes hold that stretch from pc on -/
def seg (bytes : ByteArray) : List (Instr × Nat) → Nat → Bool
  | [], _ => true
  | (i, len) :: r, pc => (match decode bytes pc with
    | .ok (j, n) => decide (j = i ∧ n = len)
    | _ => false) && seg bytes r (npc i len pc)
section P
variable {tb : Tables} [Ours tb] {e : Env} {below : List Frame} {T : State} {m : MethodId} {c : Code} {pc len : Nat} {L L' : List Slot} {S S' : List Value} {pc' : Nat}
theorem kind0 {v : Value} (h : kindOf v = 0) : ∃ x, v = .int x := by cases v <;> simp [kindOf] at h ⊢
theorem kind1 {v : Value} (h : kindOf v = 1) : ∃ x, v = .long x := by cases v <;> simp [kindOf] at h ⊢
theorem kind2 {v : Value} (h : kindOf v = 2) : v.isRef = true := by cases v <;> simp [kindOf, Value.isRef] at h ⊢
theorem toA {k : Nat} {o : Option Slot} (h : L[k]? = o) : L.toArray[k]? = o := by simpa using h
theorem s_nop1 (h : At T m c below) (hx : tb.exec = Jvm.exec) {v : Int} (hd : decode c.code pc = .ok (.iconst v, len)) (hp : ps (.iconst v) len pc L S = some (pc', L', S')) : Steps tb e below (T.setTop (mkF m pc L.toArray S)) (T.setTop (mkF m pc' L'.toArray S')) ∧ L'.length = L.length ∧ npc (.iconst v) len pc = pc' := by
  simp only [ps, pK] at hp
  split at hp
  · rename_i hc
    subst hc
    cases hp
    exact ⟨XS.iconst h hx rfl hd (Steps.refl _), rfl, rfl⟩
  · cases hp
theorem s_bipush (h : At T m c below) (hx : tb.exec = Jvm.exec) {v : Int} (hd : decode c.code pc = .ok (.bipush v, len)) (hp : ps (.bipush v) len pc L S = some (pc', L', S')) : Steps tb e below (T.setTop (mkF m pc L.toArray S)) (T.setTop (mkF m pc' L'.toArray S')) ∧ L'.length = L.length ∧ npc (.bipush v) len pc = pc' := by
  simp only [ps, pK] at hp
  split at hp
  · rename_i hc
    subst hc
    cases hp
    exact ⟨XS.bipush h hx rfl hd (Steps.refl _), rfl, rfl⟩
  · cases hp
theorem s_sipush (h : At T m c below) (hx : tb.exec = Jvm.exec) {v : Int} (hd : decode c.code pc = .ok (.sipush v, len)) (hp : ps (.sipush v) len pc L S = some (pc', L', S')) : Steps tb e below (T.setTop (mkF m pc L.toArray S)) (T.setTop (mkF m pc' L'.toArray S')) ∧ L'.length = L.length ∧ npc (.sipush v) len pc = pc' := by
  simp only [ps, pK] at hp
  split at hp
  · rename_i hc
    subst hc
    cases hp
    exact ⟨XS.sipush h hx rfl hd (Steps.refl _), rfl, rfl⟩
  · cases hp
theorem s_lconst (h : At T m c below) (hx : tb.exec = Jvm.exec) {k : Fin 2} (hd : decode c.code pc = .ok (.lconst k, len)) (hp : ps (.lconst k) len pc L S = some (pc', L', S')) : Steps tb e below (T.setTop (mkF m pc L.toArray S)) (T.setTop (mkF m pc' L'.toArray S')) ∧ L'.length = L.length ∧ npc (.lconst k) len pc = pc' := by
  simp only [ps, pK] at hp
  split at hp
  · rename_i hc
    subst hc
    cases hp
    exact ⟨XT.lconst h hx rfl hd (Steps.refl _), rfl, rfl⟩
  · cases hp
theorem s_anull (h : At T m c below) (hx : tb.exec = Jvm.exec) (hd : decode c.code pc = .ok (.aconst_null, len)) (hp : ps (.aconst_null) len pc L S = some (pc', L', S')) : Steps tb e below (T.setTop (mkF m pc L.toArray S)) (T.setTop (mkF m pc' L'.toArray S')) ∧ L'.length = L.length ∧ npc (.aconst_null) len pc = pc' := by
  simp only [ps, pK] at hp
  split at hp
  · rename_i hc
    subst hc
    cases hp
    exact ⟨XS.aconstNull h hx rfl hd (Steps.refl _), rfl, rfl⟩
  · cases hp
theorem s_iloadN (h : At T m c below) (hx : tb.exec = Jvm.exec) {k : Fin 4} (hd : decode c.code pc = .ok (.iload_n k, len)) (hp : ps (.iload_n k) len pc L S = some (pc', L', S')) : Steps tb e below (T.setTop (mkF m pc L.toArray S)) (T.setTop (mkF m pc' L'.toArray S')) ∧ L'.length = L.length ∧ npc (.iload_n k) len pc = pc' := by
  simp only [ps, pLd] at hp
  split at hp
  · rename_i v hv
    split at hp
    · rename_i hc
      obtain ⟨rfl, hk⟩ := hc
      cases hp
      obtain ⟨x, rfl⟩ := kind0 hk
      exact ⟨XS.iloadN h hx rfl hd (toA hv) (Steps.refl _), rfl, rfl⟩
    · cases hp
  · cases hp
theorem s_iload (h : At T m c below) (hx : tb.exec = Jvm.exec) {k : Nat} (hd : decode c.code pc = .ok (.iload k, len)) (hp : ps (.iload k) len pc L S = some (pc', L', S')) : Steps tb e below (T.setTop (mkF m pc L.toArray S)) (T.setTop (mkF m pc' L'.toArray S')) ∧ L'.length = L.length ∧ npc (.iload k) len pc = pc' := by
  simp only [ps, pLd] at hp
  split at hp
  · rename_i v hv
    split at hp
    · rename_i hc
      obtain ⟨rfl, hk⟩ := hc
      cases hp
      obtain ⟨x, rfl⟩ := kind0 hk
      exact ⟨XS.iload h hx rfl hd (toA hv) (Steps.refl _), rfl, rfl⟩
    · cases hp
  · cases hp
theorem s_lloadN (h : At T m c below) (hx : tb.exec = Jvm.exec) {k : Fin 4} (hd : decode c.code pc = .ok (.lload_n k, len)) (hp : ps (.lload_n k) len pc L S = some (pc', L', S')) : Steps tb e below (T.setTop (mkF m pc L.toArray S)) (T.setTop (mkF m pc' L'.toArray S')) ∧ L'.length = L.length ∧ npc (.lload_n k) len pc = pc' := by
  simp only [ps, pLd] at hp
  split at hp
  · rename_i v hv
    split at hp
    · rename_i hc
      obtain ⟨rfl, hk⟩ := hc
      cases hp
      obtain ⟨x, rfl⟩ := kind1 hk
      exact ⟨XT.lloadN h hx rfl hd (toA hv) (Steps.refl _), rfl, rfl⟩
    · cases hp
  · cases hp
theorem s_lload (h : At T m c below) (hx : tb.exec = Jvm.exec) {k : Nat} (hd : decode c.code pc = .ok (.lload k, len)) (hp : ps (.lload k) len pc L S = some (pc', L', S')) : Steps tb e below (T.setTop (mkF m pc L.toArray S)) (T.setTop (mkF m pc' L'.toArray S')) ∧ L'.length = L.length ∧ npc (.lload k) len pc = pc' := by
  simp only [ps, pLd] at hp
  split at hp
  · rename_i v hv
    split at hp
    · rename_i hc
      obtain ⟨rfl, hk⟩ := hc
      cases hp
      obtain ⟨x, rfl⟩ := kind1 hk
      exact ⟨XT.lload h hx rfl hd (toA hv) (Steps.refl _), rfl, rfl⟩
    · cases hp
  · cases hp
theorem s_aloadN (h : At T m c below) (hx : tb.exec = Jvm.exec) {k : Fin 4} (hd : decode c.code pc = .ok (.aload_n k, len)) (hp : ps (.aload_n k) len pc L S = some (pc', L', S')) : Steps tb e below (T.setTop (mkF m pc L.toArray S)) (T.setTop (mkF m pc' L'.toArray S')) ∧ L'.length = L.length ∧ npc (.aload_n k) len pc = pc' := by
  simp only [ps, pLd] at hp
  split at hp
  · rename_i v hv
    split at hp
    · rename_i hc
      obtain ⟨rfl, hk⟩ := hc
      cases hp
      exact ⟨XS.aloadN h hx rfl hd (toA hv) (kind2 hk) (Steps.refl _), rfl, rfl⟩
    · cases hp
  · cases hp
theorem s_aload (h : At T m c below) (hx : tb.exec = Jvm.exec) {k : Nat} (hd : decode c.code pc = .ok (.aload k, len)) (hp : ps (.aload k) len pc L S = some (pc', L', S')) : Steps tb e below (T.setTop (mkF m pc L.toArray S)) (T.setTop (mkF m pc' L'.toArray S')) ∧ L'.length = L.length ∧ npc (.aload k) len pc = pc' := by
  simp only [ps, pLd] at hp
  split at hp
  · rename_i v hv
    split at hp
    · rename_i hc
      obtain ⟨rfl, hk⟩ := hc
      cases hp
      exact ⟨XS.aload h hx rfl hd (toA hv) (kind2 hk) (Steps.refl _), rfl, rfl⟩
    · cases hp
  · cases hp
theorem s_istoreN (h : At T m c below) (hx : tb.exec = Jvm.exec) {k : Fin 4} (hd : decode c.code pc = .ok (.istore_n k, len)) (hp : ps (.istore_n k) len pc L S = some (pc', L', S')) : Steps tb e below (T.setTop (mkF m pc L.toArray S)) (T.setTop (mkF m pc' L'.toArray S')) ∧ L'.length = L.length ∧ npc (.istore_n k) len pc = pc' := by
  simp only [ps, pSt] at hp
  split at hp
  · split at hp
    · rename_i hc
      obtain ⟨rfl, hk⟩ := hc
      split at hp
      · rename_i l' hl
        split at hp
        · rename_i hs
          cases hp
          obtain ⟨x, rfl⟩ := kind0 hk
          exact ⟨XS.istoreN h hx rfl hd rfl hl (Steps.refl _), by simpa using hs, rfl⟩
        · cases hp
      · cases hp
    · cases hp
  · cases hp
theorem s_istore (h : At T m c below) (hx : tb.exec = Jvm.exec) {k : Nat} (hd : decode c.code pc = .ok (.istore k, len)) (hp : ps (.istore k) len pc L S = some (pc', L', S')) : Steps tb e below (T.setTop (mkF m pc L.toArray S)) (T.setTop (mkF m pc' L'.toArray S')) ∧ L'.length = L.length ∧ npc (.istore k) len pc = pc' := by
  simp only [ps, pSt] at hp
  split at hp
  · split at hp
    · rename_i hc
      obtain ⟨rfl, hk⟩ := hc
      split at hp
      · rename_i l' hl
        split at hp
        · rename_i hs
          cases hp
          obtain ⟨x, rfl⟩ := kind0 hk
          exact ⟨XS.istore h hx rfl hd rfl hl (Steps.refl _), by simpa using hs, rfl⟩
        · cases hp
      · cases hp
    · cases hp
  · cases hp
theorem s_lstoreN (h : At T m c below) (hx : tb.exec = Jvm.exec) {k : Fin 4} (hd : decode c.code pc = .ok (.lstore_n k, len)) (hp : ps (.lstore_n k) len pc L S = some (pc', L', S')) : Steps tb e below (T.setTop (mkF m pc L.toArray S)) (T.setTop (mkF m pc' L'.toArray S')) ∧ L'.length = L.length ∧ npc (.lstore_n k) len pc = pc' := by
  simp only [ps, pSt] at hp
  split at hp
  · split at hp
    · rename_i hc
      obtain ⟨rfl, hk⟩ := hc
      split at hp
      · rename_i l' hl
        split at hp
        · rename_i hs
          cases hp
          obtain ⟨x, rfl⟩ := kind1 hk
          exact ⟨XT.lstoreN h hx rfl hd rfl hl (Steps.refl _), by simpa using hs, rfl⟩
        · cases hp
      · cases hp
    · cases hp
  · cases hp
theorem s_lstore (h : At T m c below) (hx : tb.exec = Jvm.exec) {k : Nat} (hd : decode c.code pc = .ok (.lstore k, len)) (hp : ps (.lstore k) len pc L S = some (pc', L', S')) : Steps tb e below (T.setTop (mkF m pc L.toArray S)) (T.setTop (mkF m pc' L'.toArray S')) ∧ L'.length = L.length ∧ npc (.lstore k) len pc = pc' := by
  simp only [ps, pSt] at hp
  split at hp
  · split at hp
    · rename_i hc
      obtain ⟨rfl, hk⟩ := hc
      split at hp
      · rename_i l' hl
        split at hp
        · rename_i hs
          cases hp
          obtain ⟨x, rfl⟩ := kind1 hk
          exact ⟨XT.lstore h hx rfl hd rfl hl (Steps.refl _), by simpa using hs, rfl⟩
        · cases hp
      · cases hp
    · cases hp
  · cases hp
theorem s_astoreN (h : At T m c below) (hx : tb.exec = Jvm.exec) {k : Fin 4} (hd : decode c.code pc = .ok (.astore_n k, len)) (hp : ps (.astore_n k) len pc L S = some (pc', L', S')) : Steps tb e below (T.setTop (mkF m pc L.toArray S)) (T.setTop (mkF m pc' L'.toArray S')) ∧ L'.length = L.length ∧ npc (.astore_n k) len pc = pc' := by
  simp only [ps, pSt] at hp
  split at hp
  · split at hp
    · rename_i hc
      obtain ⟨rfl, hk⟩ := hc
      split at hp
      · rename_i l' hl
        split at hp
        · rename_i hs
          cases hp
          exact ⟨XS.astoreN h hx rfl hd rfl (kind2 hk) hl (Steps.refl _), by simpa using hs, rfl⟩
        · cases hp
      · cases hp
    · cases hp
  · cases hp
theorem s_astore (h : At T m c below) (hx : tb.exec = Jvm.exec) {k : Nat} (hd : decode c.code pc = .ok (.astore k, len)) (hp : ps (.astore k) len pc L S = some (pc', L', S')) : Steps tb e below (T.setTop (mkF m pc L.toArray S)) (T.setTop (mkF m pc' L'.toArray S')) ∧ L'.length = L.length ∧ npc (.astore k) len pc = pc' := by
  simp only [ps, pSt] at hp
  split at hp
  · split at hp
    · rename_i hc
      obtain ⟨rfl, hk⟩ := hc
      split at hp
      · rename_i l' hl
        split at hp
        · rename_i hs
          cases hp
          exact ⟨XS.astore h hx rfl hd rfl (kind2 hk) hl (Steps.refl _), by simpa using hs, rfl⟩
        · cases hp
      · cases hp
    · cases hp
  · cases hp
theorem s_iinc (h : At T m c below) (hx : tb.exec = Jvm.exec) {k : Nat} {cst : Int} (hd : decode c.code pc = .ok (.iinc k cst, len)) (hp : ps (.iinc k cst) len pc L S = some (pc', L', S')) : Steps tb e below (T.setTop (mkF m pc L.toArray S)) (T.setTop (mkF m pc' L'.toArray S')) ∧ L'.length = L.length ∧ npc (.iinc k cst) len pc = pc' := by
  simp only [ps, pInc] at hp
  split at hp
  · rename_i x hv
    split at hp
    · rename_i hc
      subst hc
      split at hp
      · rename_i l' hl
        split at hp
        · rename_i hs
          cases hp
          exact ⟨XS.iinc h hx rfl hd (toA hv) hl (Steps.refl _), by simpa using hs, rfl⟩
        · cases hp
      · cases hp
    · cases hp
  · cases hp
theorem s_iadd (h : At T m c below) (hx : tb.exec = Jvm.exec) (hd : decode c.code pc = .ok (.iadd, len)) (hp : ps (.iadd) len pc L S = some (pc', L', S')) : Steps tb e below (T.setTop (mkF m pc L.toArray S)) (T.setTop (mkF m pc' L'.toArray S')) ∧ L'.length = L.length ∧ npc (.iadd) len pc = pc' := by
  simp only [ps, pI2] at hp
  split at hp
  · split at hp
    · rename_i hc
      subst hc
      cases hp
      exact ⟨XS.iadd h hx rfl hd rfl (Steps.refl _), rfl, rfl⟩
    · cases hp
  · cases hp
theorem s_isub (h : At T m c below) (hx : tb.exec = Jvm.exec) (hd : decode c.code pc = .ok (.isub, len)) (hp : ps (.isub) len pc L S = some (pc', L', S')) : Steps tb e below (T.setTop (mkF m pc L.toArray S)) (T.setTop (mkF m pc' L'.toArray S')) ∧ L'.length = L.length ∧ npc (.isub) len pc = pc' := by
  simp only [ps, pI2] at hp
  split at hp
  · split at hp
    · rename_i hc
      subst hc
      cases hp
      exact ⟨XS.isub h hx rfl hd rfl (Steps.refl _), rfl, rfl⟩
    · cases hp
  · cases hp
theorem s_imul (h : At T m c below) (hx : tb.exec = Jvm.exec) (hd : decode c.code pc = .ok (.imul, len)) (hp : ps (.imul) len pc L S = some (pc', L', S')) : Steps tb e below (T.setTop (mkF m pc L.toArray S)) (T.setTop (mkF m pc' L'.toArray S')) ∧ L'.length = L.length ∧ npc (.imul) len pc = pc' := by
  simp only [ps, pI2] at hp
  split at hp
  · split at hp
    · rename_i hc
      subst hc
      cases hp
      exact ⟨XS.imul h hx rfl hd rfl (Steps.refl _), rfl, rfl⟩
    · cases hp
  · cases hp
theorem s_iand (h : At T m c below) (hx : tb.exec = Jvm.exec) (hd : decode c.code pc = .ok (.iand, len)) (hp : ps (.iand) len pc L S = some (pc', L', S')) : Steps tb e below (T.setTop (mkF m pc L.toArray S)) (T.setTop (mkF m pc' L'.toArray S')) ∧ L'.length = L.length ∧ npc (.iand) len pc = pc' := by
  simp only [ps, pI2] at hp
  split at hp
  · split at hp
    · rename_i hc
      subst hc
      cases hp
      exact ⟨XS.iand h hx rfl hd rfl (Steps.refl _), rfl, rfl⟩
    · cases hp
  · cases hp
theorem s_ior (h : At T m c below) (hx : tb.exec = Jvm.exec) (hd : decode c.code pc = .ok (.ior, len)) (hp : ps (.ior) len pc L S = some (pc', L', S')) : Steps tb e below (T.setTop (mkF m pc L.toArray S)) (T.setTop (mkF m pc' L'.toArray S')) ∧ L'.length = L.length ∧ npc (.ior) len pc = pc' := by
  simp only [ps, pI2] at hp
  split at hp
  · split at hp
    · rename_i hc
      subst hc
      cases hp
      exact ⟨XT.ior h hx rfl hd rfl (Steps.refl _), rfl, rfl⟩
    · cases hp
  · cases hp
theorem s_ixor (h : At T m c below) (hx : tb.exec = Jvm.exec) (hd : decode c.code pc = .ok (.ixor, len)) (hp : ps (.ixor) len pc L S = some (pc', L', S')) : Steps tb e below (T.setTop (mkF m pc L.toArray S)) (T.setTop (mkF m pc' L'.toArray S')) ∧ L'.length = L.length ∧ npc (.ixor) len pc = pc' := by
  simp only [ps, pI2] at hp
  split at hp
  · split at hp
    · rename_i hc
      subst hc
      cases hp
      exact ⟨XT.ixor h hx rfl hd rfl (Steps.refl _), rfl, rfl⟩
    · cases hp
  · cases hp
theorem s_ishl (h : At T m c below) (hx : tb.exec = Jvm.exec) (hd : decode c.code pc = .ok (.ishl, len)) (hp : ps (.ishl) len pc L S = some (pc', L', S')) : Steps tb e below (T.setTop (mkF m pc L.toArray S)) (T.setTop (mkF m pc' L'.toArray S')) ∧ L'.length = L.length ∧ npc (.ishl) len pc = pc' := by
  simp only [ps, pI2] at hp
  split at hp
  · split at hp
    · rename_i hc
      subst hc
      cases hp
      exact ⟨XT.ishl h hx rfl hd rfl (Steps.refl _), rfl, rfl⟩
    · cases hp
  · cases hp
theorem s_ishr (h : At T m c below) (hx : tb.exec = Jvm.exec) (hd : decode c.code pc = .ok (.ishr, len)) (hp : ps (.ishr) len pc L S = some (pc', L', S')) : Steps tb e below (T.setTop (mkF m pc L.toArray S)) (T.setTop (mkF m pc' L'.toArray S')) ∧ L'.length = L.length ∧ npc (.ishr) len pc = pc' := by
  simp only [ps, pI2] at hp
  split at hp
  · split at hp
    · rename_i hc
      subst hc
      cases hp
      exact ⟨XT.ishr h hx rfl hd rfl (Steps.refl _), rfl, rfl⟩
    · cases hp
  · cases hp
theorem s_iushr (h : At T m c below) (hx : tb.exec = Jvm.exec) (hd : decode c.code pc = .ok (.iushr, len)) (hp : ps (.iushr) len pc L S = some (pc', L', S')) : Steps tb e below (T.setTop (mkF m pc L.toArray S)) (T.setTop (mkF m pc' L'.toArray S')) ∧ L'.length = L.length ∧ npc (.iushr) len pc = pc' := by
  simp only [ps, pI2] at hp
  split at hp
  · split at hp
    · rename_i hc
      subst hc
      cases hp
      exact ⟨XT.iushr h hx rfl hd rfl (Steps.refl _), rfl, rfl⟩
    · cases hp
  · cases hp
theorem s_ladd (h : At T m c below) (hx : tb.exec = Jvm.exec) (hd : decode c.code pc = .ok (.ladd, len)) (hp : ps (.ladd) len pc L S = some (pc', L', S')) : Steps tb e below (T.setTop (mkF m pc L.toArray S)) (T.setTop (mkF m pc' L'.toArray S')) ∧ L'.length = L.length ∧ npc (.ladd) len pc = pc' := by
  simp only [ps, pL2] at hp
  split at hp
  · split at hp
    · rename_i hc
      subst hc
      cases hp
      exact ⟨XT.ladd h hx rfl hd rfl (Steps.refl _), rfl, rfl⟩
    · cases hp
  · cases hp
theorem s_lsub (h : At T m c below) (hx : tb.exec = Jvm.exec) (hd : decode c.code pc = .ok (.lsub, len)) (hp : ps (.lsub) len pc L S = some (pc', L', S')) : Steps tb e below (T.setTop (mkF m pc L.toArray S)) (T.setTop (mkF m pc' L'.toArray S')) ∧ L'.length = L.length ∧ npc (.lsub) len pc = pc' := by
  simp only [ps, pL2] at hp
  split at hp
  · split at hp
    · rename_i hc
      subst hc
      cases hp
      exact ⟨XT.lsub h hx rfl hd rfl (Steps.refl _), rfl, rfl⟩
    · cases hp
  · cases hp
theorem s_lmul (h : At T m c below) (hx : tb.exec = Jvm.exec) (hd : decode c.code pc = .ok (.lmul, len)) (hp : ps (.lmul) len pc L S = some (pc', L', S')) : Steps tb e below (T.setTop (mkF m pc L.toArray S)) (T.setTop (mkF m pc' L'.toArray S')) ∧ L'.length = L.length ∧ npc (.lmul) len pc = pc' := by
  simp only [ps, pL2] at hp
  split at hp
  · split at hp
    · rename_i hc
      subst hc
      cases hp
      exact ⟨XT.lmul h hx rfl hd rfl (Steps.refl _), rfl, rfl⟩
    · cases hp
  · cases hp
theorem s_land (h : At T m c below) (hx : tb.exec = Jvm.exec) (hd : decode c.code pc = .ok (.land, len)) (hp : ps (.land) len pc L S = some (pc', L', S')) : Steps tb e below (T.setTop (mkF m pc L.toArray S)) (T.setTop (mkF m pc' L'.toArray S')) ∧ L'.length = L.length ∧ npc (.land) len pc = pc' := by
  simp only [ps, pL2] at hp
  split at hp
  · split at hp
    · rename_i hc
      subst hc
      cases hp
      exact ⟨XT.land h hx rfl hd rfl (Steps.refl _), rfl, rfl⟩
    · cases hp
  · cases hp
theorem s_lor (h : At T m c below) (hx : tb.exec = Jvm.exec) (hd : decode c.code pc = .ok (.lor, len)) (hp : ps (.lor) len pc L S = some (pc', L', S')) : Steps tb e below (T.setTop (mkF m pc L.toArray S)) (T.setTop (mkF m pc' L'.toArray S')) ∧ L'.length = L.length ∧ npc (.lor) len pc = pc' := by
  simp only [ps, pL2] at hp
  split at hp
  · split at hp
    · rename_i hc
      subst hc
      cases hp
      exact ⟨XT.lor h hx rfl hd rfl (Steps.refl _), rfl, rfl⟩
    · cases hp
  · cases hp
theorem s_lxor (h : At T m c below) (hx : tb.exec = Jvm.exec) (hd : decode c.code pc = .ok (.lxor, len)) (hp : ps (.lxor) len pc L S = some (pc', L', S')) : Steps tb e below (T.setTop (mkF m pc L.toArray S)) (T.setTop (mkF m pc' L'.toArray S')) ∧ L'.length = L.length ∧ npc (.lxor) len pc = pc' := by
  simp only [ps, pL2] at hp
  split at hp
  · split at hp
    · rename_i hc
      subst hc
      cases hp
      exact ⟨XT.lxor h hx rfl hd rfl (Steps.refl _), rfl, rfl⟩
    · cases hp
  · cases hp
theorem s_lcmp (h : At T m c below) (hx : tb.exec = Jvm.exec) (hd : decode c.code pc = .ok (.lcmp, len)) (hp : ps (.lcmp) len pc L S = some (pc', L', S')) : Steps tb e below (T.setTop (mkF m pc L.toArray S)) (T.setTop (mkF m pc' L'.toArray S')) ∧ L'.length = L.length ∧ npc (.lcmp) len pc = pc' := by
  simp only [ps, pL2] at hp
  split at hp
  · split at hp
    · rename_i hc
      subst hc
      cases hp
      exact ⟨XT.lcmp h hx rfl hd rfl (Steps.refl _), rfl, rfl⟩
    · cases hp
  · cases hp
theorem s_lshl (h : At T m c below) (hx : tb.exec = Jvm.exec) (hd : decode c.code pc = .ok (.lshl, len)) (hp : ps (.lshl) len pc L S = some (pc', L', S')) : Steps tb e below (T.setTop (mkF m pc L.toArray S)) (T.setTop (mkF m pc' L'.toArray S')) ∧ L'.length = L.length ∧ npc (.lshl) len pc = pc' := by
  simp only [ps, pLI] at hp
  split at hp
  · split at hp
    · rename_i hc
      subst hc
      cases hp
      exact ⟨XT.lshl h hx rfl hd rfl (Steps.refl _), rfl, rfl⟩
    · cases hp
  · cases hp
theorem s_lshr (h : At T m c below) (hx : tb.exec = Jvm.exec) (hd : decode c.code pc = .ok (.lshr, len)) (hp : ps (.lshr) len pc L S = some (pc', L', S')) : Steps tb e below (T.setTop (mkF m pc L.toArray S)) (T.setTop (mkF m pc' L'.toArray S')) ∧ L'.length = L.length ∧ npc (.lshr) len pc = pc' := by
  simp only [ps, pLI] at hp
  split at hp
  · split at hp
    · rename_i hc
      subst hc
      cases hp
      exact ⟨XT.lshr h hx rfl hd rfl (Steps.refl _), rfl, rfl⟩
    · cases hp
  · cases hp
theorem s_lushr (h : At T m c below) (hx : tb.exec = Jvm.exec) (hd : decode c.code pc = .ok (.lushr, len)) (hp : ps (.lushr) len pc L S = some (pc', L', S')) : Steps tb e below (T.setTop (mkF m pc L.toArray S)) (T.setTop (mkF m pc' L'.toArray S')) ∧ L'.length = L.length ∧ npc (.lushr) len pc = pc' := by
  simp only [ps, pLI] at hp
  split at hp
  · split at hp
    · rename_i hc
      subst hc
      cases hp
      exact ⟨XT.lushr h hx rfl hd rfl (Steps.refl _), rfl, rfl⟩
    · cases hp
  · cases hp
theorem s_i2l (h : At T m c below) (hx : tb.exec = Jvm.exec) (hd : decode c.code pc = .ok (.i2l, len)) (hp : ps (.i2l) len pc L S = some (pc', L', S')) : Steps tb e below (T.setTop (mkF m pc L.toArray S)) (T.setTop (mkF m pc' L'.toArray S')) ∧ L'.length = L.length ∧ npc (.i2l) len pc = pc' := by
  simp only [ps, pI1] at hp
  split at hp
  · split at hp
    · rename_i hc
      subst hc
      cases hp
      exact ⟨XT.i2l h hx rfl hd rfl (Steps.refl _), rfl, rfl⟩
    · cases hp
  · cases hp
theorem s_i2b (h : At T m c below) (hx : tb.exec = Jvm.exec) (hd : decode c.code pc = .ok (.i2b, len)) (hp : ps (.i2b) len pc L S = some (pc', L', S')) : Steps tb e below (T.setTop (mkF m pc L.toArray S)) (T.setTop (mkF m pc' L'.toArray S')) ∧ L'.length = L.length ∧ npc (.i2b) len pc = pc' := by
  simp only [ps, pI1] at hp
  split at hp
  · split at hp
    · rename_i hc
      subst hc
      cases hp
      exact ⟨XT.i2b h hx rfl hd rfl (Steps.refl _), rfl, rfl⟩
    · cases hp
  · cases hp
theorem s_i2c (h : At T m c below) (hx : tb.exec = Jvm.exec) (hd : decode c.code pc = .ok (.i2c, len)) (hp : ps (.i2c) len pc L S = some (pc', L', S')) : Steps tb e below (T.setTop (mkF m pc L.toArray S)) (T.setTop (mkF m pc' L'.toArray S')) ∧ L'.length = L.length ∧ npc (.i2c) len pc = pc' := by
  simp only [ps, pI1] at hp
  split at hp
  · split at hp
    · rename_i hc
      subst hc
      cases hp
      exact ⟨XT.i2c h hx rfl hd rfl (Steps.refl _), rfl, rfl⟩
    · cases hp
  · cases hp
theorem s_i2s (h : At T m c below) (hx : tb.exec = Jvm.exec) (hd : decode c.code pc = .ok (.i2s, len)) (hp : ps (.i2s) len pc L S = some (pc', L', S')) : Steps tb e below (T.setTop (mkF m pc L.toArray S)) (T.setTop (mkF m pc' L'.toArray S')) ∧ L'.length = L.length ∧ npc (.i2s) len pc = pc' := by
  simp only [ps, pI1] at hp
  split at hp
  · split at hp
    · rename_i hc
      subst hc
      cases hp
      exact ⟨XT.i2s h hx rfl hd rfl (Steps.refl _), rfl, rfl⟩
    · cases hp
  · cases hp
theorem s_ineg (h : At T m c below) (hx : tb.exec = Jvm.exec) (hd : decode c.code pc = .ok (.ineg, len)) (hp : ps (.ineg) len pc L S = some (pc', L', S')) : Steps tb e below (T.setTop (mkF m pc L.toArray S)) (T.setTop (mkF m pc' L'.toArray S')) ∧ L'.length = L.length ∧ npc (.ineg) len pc = pc' := by
  simp only [ps, pI1] at hp
  split at hp
  · split at hp
    · rename_i hc
      subst hc
      cases hp
      exact ⟨XS.ineg h hx rfl hd rfl (Steps.refl _), rfl, rfl⟩
    · cases hp
  · cases hp
theorem s_l2i (h : At T m c below) (hx : tb.exec = Jvm.exec) (hd : decode c.code pc = .ok (.l2i, len)) (hp : ps (.l2i) len pc L S = some (pc', L', S')) : Steps tb e below (T.setTop (mkF m pc L.toArray S)) (T.setTop (mkF m pc' L'.toArray S')) ∧ L'.length = L.length ∧ npc (.l2i) len pc = pc' := by
  simp only [ps, pL1] at hp
  split at hp
  · split at hp
    · rename_i hc
      subst hc
      cases hp
      exact ⟨XT.l2i h hx rfl hd rfl (Steps.refl _), rfl, rfl⟩
    · cases hp
  · cases hp
theorem s_lneg (h : At T m c below) (hx : tb.exec = Jvm.exec) (hd : decode c.code pc = .ok (.lneg, len)) (hp : ps (.lneg) len pc L S = some (pc', L', S')) : Steps tb e below (T.setTop (mkF m pc L.toArray S)) (T.setTop (mkF m pc' L'.toArray S')) ∧ L'.length = L.length ∧ npc (.lneg) len pc = pc' := by
  simp only [ps, pL1] at hp
  split at hp
  · split at hp
    · rename_i hc
      subst hc
      cases hp
      exact ⟨XT.lneg h hx rfl hd rfl (Steps.refl _), rfl, rfl⟩
    · cases hp
  · cases hp
theorem s_pop (h : At T m c below) (hx : tb.exec = Jvm.exec) (hd : decode c.code pc = .ok (.pop, len)) (hp : ps (.pop) len pc L S = some (pc', L', S')) : Steps tb e below (T.setTop (mkF m pc L.toArray S)) (T.setTop (mkF m pc' L'.toArray S')) ∧ L'.length = L.length ∧ npc (.pop) len pc = pc' := by
  simp only [ps, pPop] at hp
  split at hp
  · split at hp
    · rename_i hc
      obtain ⟨rfl, h1⟩ := hc
      cases hp
      exact ⟨XT.pop h hx rfl hd rfl h1 (Steps.refl _), rfl, rfl⟩
    · cases hp
  · cases hp
theorem s_dup (h : At T m c below) (hx : tb.exec = Jvm.exec) (hd : decode c.code pc = .ok (.dup, len)) (hp : ps (.dup) len pc L S = some (pc', L', S')) : Steps tb e below (T.setTop (mkF m pc L.toArray S)) (T.setTop (mkF m pc' L'.toArray S')) ∧ L'.length = L.length ∧ npc (.dup) len pc = pc' := by
  simp only [ps, pDup] at hp
  split at hp
  · split at hp
    · rename_i hc
      obtain ⟨rfl, h1⟩ := hc
      cases hp
      exact ⟨XS.dup h hx rfl hd rfl h1 (Steps.refl _), rfl, rfl⟩
    · cases hp
  · cases hp
theorem s_dupx1 (h : At T m c below) (hx : tb.exec = Jvm.exec) (hd : decode c.code pc = .ok (.dup_x1, len)) (hp : ps (.dup_x1) len pc L S = some (pc', L', S')) : Steps tb e below (T.setTop (mkF m pc L.toArray S)) (T.setTop (mkF m pc' L'.toArray S')) ∧ L'.length = L.length ∧ npc (.dup_x1) len pc = pc' := by
  simp only [ps, pDupX1] at hp
  split at hp
  · split at hp
    · rename_i hc
      obtain ⟨rfl, h1, h2⟩ := hc
      cases hp
      exact ⟨XT.dupX1 h hx rfl hd rfl h1 h2 (Steps.refl _), rfl, rfl⟩
    · cases hp
  · cases hp
theorem s_dup2 (h : At T m c below) (hx : tb.exec = Jvm.exec) (hd : decode c.code pc = .ok (.dup2, len)) (hp : ps (.dup2) len pc L S = some (pc', L', S')) : Steps tb e below (T.setTop (mkF m pc L.toArray S)) (T.setTop (mkF m pc' L'.toArray S')) ∧ L'.length = L.length ∧ npc (.dup2) len pc = pc' := by
  simp only [ps, pDup2] at hp
  split at hp
  · split at hp
    · rename_i hc
      subst hc
      cases hp
      exact ⟨XT.dup2L h hx rfl hd rfl (Steps.refl _), rfl, rfl⟩
    · cases hp
  · split at hp
    · rename_i hc
      obtain ⟨rfl, h1, h2⟩ := hc
      cases hp
      exact ⟨XT.dup2 h hx rfl hd rfl h1 h2 (Steps.refl _), rfl, rfl⟩
    · cases hp
  · cases hp
theorem s_goto (h : At T m c below) (hx : tb.exec = Jvm.exec) {o : Int} (hd : decode c.code pc = .ok (.goto o, len)) (hp : ps (.goto o) len pc L S = some (pc', L', S')) : Steps tb e below (T.setTop (mkF m pc L.toArray S)) (T.setTop (mkF m pc' L'.toArray S')) ∧ L'.length = L.length ∧ npc (.goto o) len pc = pc' := by
  simp only [ps, pGo] at hp
  split at hp
  · rename_i hc
    obtain ⟨rfl, h1⟩ := hc
    cases hp
    exact ⟨XS.goto h hx rfl (pc0 := pc) rfl hd h1 rfl (Steps.refl _), rfl, rfl⟩
  · cases hp
theorem ps_sound (h : At T m c below) (hx : tb.exec = Jvm.exec) {i : Instr} (hd : decode c.code pc = .ok (i, len)) (hp : ps i len pc L S = some (pc', L', S')) : Steps tb e below (T.setTop (mkF m pc L.toArray S)) (T.setTop (mkF m pc' L'.toArray S')) ∧ L'.length = L.length ∧ npc i len pc = pc' := by
  cases i
  case iconst => exact s_nop1 h hx hd hp
  case bipush => exact s_bipush h hx hd hp
  case sipush => exact s_sipush h hx hd hp
  case lconst => exact s_lconst h hx hd hp
  case aconst_null => exact s_anull h hx hd hp
  case iload_n => exact s_iloadN h hx hd hp
  case iload => exact s_iload h hx hd hp
  case lload_n => exact s_lloadN h hx hd hp
  case lload => exact s_lload h hx hd hp
  case aload_n => exact s_aloadN h hx hd hp
  case aload => exact s_aload h hx hd hp
  case istore_n => exact s_istoreN h hx hd hp
  case istore => exact s_istore h hx hd hp
  case lstore_n => exact s_lstoreN h hx hd hp
  case lstore => exact s_lstore h hx hd hp
  case astore_n => exact s_astoreN h hx hd hp
  case astore => exact s_astore h hx hd hp
  case iinc => exact s_iinc h hx hd hp
  case iadd => exact s_iadd h hx hd hp
  case isub => exact s_isub h hx hd hp
  case imul => exact s_imul h hx hd hp
  case iand => exact s_iand h hx hd hp
  case ior => exact s_ior h hx hd hp
  case ixor => exact s_ixor h hx hd hp
  case ishl => exact s_ishl h hx hd hp
  case ishr => exact s_ishr h hx hd hp
  case iushr => exact s_iushr h hx hd hp
  case ladd => exact s_ladd h hx hd hp
  case lsub => exact s_lsub h hx hd hp
  case lmul => exact s_lmul h hx hd hp
  case land => exact s_land h hx hd hp
  case lor => exact s_lor h hx hd hp
  case lxor => exact s_lxor h hx hd hp
  case lcmp => exact s_lcmp h hx hd hp
  case lshl => exact s_lshl h hx hd hp
  case lshr => exact s_lshr h hx hd hp
  case lushr => exact s_lushr h hx hd hp
  case i2l => exact s_i2l h hx hd hp
  case i2b => exact s_i2b h hx hd hp
  case i2c => exact s_i2c h hx hd hp
  case i2s => exact s_i2s h hx hd hp
  case ineg => exact s_ineg h hx hd hp
  case l2i => exact s_l2i h hx hd hp
  case lneg => exact s_lneg h hx hd hp
  case pop => exact s_pop h hx hd hp
  case dup => exact s_dup h hx hd hp
  case dup_x1 => exact s_dupx1 h hx hd hp
  case dup2 => exact s_dup2 h hx hd hp
  case goto => exact s_goto h hx hd hp
  all_goals (exact absurd hp (by simp [ps]))
end P
theorem runs_sound {tb : Tables} [Ours tb] {e : Env} {below : List Frame} {T : State} {m : MethodId} {c : Code} (h : At T m c below) (hx : tb.exec = Jvm.exec) : ∀ (is : List (Instr × Nat)) {pc : Nat} {L : List Slot} {S : List Value} {pc' : Nat} {L' : List Slot} {S' : List Value},
    seg c.code is pc = true → runs is pc L S = some (pc', L', S') → Steps tb e below (T.setTop (mkF m pc L.toArray S)) (T.setTop (mkF m pc' L'.toArray S')) ∧ L'.length = L.length
  | [], pc, L, S, pc', L', S', _, hr => by cases hr; exact ⟨Steps.refl _, rfl⟩
  | (i, len) :: r, pc, L, S, pc', L', S', hs, hr => by
    simp only [seg, Bool.and_eq_true] at hs
    obtain ⟨h1, h2⟩ := hs
    simp only [runs] at hr
    split at hr
    · rename_i pc1 L1 S1 hp
      split at h1
      · rename_i j n hd
        simp only [decide_eq_true_eq] at h1
        obtain ⟨rfl, rfl⟩ := h1
        obtain ⟨q1, q2, e⟩ := ps_sound h hx hd hp
        rw [e] at h2
        obtain ⟨q3, q4⟩ := runs_sound h hx r h2 hr
        exact ⟨q1.trans q3, q4.trans q2⟩
      · cases h1
    · cases hr
end Jvm.WK
namespace Jvm.WK
open Sem ClassFile Op Lib Jvm.Stand Jvm.Free Jvm.LawKit Jvm.RoadKit
/-! ## 4. the heap's list over a step -/
section H
variable {κ : Cx} {vm vm1 : Vm} {h h' : Heap} {l : List Chunk} {a : Addr} {sl : Nat} {v : Value}
theorem Holds.lt : ∀ {x : Chunk}, Holds κ h x → x.1 < h.size
  | (a, _, .inl (C, fs)), H => H.1.lt
  | (a, _, .inr (ty, vs)), ⟨c, A, _, _⟩ => A.lt
theorem Holds.ext (E : Ext h h') : ∀ {x : Chunk}, Holds κ h x → Holds κ h' x
  | (a, _, .inl (C, fs)), H => ⟨H.1.ext E, fun f hf => (H.2.1 f hf).ext E, H.2.2⟩
  | (a, _, .inr (ty, vs)), ⟨c, A, e, o⟩ => ⟨c, A.ext E, e, o⟩
theorem Holds.other (W : Wr h h' a sl v) : ∀ {x : Chunk}, Holds κ h x → x.1 ≠ a → Holds κ h' x
  | (b, _, .inl (C, fs)), H, hne => ⟨H.1.wr W, fun f hf => (H.2.1 f hf).other W (Or.inl hne), H.2.2⟩
  | (b, _, .inr (ty, vs)), ⟨c, A, e, o⟩, hne => ⟨c, A.other W hne, e, o⟩
theorem Hp.ext (E : Ext h h') (A : CHr (kZ κ) (kE κ) vm h vm1 h') (H : Hp κ vm h l) : Hp κ vm1 h' l :=
  ⟨fun x hx => (H.1 x hx).ext E, H.2.1, fun x hx hm => ⟨(H.2.2 x hx hm).1, A.safe (H.1 x hx).lt (H.2.2 x hx hm).2⟩⟩
theorem Ext.rfl' : Ext h h := ⟨Nat.le_refl _, fun _ _ q => q⟩
theorem Hp.warm (A : CHr (kZ κ) (kE κ) vm h vm1 h) (H : Hp κ vm h l) : Hp κ vm1 h l := H.ext Ext.rfl' A
theorem Hp.add (H : Hp κ vm h l) {x : Chunk} (hx : Holds κ h x) (hne : ∀ z ∈ l, (x.2.1 = true ∨ z.2.1 = true) → x.1 ≠ z.1) (hs : x.2.1 = true → (kZ κ).heap.size ≤ x.1 ∧ Safe (kZ κ) (kE κ) vm h x.1) : Hp κ vm h (x :: l) := by
  refine ⟨fun z hz => ?_, ?_, fun z hz hm => ?_⟩
  · rcases List.mem_cons.mp hz with rfl | hz
    · exact hx
    · exact H.1 z hz
  · rw [List.map_cons, List.pairwise_cons]
    refine ⟨fun q hq => ?_, H.2.1⟩
    obtain ⟨z, hz, rfl⟩ := List.mem_map.mp hq
    exact hne z hz
  · rcases List.mem_cons.mp hz with rfl | hz
    · exact hs hm
    · exact H.2.2 z hz hm
/-- a new cell, at the heap's end -/
theorem Hp.new (E : Ext h h') (A : CHr (kZ κ) (kE κ) vm h vm1 h') (H : Hp κ vm h l) (hn : (kZ κ).heap.size ≤ h.size) {mu : Bool} {c : String × List (String × String × String × Value) ⊕ FieldType × List Value} (hx : Holds κ h' (h.size, mu, c)) (hS : Safe (kZ κ) (kE κ) vm1 h' h.size) : Hp κ vm1 h' ((h.size, mu, c) :: l) :=
  (H.ext E A).add hx (fun z hz _ => Nat.ne_of_gt (H.1 z hz).lt) (fun _ => ⟨hn, hS⟩)
theorem getElem?_set_ne' {α : Type} {l : List α} {i j : Nat} {x : α} (h : i ≠ j) : (l.set i x)[j]? = l[j]? := List.getElem?_set_ne h
theorem Hp.apart (H : Hp κ vm h l) {i j : Nat} {x z : Chunk} (hi : l[i]? = some x) (hj : l[j]? = some z) (hne : i ≠ j) (hm : x.2.1 = true ∨ z.2.1 = true) : x.1 ≠ z.1 := by
  obtain ⟨hi', ei⟩ := List.getElem?_eq_some_iff.mp hi
  obtain ⟨hj', ej⟩ := List.getElem?_eq_some_iff.mp hj
  have P := List.pairwise_iff_getElem.mp H.2.1
  rcases Nat.lt_or_gt_of_ne hne with q | q
  · have := P i j (by simpa using hi') (by simpa using hj') q
    simp only [List.getElem_map, ei, ej] at this
    exact this hm
  · have := P j i (by simpa using hj') (by simpa using hi') q
    simp only [List.getElem_map, ei, ej] at this
    exact Ne.symm (this hm.symm)
/-- one slot of one cell that may be written -/
theorem Hp.wr (H : Hp κ vm h l) (hC : CHv (kZ κ) (kE κ) vm h) {i : Nat} {c c' : String × List (String × String × String × Value) ⊕ FieldType × List Value} (hi : l[i]? = some (a, true, c)) (W : Wr h h' a sl v) (hnew : Holds κ h' (a, true, c')) :
    Hp κ vm h' (l.set i (a, true, c')) ∧ CHv (kZ κ) (kE κ) vm h' := by
  have hS := (H.2.2 _ (List.mem_of_getElem? hi) rfl)
  have hW := hC.wrStep W hS.2
  refine ⟨⟨fun z hz => ?_, ?_, fun z hz hm => ?_⟩, hW.1⟩
  · obtain ⟨j, hj⟩ := List.mem_iff_getElem?.mp hz
    by_cases e : i = j
    · subst e
      have hlt := (List.getElem?_eq_some_iff.mp hi).1
      rw [List.getElem?_set_self hlt] at hj
      cases hj; exact hnew
    · rw [getElem?_set_ne' e] at hj
      exact (H.1 z (List.mem_of_getElem? hj)).other W (Ne.symm (H.apart hi hj e (Or.inl rfl)))
  · have e : (l.set i (a, true, c')).map key = l.map key := by
      apply List.ext_getElem?
      intro j
      simp only [List.getElem?_map]
      by_cases e : i = j
      · subst e
        rw [List.getElem?_set_self (List.getElem?_eq_some_iff.mp hi).1, hi]; rfl
      · rw [getElem?_set_ne' e]
    rw [e]; exact H.2.1
  · obtain ⟨j, hj⟩ := List.mem_iff_getElem?.mp hz
    by_cases e : i = j
    · subst e
      rw [List.getElem?_set_self (List.getElem?_eq_some_iff.mp hi).1] at hj
      cases hj
      exact ⟨hS.1, fun B => hS.2 (hW.2 _ B)⟩
    · rw [getElem?_set_ne' e] at hj
      have q := H.2.2 z (List.mem_of_getElem? hj) hm
      exact ⟨q.1, fun B => q.2 (hW.2 _ B)⟩
/-- chunks forgotten, turned round, no more to be written -/
theorem Hp.perm {l' : List Chunk} (H : Hp κ vm h l) (p : l.Perm l') : Hp κ vm h l' :=
  ⟨fun x hx => H.1 x (p.mem_iff.mpr hx), (List.Perm.pairwise_iff (fun {x y} (q : Apart x y) (m : y.2 = true ∨ x.2 = true) => Ne.symm (q m.symm)) (p.map key)).mp H.2.1, fun x hx => H.2.2 x (p.mem_iff.mpr hx)⟩
theorem Hp.drop {x : Chunk} (H : Hp κ vm h (x :: l)) : Hp κ vm h l :=
  ⟨fun z hz => H.1 z (List.mem_cons_of_mem _ hz), (List.pairwise_cons.mp H.2.1).2, fun z hz => H.2.2 z (List.mem_cons_of_mem _ hz)⟩
theorem Holds.mu {mu mu' : Bool} {c : String × List (String × String × String × Value) ⊕ FieldType × List Value} (H : Holds κ h (a, mu, c)) : Holds κ h (a, mu', c) := by
  rcases c with ⟨C, fs⟩ | ⟨ty, vs⟩ <;> exact H
theorem Hp.freeze {mu : Bool} {c : String × List (String × String × String × Value) ⊕ FieldType × List Value} (H : Hp κ vm h ((a, mu, c) :: l)) : Hp κ vm h ((a, false, c) :: l) := by
  refine Hp.add H.drop (Holds.mu (H.1 _ (List.mem_cons_self ..))) (fun z hz hm => ?_) (fun q => by cases q)
  have P := (List.pairwise_cons.mp H.2.1).1 (key z) (List.mem_map_of_mem hz)
  refine P (Or.inr ?_)
  rcases hm with hm | hm
  · cases hm
  · exact hm
end H
/-! ## 5. from one state to the next -/
section N
variable {κ : Cx} {T : State} {y : MethodName} {pc pc' : Nat} {L L' : List Slot} {S S' : List Value} {F : List Frame} {l l' : List Chunk} {k n : Nat} {bytes : ByteArray} {mx : Nat} {rt : Option FieldType}
theorem Ok.exec (C : Ok κ) : (kp κ).tables.exec = Jvm.exec := C.2.2.2.1
theorem Ok.ew (C : Ok κ) : EW (kZ κ) (ka κ) (kE κ) := C.2.2.2.2.2.2.2.2.2.2.1
theorem Good.hp (G : Good κ T y pc L S F l k n) : Hp κ T.vm T.heap l := G.2.2.2.2.2.1
theorem Good.ch (G : Good κ T y pc L S F l k n) : CHv (kZ κ) (kE κ) T.vm T.heap := G.2.2.2.2.1
theorem Good.room (G : Good κ T y pc L S F l k n) : Rm κ F (0 + 1) (L.length + 11 + 0) := G.2.2.2.2.2.2.2.2.2.1
theorem Good.size (G : Good κ T y pc L S F l k n) : (kZ κ).heap.size ≤ T.heap.size := G.2.1.2.1
theorem Good.cells (G : Good κ T y pc L S F l k n) : k ≤ (kR κ).cells := G.2.2.2.2.2.2.1
theorem Good.slots (G : Good κ T y pc L S F l k n) : n ≤ (kR κ).slots := G.2.2.2.2.2.2.2.1
theorem Good.old (G : Good κ T y pc L S F l k n) : Ext (kZ κ).heap T.heap := ⟨G.size, fun a c h => State.sameButNew.old_cell G.2.1 h⟩
theorem Good.own (G : Good κ T y pc L S F l k n) (M : Meth κ y bytes mx rt) : (base κ T y F).vm.findClass y.cls = some (mid κ y).cls := by
  show T.vm.findClass y.cls = _
  rw [G.alike.findClass]; exact M.cls
theorem Good.go (G : Good κ T y pc L S F l k n) {T' : State} {g' : JFrame} (st : ∀ target, Steps (kp κ).tables (ke κ) (F ++ kb κ) (T'.setTop g') target → Steps (kp κ).tables (ke κ) (F ++ kb κ) (T.setTop (mkF (mid κ y) pc L.toArray S)) target) (D : Done κ (T'.setTop g')) : Done κ T := by
  obtain ⟨t, h1, h2⟩ := D
  have q := st _ (Steps.refl _)
  have e : T.setTop (mkF (mid κ y) pc L.toArray S) = T := State.setTop_self (State.topJava?_of_frames G.1)
  rw [e] at q
  exact ⟨t, (steps_weaken q).trans h1, h2⟩
theorem Good.same' (G : Good κ T y pc L S F l k n) {U : State} {locs : List Loc} {cells slots : Nat} (h : (base κ T y F).sameButNew (U.setVm (base κ T y F).vm) locs cells slots) (hlocs : ∀ x ∈ locs, (kZ κ).heap.size ≤ x.base) : (kZ κ).sameButNew (U.setVm (kZ κ).vm) [] (k + cells) (n + slots) := by
  have q1 : T.sameButNew (U.setVm T.vm) locs cells slots := State.sameButNew.of_setFrames h
  have q2 := G.2.1.trans (q1.setVm (kZ κ).vm)
  have q3 : (kZ κ).sameButNew (U.setVm (kZ κ).vm) ([] ++ locs) (k + cells) (n + slots) := q2
  exact q3.sift fun x hx => Or.inr (hlocs x (by simpa using hx))
theorem Good.since' (G : Good κ T y pc L S F l k n) {vm' : Vm} {n' : Nat} (hW : (base κ T y F).WarmedH vm') (hs : T.heap.size ≤ n') : (kZ κ).Since vm' n' := by
  have q : ((kZ κ).setVm T.vm).WarmedH vm' := State.WarmedH.of_rootvm (s := base κ T y F) rfl hW
  exact G.2.2.1.trans (q.since n') hs
theorem Good.strict' (G : Good κ T y pc L S F l k n) {vm' : Vm} (hW : (base κ T y F).WarmedH vm') (h : kS κ = true) : (kZ κ).WarmedH vm' :=
  State.WarmedH.trans (G.2.2.2.1 h) (State.WarmedH.of_rootvm (s := base κ T y F) (u := T) rfl hW)
theorem Good.next (G : Good κ T y pc L S F l k n) {R' : Room} {meth : Method} {c : Code} {T' : State} {locs : List Loc} {cells slots : Nat} (X' : Stand (kp κ) (kl κ) (ke κ) R' (base κ T y F) (mid κ y) (ka κ) (F ++ kb κ) meth c T' locs cells slots)
    (hlocs : ∀ x ∈ locs, (kZ κ).heap.size ≤ x.base) (hk : k + cells ≤ (kR κ).cells) (hn : n + slots ≤ (kR κ).slots) (hL : L'.length = L.length) (hC : CHv (kZ κ) (kE κ) T'.vm T'.heap) (hH : Hp κ T'.vm T'.heap l') :
    Good κ (T'.setTop (mkF (mid κ y) pc' L'.toArray S')) y pc' L' S' F l' (k + cells) (n + slots) := by
  obtain ⟨g₀, hfr⟩ := X'.frames_eq
  have q4 := G.same' X'.same hlocs
  have hsz : T.heap.size ≤ T'.heap.size := X'.same.2.1
  refine ⟨State.frames_setTop _ hfr, ?_, ?_, fun h => ?_, ?_, ?_, hk, hn, G.2.2.2.2.2.2.2.2.1, by rw [hL]; exact G.2.2.2.2.2.2.2.2.2.1, by rw [hL]; exact G.2.2.2.2.2.2.2.2.2.2⟩
  · have e : (T'.setTop (mkF (mid κ y) pc' L'.toArray S')).setVm (kZ κ).vm = (T'.setVm (kZ κ).vm).setFrames (.java (mkF (mid κ y) pc' L'.toArray S') :: (F ++ kb κ)) := by
      rw [State.setTop_of_frames _ hfr]; rfl
    have hcur : (kZ κ).cur < (kZ κ).threads.size := by
      have q := State.cur_lt_of_frames G.1
      have e1 := G.threads
      have e2 := G.curEq
      rw [e1, e2] at q
      simpa [State.setFrames] using q
    rw [e]
    exact q4.setFrames _ hcur
  · show (kZ κ).Since T'.vm T'.heap.size
    exact G.since' X'.warmed hsz
  · show (kZ κ).WarmedH T'.vm
    exact G.strict' X'.warmed h
  · exact hC
  · exact hH
/-- a step that has only warmed the tables -/
theorem Good.warmed (C : Ok κ) (G : Good κ T y pc L S F l k n) {R' : Room} {meth : Method} {c : Code} {T' : State} {locs : List Loc} {cells slots : Nat} (X' : Stand (kp κ) (kl κ) (ke κ) R' (base κ T y F) (mid κ y) (ka κ) (F ++ kb κ) meth c T' locs cells slots) : CHr (kZ κ) (kE κ) T.vm T.heap T'.vm T.heap :=
  CHv.at (s := base κ T y F) (vm0 := T.vm) X' G.warm C.ew G.ch
theorem nolocs {κ : Cx} : ∀ x ∈ ([] : List Loc), (kZ κ).heap.size ≤ x.base := fun _ h => nomatch h
theorem one_loc {κ : Cx} {a : Addr} {i : Nat} (h : (kZ κ).heap.size ≤ a) : ∀ x ∈ ([] ++ [(⟨a, i⟩ : Loc)]), (kZ κ).heap.size ≤ x.base := fun x hx => by
  simp only [List.nil_append, List.mem_singleton] at hx
  subst hx; exact h
/-- the pure stretch -/
theorem wp_seg (C : Ok κ) (M : Meth κ y bytes mx rt) (is : List (Instr × Nat)) (hs : seg bytes is pc = true) (hr : runs is pc L S = some (pc', L', S')) (K : WP κ y pc' L' S' F l k n) : WP κ y pc L S F l k n := fun T G => by
  obtain ⟨meth, c, X, hb, -⟩ := G.stand C M (d := 0) (w := 0) G.room
  obtain ⟨q1, q2⟩ := runs_sound X.here C.exec is (by rw [hb]; exact hs) hr
  exact G.go (T' := T) (fun target h => q1.trans h) (K _ (G.next X nolocs G.cells G.slots q2 G.ch G.hp))
end N
end Jvm.WK
namespace Jvm.WK
open Sem ClassFile Op Lib Jvm.Stand Jvm.Free Jvm.LawKit Jvm.RoadKit
/-! ## 6. the rules -/
/-- j is the place i of an array -/
def Ix (j : Int32) (i : Nat) : Prop := ¬ j < 0 ∧ j.toNatClampNeg = i
section R
variable {κ : Cx} {y : MethodName} {pc pc' : Nat} {L L' : List Slot} {S S' : List Value} {F : List Frame} {l l' : List Chunk} {k n : Nat} {bytes : ByteArray} {mx : Nat} {rt : Option FieldType}
theorem wp_ift (C : Ok κ) (M : Meth κ y bytes mx rt) {cd : ClassFile.Cond} {x : Int32} {o : Int} (hd : decode bytes pc = .ok (.ifCond cd o, 3)) (hc : ifCond.holds cd x = true) (hp : 0 ≤ (pc : Int) + o ∧ ((pc : Int) + o).toNat = pc') (K : WP κ y pc' L S F l k n) : WP κ y pc L (.int x :: S) F l k n := fun T G => by
  obtain ⟨meth, c, X, hb, -⟩ := G.stand C M (d := 0) (w := 0) G.room
  subst hb
  exact G.go (T' := T) (fun target h => XS.ifYes X.here C.exec rfl (pc0 := pc) rfl hd rfl hc hp.1 hp.2 h) (K _ (G.next X nolocs G.cells G.slots rfl G.ch G.hp))
theorem wp_iff (C : Ok κ) (M : Meth κ y bytes mx rt) {cd : ClassFile.Cond} {x : Int32} {o : Int} (hd : decode bytes pc = .ok (.ifCond cd o, 3)) (hc : ifCond.holds cd x = false) (K : WP κ y (pc + 3) L S F l k n) : WP κ y pc L (.int x :: S) F l k n := fun T G => by
  obtain ⟨meth, c, X, hb, -⟩ := G.stand C M (d := 0) (w := 0) G.room
  subst hb
  exact G.go (T' := T) (fun target h => XS.ifNo X.here C.exec rfl hd rfl hc h) (K _ (G.next X nolocs G.cells G.slots rfl G.ch G.hp))
theorem wp_ict (C : Ok κ) (M : Meth κ y bytes mx rt) {cd : ClassFile.Cond} {x z : Int32} {o : Int} (hd : decode bytes pc = .ok (.if_icmp cd o, 3)) (hc : if_icmp.holds cd x z = true) (hp : 0 ≤ (pc : Int) + o ∧ ((pc : Int) + o).toNat = pc') (K : WP κ y pc' L S F l k n) : WP κ y pc L (.int z :: .int x :: S) F l k n := fun T G => by
  obtain ⟨meth, c, X, hb, -⟩ := G.stand C M (d := 0) (w := 0) G.room
  subst hb
  exact G.go (T' := T) (fun target h => XS.icmpYes X.here C.exec rfl (pc0 := pc) rfl hd rfl hc hp.1 hp.2 h) (K _ (G.next X nolocs G.cells G.slots rfl G.ch G.hp))
theorem wp_icf (C : Ok κ) (M : Meth κ y bytes mx rt) {cd : ClassFile.Cond} {x z : Int32} {o : Int} (hd : decode bytes pc = .ok (.if_icmp cd o, 3)) (hc : if_icmp.holds cd x z = false) (K : WP κ y (pc + 3) L S F l k n) : WP κ y pc L (.int z :: .int x :: S) F l k n := fun T G => by
  obtain ⟨meth, c, X, hb, -⟩ := G.stand C M (d := 0) (w := 0) G.room
  subst hb
  exact G.go (T' := T) (fun target h => XS.icmpNo X.here C.exec rfl hd rfl hc h) (K _ (G.next X nolocs G.cells G.slots rfl G.ch G.hp))
theorem wp_nullt (C : Ok κ) (M : Meth κ y bytes mx rt)  {o : Int} (hd : decode bytes pc = .ok (.ifnull o, 3))  (hp : 0 ≤ (pc : Int) + o ∧ ((pc : Int) + o).toNat = pc') (K : WP κ y pc' L S F l k n) : WP κ y pc L (.null :: S) F l k n := fun T G => by
  obtain ⟨meth, c, X, hb, -⟩ := G.stand C M (d := 0) (w := 0) G.room
  subst hb
  exact G.go (T' := T) (fun target h => XS.ifnullYes X.here C.exec rfl (pc0 := pc) rfl hd rfl hp.1 hp.2 h) (K _ (G.next X nolocs G.cells G.slots rfl G.ch G.hp))
theorem wp_nullf (C : Ok κ) (M : Meth κ y bytes mx rt) {b : Addr} {o : Int} (hd : decode bytes pc = .ok (.ifnull o, 3))  (K : WP κ y (pc + 3) L S F l k n) : WP κ y pc L (.ref b :: S) F l k n := fun T G => by
  obtain ⟨meth, c, X, hb, -⟩ := G.stand C M (d := 0) (w := 0) G.room
  subst hb
  exact G.go (T' := T) (fun target h => XS.ifnullNo X.here C.exec rfl hd rfl h) (K _ (G.next X nolocs G.cells G.slots rfl G.ch G.hp))
theorem wp_nonnullt (C : Ok κ) (M : Meth κ y bytes mx rt) {b : Addr} {o : Int} (hd : decode bytes pc = .ok (.ifnonnull o, 3))  (hp : 0 ≤ (pc : Int) + o ∧ ((pc : Int) + o).toNat = pc') (K : WP κ y pc' L S F l k n) : WP κ y pc L (.ref b :: S) F l k n := fun T G => by
  obtain ⟨meth, c, X, hb, -⟩ := G.stand C M (d := 0) (w := 0) G.room
  subst hb
  exact G.go (T' := T) (fun target h => XT.ifnonnullYes X.here C.exec rfl (pc0 := pc) rfl hd rfl hp.1 hp.2 h) (K _ (G.next X nolocs G.cells G.slots rfl G.ch G.hp))
theorem wp_nonnullf (C : Ok κ) (M : Meth κ y bytes mx rt)  {o : Int} (hd : decode bytes pc = .ok (.ifnonnull o, 3))  (K : WP κ y (pc + 3) L S F l k n) : WP κ y pc L (.null :: S) F l k n := fun T G => by
  obtain ⟨meth, c, X, hb, -⟩ := G.stand C M (d := 0) (w := 0) G.room
  subst hb
  exact G.go (T' := T) (fun target h => XT.ifnonnullNo X.here C.exec rfl hd rfl h) (K _ (G.next X nolocs G.cells G.slots rfl G.ch G.hp))
theorem wp_act (C : Ok κ) (M : Meth κ y bytes mx rt) {cd : ClassFile.ACond} {x z : Value} {o : Int} (hd : decode bytes pc = .ok (.if_acmp cd o, 3)) (h1 : x.isRef = true) (h2 : z.isRef = true) (hc : XT.acmp cd x z = true) (hp : 0 ≤ (pc : Int) + o ∧ ((pc : Int) + o).toNat = pc') (K : WP κ y pc' L S F l k n) : WP κ y pc L (z :: x :: S) F l k n := fun T G => by
  obtain ⟨meth, c, X, hb, -⟩ := G.stand C M (d := 0) (w := 0) G.room
  subst hb
  exact G.go (T' := T) (fun target h => XT.acmpYes X.here C.exec rfl (pc0 := pc) rfl hd rfl h1 h2 hc hp.1 hp.2 h) (K _ (G.next X nolocs G.cells G.slots rfl G.ch G.hp))
theorem wp_acf (C : Ok κ) (M : Meth κ y bytes mx rt) {cd : ClassFile.ACond} {x z : Value} {o : Int} (hd : decode bytes pc = .ok (.if_acmp cd o, 3)) (h1 : x.isRef = true) (h2 : z.isRef = true) (hc : XT.acmp cd x z = false) (K : WP κ y (pc + 3) L S F l k n) : WP κ y pc L (z :: x :: S) F l k n := fun T G => by
  obtain ⟨meth, c, X, hb, -⟩ := G.stand C M (d := 0) (w := 0) G.room
  subst hb
  exact G.go (T' := T) (fun target h => XT.acmpNo X.here C.exec rfl hd rfl h1 h2 hc h) (K _ (G.next X nolocs G.cells G.slots rfl G.ch G.hp))
theorem wp_tsw (C : Ok κ) (M : Meth κ y bytes mx rt) {dflt low high : Int} {offs : Array Int} {len : Nat} {i : Int32} {o : Int} (hd : decode bytes pc = .ok (.tableswitch dflt low high offs, len)) (hin : ¬ (i.toInt < low ∨ i.toInt > high)) (hoff : offs[(i.toInt - low).toNat]? = some o) (hp : 0 ≤ (pc : Int) + o ∧ ((pc : Int) + o).toNat = pc') (K : WP κ y pc' L S F l k n) : WP κ y pc L (.int i :: S) F l k n := fun T G => by
  obtain ⟨meth, c, X, hb, -⟩ := G.stand C M (d := 0) (w := 0) G.room
  subst hb
  exact G.go (T' := T) (fun target h => XS.tswIn X.here C.exec rfl (pc0 := pc) rfl hd rfl hin hoff hp.1 hp.2 h) (K _ (G.next X nolocs G.cells G.slots rfl G.ch G.hp))
theorem wp_tswd (C : Ok κ) (M : Meth κ y bytes mx rt) {dflt low high : Int} {offs : Array Int} {len : Nat} {i : Int32} (hd : decode bytes pc = .ok (.tableswitch dflt low high offs, len)) (hout : i.toInt < low ∨ i.toInt > high) (hp : 0 ≤ (pc : Int) + dflt ∧ ((pc : Int) + dflt).toNat = pc') (K : WP κ y pc' L S F l k n) : WP κ y pc L (.int i :: S) F l k n := fun T G => by
  obtain ⟨meth, c, X, hb, -⟩ := G.stand C M (d := 0) (w := 0) G.room
  subst hb
  exact G.go (T' := T) (fun target h => XS.tswOut X.here C.exec rfl (pc0 := pc) rfl hd rfl hout hp.1 hp.2 h) (K _ (G.next X nolocs G.cells G.slots rfl G.ch G.hp))
theorem wp_irem (C : Ok κ) (M : Meth κ y bytes mx rt) {x z : Int32} (hd : decode bytes pc = .ok (.irem, 1)) (hz : z ≠ 0) (K : WP κ y (pc + 1) L (.int (x % z) :: S) F l k n) : WP κ y pc L (.int z :: .int x :: S) F l k n := fun T G => by
  obtain ⟨meth, c, X, hb, -⟩ := G.stand C M (d := 0) (w := 0) G.room
  subst hb
  exact G.go (T' := T) (fun target h => iremM X C.exec rfl hd rfl hz h) (K _ (G.next X nolocs G.cells G.slots rfl G.ch G.hp))
theorem wp_lrem (C : Ok κ) (M : Meth κ y bytes mx rt) {x z : Int64} (hd : decode bytes pc = .ok (.lrem, 1)) (hz : z ≠ 0) (K : WP κ y (pc + 1) L (.long (x - (x / z) * z) :: S) F l k n) : WP κ y pc L (.long z :: .long x :: S) F l k n := fun T G => by
  obtain ⟨meth, c, X, hb, -⟩ := G.stand C M (d := 0) (w := 0) G.room
  subst hb
  exact G.go (T' := T) (fun target h => XT.lrem X.here C.exec rfl hd rfl hz h) (K _ (G.next X nolocs G.cells G.slots rfl G.ch G.hp))
theorem wp_pop2 (C : Ok κ) (M : Meth κ y bytes mx rt) {x : Int64} (hd : decode bytes pc = .ok (.pop2, 1)) (K : WP κ y (pc + 1) L S F l k n) : WP κ y pc L (.long x :: S) F l k n := fun T G => by
  obtain ⟨meth, c, X, hb, -⟩ := G.stand C M (d := 0) (w := 0) G.room
  subst hb
  refine G.go (T' := T) (fun target h => ?_) (K _ (G.next X nolocs G.cells G.slots rfl G.ch G.hp))
  have hA := X.here
  jvm_step hA [hA.top, C.exec, hd, Value.category]
  exact h
theorem wp_ldcI (C : Ok κ) (M : Meth κ y bytes mx rt) {ix : Nat} {v : Int32} (hd : decode bytes pc = .ok (.ldc ix, 2)) (w : Wd κ (.constant y.cls ix v)) (K : WP κ y (pc + 2) L (.int v :: S) F l k n) : WP κ y pc L S F l k n := fun T G => by
  obtain ⟨meth, c, X, hb, -⟩ := G.stand C M (d := 0) (w := 0) G.room
  subst hb
  exact G.go (T' := T) (fun target h => ldcI X C.exec (G.own M) (mv (s := base κ T y F) G.warm w) rfl hd h) (K _ (G.next X nolocs G.cells G.slots rfl G.ch G.hp))
theorem wp_ldcWI (C : Ok κ) (M : Meth κ y bytes mx rt) {ix : Nat} {v : Int32} (hd : decode bytes pc = .ok (.ldc_w ix, 3)) (w : Wd κ (.constant y.cls ix v)) (K : WP κ y (pc + 3) L (.int v :: S) F l k n) : WP κ y pc L S F l k n := fun T G => by
  obtain ⟨meth, c, X, hb, -⟩ := G.stand C M (d := 0) (w := 0) G.room
  subst hb
  exact G.go (T' := T) (fun target h => ldcWI X C.exec (G.own M) (mv (s := base κ T y F) G.warm w) rfl hd h) (K _ (G.next X nolocs G.cells G.slots rfl G.ch G.hp))
theorem wp_ldc2 (C : Ok κ) (M : Meth κ y bytes mx rt) {ix : Nat} {v : Int64} (hd : decode bytes pc = .ok (.ldc2_w ix, 3)) (w : Wd κ (.constantLong y.cls ix v)) (K : WP κ y (pc + 3) L (.long v :: S) F l k n) : WP κ y pc L S F l k n := fun T G => by
  obtain ⟨meth, c, X, hb, -⟩ := G.stand C M (d := 0) (w := 0) G.room
  subst hb
  exact G.go (T' := T) (fun target h => ldc2J X C.exec (G.own M) (mv (s := base κ T y F) G.warm w) rfl hd h) (K _ (G.next X nolocs G.cells G.slots rfl G.ch G.hp))
/-- the pool's name of the field leads to its declarer's -/
def ViaW (κ : Cx) (R0 O nm d : String) : Prop := R0 = O ∨ Wd κ (.sameField R0 O nm d)
theorem ViaW.via {R0 O nm d : String} (h : ViaW κ R0 O nm d) : Via (kZ κ) R0 O nm d := by
  rcases h with rfl | h
  · exact Via.refl
  · exact Via.of h
theorem wp_getfield (C : Ok κ) (M : Meth κ y bytes mx rt) {ix : Nat} (hd : decode bytes pc = .ok (.getfield ix, 3)) {R0 O nm d : String} (w : Wd κ (.fieldLink y.cls ix R0 nm d)) (via : ViaW κ R0 O nm d) {a : Addr} {mu : Bool} {Cl : String} {fs : List (String × String × String × Value)} (hm : (a, mu, .inl (Cl, fs)) ∈ l) {v : Value} (hf : (O, nm, d, v) ∈ fs)
    (K : WP κ y (pc + 3) L (v :: S) F l k n) : WP κ y pc L (.ref a :: S) F l k n := fun T G => by
  obtain ⟨meth, c, X, hb, -⟩ := G.stand C M (d := 0) (w := 0) G.room
  subst hb
  have H := G.hp.1 _ hm
  obtain ⟨T', X', e', st⟩ := getF X C.exec G.warm (G.own M) (host := "") (Or.inl w) via.via rfl (H.2.1 _ hf) (g := mkF (mid κ y) pc L.toArray (.ref a :: S)) rfl rfl hd
  have A := G.warmed C X'
  exact G.go st (K _ (G.next X' nolocs G.cells G.slots rfl (e' ▸ A.1) (e' ▸ G.hp.warm A)))
theorem wp_getstatic (C : Ok κ) (M : Meth κ y bytes mx rt) {ix : Nat} (hd : decode bytes pc = .ok (.getstatic ix, 3)) {R0 O nm d : String} (w : Wd κ (.fieldLink y.cls ix R0 nm d)) (via : ViaW κ R0 O nm d) {v : Value} (hs : Sta (kZ κ) (kZ κ).heap O nm d v)
    (K : WP κ y (pc + 3) L (v :: S) F l k n) : WP κ y pc L S F l k n := fun T G => by
  obtain ⟨meth, c, X, hb, -⟩ := G.stand C M (d := 0) (w := 0) G.room
  subst hb
  obtain ⟨T', X', e', st⟩ := getS X C.exec G.warm (G.own M) (host := "") w via.via rfl (hs.ext G.old) (g := mkF (mid κ y) pc L.toArray S) rfl hd
  have A := G.warmed C X'
  exact G.go st (K _ (G.next X' nolocs G.cells G.slots rfl (e' ▸ A.1) (e' ▸ G.hp.warm A)))
theorem Holds.put {h h' : Heap} {a : Addr} {mu : Bool} {Cl O nm d : String} {fs : List (String × String × String × Value)} {j : Nat} {old v : Value} (H : Holds κ h (a, mu, .inl (Cl, fs))) (hj : fs[j]? = some (O, nm, d, old)) (W : Wr h h' a (RoadKit.slotOf (kZ κ) O nm d) v) : Holds κ h' (a, mu, .inl (Cl, fs.set j (O, nm, d, v))) := by
  have hlt := (List.getElem?_eq_some_iff.mp hj).1
  have e : (fs.set j (O, nm, d, v)).map (fslot κ) = fs.map (fslot κ) := by
    apply List.ext_getElem?
    intro i
    simp only [List.getElem?_map]
    by_cases q : j = i
    · subst q; rw [List.getElem?_set_self hlt, hj]; rfl
    · rw [getElem?_set_ne' q]
  refine ⟨H.1.wr W, fun f hf => ?_, by rw [e]; exact H.2.2⟩
  obtain ⟨i, hi⟩ := List.mem_iff_getElem?.mp hf
  by_cases q : j = i
  · subst q
    rw [List.getElem?_set_self hlt] at hi
    cases hi
    exact (H.2.1 _ (List.mem_of_getElem? hj)).same W
  · rw [getElem?_set_ne' q] at hi
    refine (H.2.1 f (List.mem_of_getElem? hi)).other W (Or.inr fun es => ?_)
    have N := List.pairwise_iff_getElem.mp H.2.2
    have hil := (List.getElem?_eq_some_iff.mp hi)
    have hjl := (List.getElem?_eq_some_iff.mp hj)
    rcases Nat.lt_or_gt_of_ne q with r | r
    · have := N j i (by simpa using hlt) (by simpa using hil.1) r
      simp only [List.getElem_map, hil.2, hjl.2] at this
      exact this es.symm
    · have := N i j (by simpa using hil.1) (by simpa using hlt) r
      simp only [List.getElem_map, hil.2, hjl.2] at this
      exact this es
theorem wp_putfield (C : Ok κ) (M : Meth κ y bytes mx rt) {ix : Nat} (hd : decode bytes pc = .ok (.putfield ix, 3)) {R0 O nm d : String} (w : Wd κ (.fieldLink y.cls ix R0 nm d)) (via : ViaW κ R0 O nm d) {a : Addr} {Cl : String} {fs : List (String × String × String × Value)} {i j kk : Nat} {old v : Value} {ty : FieldType}
    (hi : l[i]? = some (a, true, .inl (Cl, fs))) (hj : fs[j]? = some (O, nm, d, old)) (hl : Wd κ (.lays Cl O nm d) ∨ (Wd κ (.laysFinal Cl O nm d) ∧ y.cls = O ∧ y.name = "<init>")) (wi : Wd κ (.instantiable Cl kk)) (hty : parseFieldDescriptor d = some ty) (hn : narrow ty v = v) (hf : fits ty v = true) (hl' : l.set i (a, true, .inl (Cl, fs.set j (O, nm, d, v))) = l')
    (K : WP κ y (pc + 3) L S F l' k n) : WP κ y pc L (v :: .ref a :: S) F l k n := fun T G => by
  obtain ⟨meth, c, X, hb, -⟩ := G.stand C M (d := 0) (w := 0) G.room
  subst hb
  have H := G.hp.1 _ (List.mem_of_getElem? hi)
  have hS := G.hp.2.2 _ (List.mem_of_getElem? hi) rfl
  obtain ⟨m1, c1, h1, h2, -⟩ := M.get
  have hname : meth.name = y.name := by
    have q : (kZ κ).vm.method? (mid κ y) = some meth := by
      have q := X.method'
      rw [G.alike.method?] at q; exact q
    exact (name_of_methodNamed h1 q).1
  obtain ⟨T', h', X', e', W, st⟩ := putF X C.exec G.warm (G.own M) (host := "") (Or.inl w) via.via rfl (H.2.1 _ (List.mem_of_getElem? hj)) H.1 (hl.imp id fun q => ⟨q.1, q.2.1, hname.trans q.2.2⟩) wi hty hn hf (g := mkF (mid κ y) pc L.toArray (v :: .ref a :: S)) rfl rfl hd
  have A := G.warmed C X'
  subst e'
  obtain ⟨q1, q2⟩ := (G.hp.warm A).wr A.1 hi W (H.put hj W)
  rw [hl'] at q1
  exact G.go st (K _ (G.next X' (one_loc hS.1) G.cells G.slots rfl q2 q1))
/-- what 'new' needs to know of a class -/
def Cls (κ : Cx) (Cl : String) (fs : List (String × String × String × Value)) : Prop :=
  (∀ f ∈ fs, Laid (kZ κ) (ka κ) Cl f.1 f.2.1 f.2.2.1 ∧ ∃ ty, parseFieldDescriptor f.2.2.1 = some ty ∧ f.2.2.2 = defaultValue ty) ∧ (fs.map (fslot κ)).Nodup
theorem wp_new (C : Ok κ) (M : Meth κ y bytes mx rt) {ix : Nat} (hd : decode bytes pc = .ok (.new ix, 3)) {Cl : String} {nn : Nat} (w1 : Wd κ (.classLink y.cls ix Cl)) (w2 : Wd κ (.instantiable Cl nn)) (w3 : Wd κ (.initialized Cl)) {fs : List (String × String × String × Value)} (hc : Cls κ Cl fs) (hk : k + 1 ≤ (kR κ).cells) (hn : n + nn ≤ (kR κ).slots)
    (K : ∀ a, WP κ y (pc + 3) L (.ref a :: S) F ((a, true, .inl (Cl, fs)) :: l) (k + 1) (n + nn)) : WP κ y pc L S F l k n := fun T G => by
  obtain ⟨meth, c, X, hb, -⟩ := G.stand C M (d := 0) (w := 0) G.room
  subst hb
  obtain ⟨T', h', X', e', E, A, D, -, st⟩ := newO X C.exec G.warm (G.own M) w1 w2 w3 rfl (g := mkF (mid κ y) pc L.toArray S) rfl hd (by show 0 + 1 ≤ (kR κ).cells - k; omega) (by show 0 + nn ≤ (kR κ).slots - n; omega)
  have B := G.warmed C X'
  have B2 : CHr (kZ κ) (kE κ) T.vm T.heap T'.vm h' := B.trans (CHr.ext E B.1)
  subst e'
  have hx : Holds κ T'.heap (T.heap.size, true, .inl (Cl, fs)) := ⟨A, fun f hf => by
    obtain ⟨hL, ty, ht, hv⟩ := hc.1 f hf
    rw [hv]; exact D hL ht, hc.2⟩
  have hS : Safe (kZ κ) (kE κ) T'.vm T'.heap T.heap.size := fun Bk => by
    have q := (B.1.step fun _ _ _ q => E.2 _ _ q).2 _ Bk
    obtain ⟨cell, hcell⟩ := q.there
    exact absurd (Array.getElem?_eq_some_iff.mp hcell).1 (Nat.lt_irrefl _)
  simp only [Nat.zero_add] at X'
  exact G.go st (K _ _ (G.next X' nolocs hk hn rfl B2.1 (Hp.new E B2 G.hp G.size hx hS)))
theorem wp_newarray (C : Ok κ) (M : Meth κ y bytes mx rt) {aty : ArrayType} (hd : decode bytes pc = .ok (.newarray aty, 2)) {ty : FieldType} (hty : newarray.typeOf aty = ty) (w : Wd κ (.arrayClass ty)) {z : Int32} {len : Nat} (hz : Ix z len) (hb : len * 8 ≤ 536870912) (hk : k + 1 ≤ (kR κ).cells) (hn : n + len ≤ (kR κ).slots) {vs : List Value} (hv : List.replicate len (defaultValue ty) = vs)
    (K : ∀ a, WP κ y (pc + 2) L (.ref a :: S) F ((a, true, .inr (ty, vs)) :: l) (k + 1) (n + len)) : WP κ y pc L (.int z :: S) F l k n := fun T G => by
  obtain ⟨meth, c, X, hbb, -⟩ := G.stand C M (d := 0) (w := 0) G.room
  subst hbb hty hv
  obtain ⟨T', h', cA, X', e', E, A, st⟩ := newP X C.exec G.warm w rfl (g := mkF (mid κ y) pc L.toArray (.int z :: S)) rfl hd rfl hz.1 (cap := len) (Nat.le_of_eq hz.2) hb (by show 0 + 1 ≤ (kR κ).cells - k; omega) (by show 0 + len ≤ (kR κ).slots - n; omega)
  have B := G.warmed C X'
  have B2 : CHr (kZ κ) (kE κ) T.vm T.heap T'.vm h' := B.trans (CHr.ext E B.1)
  subst e'
  have hx : Holds κ T'.heap (T.heap.size, true, .inr (newarray.typeOf aty, List.replicate len (defaultValue (newarray.typeOf aty)))) := ⟨_, A, by simp [newA, hz.2], fun C h => by cases aty <;> cases h⟩
  have hS : Safe (kZ κ) (kE κ) T'.vm T'.heap T.heap.size := fun Bk => by
    have q := (B.1.step fun _ _ _ q => E.2 _ _ q).2 _ Bk
    obtain ⟨cell, hcell⟩ := q.there
    exact absurd (Array.getElem?_eq_some_iff.mp hcell).1 (Nat.lt_irrefl _)
  simp only [Nat.zero_add] at X'
  exact G.go st (K _ _ (G.next X' nolocs hk hn rfl B2.1 (Hp.new E B2 G.hp G.size hx hS)))
theorem wp_arraylength (C : Ok κ) (M : Meth κ y bytes mx rt) (hd : decode bytes pc = .ok (.arraylength, 1)) {a : Addr} {mu : Bool} {ty : FieldType} {vs : List Value} (hm : (a, mu, .inr (ty, vs)) ∈ l) {z : Int32} (hz : vs.length.toInt32 = z)
    (K : WP κ y (pc + 1) L (.int z :: S) F l k n) : WP κ y pc L (.ref a :: S) F l k n := fun T G => by
  obtain ⟨meth, c, X, hb, -⟩ := G.stand C M (d := 0) (w := 0) G.room
  subst hb
  obtain ⟨cl, A, ev, ov⟩ := G.hp.1 _ hm
  have e : cl.slots.size.toInt32 = z := by rw [← hz, ← ev]; simp
  refine G.go (T' := T) (fun target h => X.arraylength C.exec A.1 (State.isArrayOf_alike (T := base κ T y F) G.alike A.2.1) (g := mkF (mid κ y) pc L.toArray (.ref a :: S)) rfl rfl hd target ?_) (K _ (G.next X nolocs G.cells G.slots rfl G.ch G.hp))
  rw [e]; exact h
theorem ix_in {cl : Cell} {vs : List Value} {j : Int32} {i : Nat} {v : Value} (ev : cl.slots.toList = vs) (hj : Ix j i) (hv : vs[i]? = some v) : ¬ (j < 0 ∨ cl.slots.size ≤ j.toNatClampNeg) ∧ cl.slots[j.toNatClampNeg]? = some v := by
  subst ev
  have q : cl.slots[i]? = some v := by simpa using hv
  have q2 := (Array.getElem?_eq_some_iff.mp q).1
  rw [hj.2]
  refine ⟨fun r => ?_, q⟩
  rcases r with r | r
  · exact hj.1 r
  · omega
theorem wp_iaload (C : Ok κ) (M : Meth κ y bytes mx rt) (hd : decode bytes pc = .ok (.iaload, 1)) {a : Addr} {mu : Bool} {vs : List Value} (hm : (a, mu, .inr (.int, vs)) ∈ l) {j : Int32} {i : Nat} {v : Value} (hj : Ix j i) (hv : vs[i]? = some v)
    (K : WP κ y (pc + 1) L (v :: S) F l k n) : WP κ y pc L (.int j :: .ref a :: S) F l k n := fun T G => by
  obtain ⟨meth, c, X, hb, -⟩ := G.stand C M (d := 0) (w := 0) G.room
  subst hb
  obtain ⟨cl, A, ev, ov⟩ := G.hp.1 _ hm
  obtain ⟨q1, q2⟩ := ix_in ev hj hv
  exact G.go (T' := T) (fun target h => X.iaload C.exec A.1 (State.isArrayOf_alike (T := base κ T y F) G.alike A.2.1) A.2.2 q1 q2 (g := mkF (mid κ y) pc L.toArray (.int j :: .ref a :: S)) rfl rfl hd target h) (K _ (G.next X nolocs G.cells G.slots rfl G.ch G.hp))
theorem wp_laload (C : Ok κ) (M : Meth κ y bytes mx rt) (hd : decode bytes pc = .ok (.laload, 1)) {a : Addr} {mu : Bool} {vs : List Value} (hm : (a, mu, .inr (.long, vs)) ∈ l) {j : Int32} {i : Nat} {v : Value} (hj : Ix j i) (hv : vs[i]? = some v)
    (K : WP κ y (pc + 1) L (v :: S) F l k n) : WP κ y pc L (.int j :: .ref a :: S) F l k n := fun T G => by
  obtain ⟨meth, c, X, hb, -⟩ := G.stand C M (d := 0) (w := 0) G.room
  subst hb
  obtain ⟨cl, A, ev, ov⟩ := G.hp.1 _ hm
  obtain ⟨q1, q2⟩ := ix_in ev hj hv
  exact G.go (T' := T) (fun target h => X.laload C.exec A.1 (State.isArrayOf_alike (T := base κ T y F) G.alike A.2.1) A.2.2 q1 q2 (g := mkF (mid κ y) pc L.toArray (.int j :: .ref a :: S)) rfl rfl hd target h) (K _ (G.next X nolocs G.cells G.slots rfl G.ch G.hp))
theorem wp_caload (C : Ok κ) (M : Meth κ y bytes mx rt) (hd : decode bytes pc = .ok (.caload, 1)) {a : Addr} {mu : Bool} {vs : List Value} (hm : (a, mu, .inr (.char, vs)) ∈ l) {j : Int32} {i : Nat} {v : Value} (hj : Ix j i) (hv : vs[i]? = some v)
    (K : WP κ y (pc + 1) L (v :: S) F l k n) : WP κ y pc L (.int j :: .ref a :: S) F l k n := fun T G => by
  obtain ⟨meth, c, X, hb, -⟩ := G.stand C M (d := 0) (w := 0) G.room
  subst hb
  obtain ⟨cl, A, ev, ov⟩ := G.hp.1 _ hm
  obtain ⟨q1, q2⟩ := ix_in ev hj hv
  exact G.go (T' := T) (fun target h => X.caload C.exec A.1 (State.isArrayOf_alike (T := base κ T y F) G.alike A.2.1) A.2.2 q1 q2 (g := mkF (mid κ y) pc L.toArray (.int j :: .ref a :: S)) rfl rfl hd target h) (K _ (G.next X nolocs G.cells G.slots rfl G.ch G.hp))
theorem wp_baload (C : Ok κ) (M : Meth κ y bytes mx rt) (hd : decode bytes pc = .ok (.baload, 1)) {a : Addr} {mu : Bool} {vs : List Value} (hm : (a, mu, .inr (.byte, vs)) ∈ l) {j : Int32} {i : Nat} {v : Value} (hj : Ix j i) (hv : vs[i]? = some v)
    (K : WP κ y (pc + 1) L (v :: S) F l k n) : WP κ y pc L (.int j :: .ref a :: S) F l k n := fun T G => by
  obtain ⟨meth, c, X, hb, -⟩ := G.stand C M (d := 0) (w := 0) G.room
  subst hb
  obtain ⟨cl, A, ev, ov⟩ := G.hp.1 _ hm
  obtain ⟨q1, q2⟩ := ix_in ev hj hv
  exact G.go (T' := T) (fun target h => X.baloadBytes C.exec A.1 (State.isArrayOf_alike (T := base κ T y F) G.alike A.2.1) A.2.2 q1 q2 (g := mkF (mid κ y) pc L.toArray (.int j :: .ref a :: S)) rfl rfl hd target h) (K _ (G.next X nolocs G.cells G.slots rfl G.ch G.hp))
theorem wp_aaload (C : Ok κ) (M : Meth κ y bytes mx rt) (hd : decode bytes pc = .ok (.aaload, 1)) {a : Addr} {mu : Bool} {ty : FieldType} {vs : List Value} (hty : ty.isReference = true) (hm : (a, mu, .inr (ty, vs)) ∈ l) {j : Int32} {i : Nat} {v : Value} (hj : Ix j i) (hv : vs[i]? = some v)
    (K : WP κ y (pc + 1) L (v :: S) F l k n) : WP κ y pc L (.int j :: .ref a :: S) F l k n := fun T G => by
  obtain ⟨meth, c, X, hb, -⟩ := G.stand C M (d := 0) (w := 0) G.room
  subst hb
  obtain ⟨cl, A, ev, ov⟩ := G.hp.1 _ hm
  obtain ⟨q1, q2⟩ := ix_in ev hj hv
  exact G.go (T' := T) (fun target h => X.aaload C.exec A.1 (State.isArrayOf_alike (T := base κ T y F) G.alike A.2.1) hty A.2.2 q1 q2 (g := mkF (mid κ y) pc L.toArray (.int j :: .ref a :: S)) rfl rfl hd target h) (K _ (G.next X nolocs G.cells G.slots rfl G.ch G.hp))
theorem Holds.store {h h' : Heap} {a : Addr} {mu : Bool} {ty : FieldType} {vs : List Value} {i : Nat} {v : Value} (H : Holds κ h (a, mu, .inr (ty, vs))) (W : Wr h h' a i v) : Holds κ h' (a, mu, .inr (ty, vs.set i v)) := by
  obtain ⟨cl, A, ev, ov⟩ := H
  exact ⟨_, A.same W, by rw [← ev]; simp [Cell.setSlot], ov⟩
theorem wp_iastore (C : Ok κ) (M : Meth κ y bytes mx rt) (hd : decode bytes pc = .ok (.iastore, 1)) {a : Addr} {vs : List Value} {i j : Nat} {z : Int32} {x : Int32} {v' : Value} (hi : l[i]? = some (a, true, .inr (.int, vs))) (hj : Ix z j) (hv : j < vs.length) (hx : (.int x : Value) = v') (hl' : l.set i (a, true, .inr (.int, vs.set j v')) = l')
    (K : WP κ y (pc + 1) L S F l' k n) : WP κ y pc L (.int x :: .int z :: .ref a :: S) F l k n := fun T G => by
  obtain ⟨meth, c, X, hb, -⟩ := G.stand C M (d := 0) (w := 0) G.room
  subst hb hx
  have H := G.hp.1 _ (List.mem_of_getElem? hi)
  have hS := G.hp.2.2 _ (List.mem_of_getElem? hi) rfl
  obtain ⟨cl, A, ev, ov⟩ := H
  obtain ⟨q1, -⟩ := ix_in ev hj (List.getElem?_eq_getElem hv)
  obtain ⟨T', h', X', e', W, st⟩ := stI X C.exec (Z := kZ κ) G.warm rfl A (j := z) (x := x) q1 (g := mkF (mid κ y) pc L.toArray (.int x :: .int z :: .ref a :: S)) rfl rfl hd
  have B := G.warmed C X'
  subst e'
  rw [hj.2] at W
  obtain ⟨r1, r2⟩ := (G.hp.warm B).wr B.1 hi W (Holds.store ⟨cl, A, ev, ov⟩ W)
  have r1 : Hp κ T'.vm T'.heap l' := hl' ▸ r1
  exact G.go st (K _ (G.next X' (one_loc hS.1) G.cells G.slots rfl r2 r1))
theorem wp_lastore (C : Ok κ) (M : Meth κ y bytes mx rt) (hd : decode bytes pc = .ok (.lastore, 1)) {a : Addr} {vs : List Value} {i j : Nat} {z : Int32} {x : Int64} {v' : Value} (hi : l[i]? = some (a, true, .inr (.long, vs))) (hj : Ix z j) (hv : j < vs.length) (hx : (.long x : Value) = v') (hl' : l.set i (a, true, .inr (.long, vs.set j v')) = l')
    (K : WP κ y (pc + 1) L S F l' k n) : WP κ y pc L (.long x :: .int z :: .ref a :: S) F l k n := fun T G => by
  obtain ⟨meth, c, X, hb, -⟩ := G.stand C M (d := 0) (w := 0) G.room
  subst hb hx
  have H := G.hp.1 _ (List.mem_of_getElem? hi)
  have hS := G.hp.2.2 _ (List.mem_of_getElem? hi) rfl
  obtain ⟨cl, A, ev, ov⟩ := H
  obtain ⟨q1, -⟩ := ix_in ev hj (List.getElem?_eq_getElem hv)
  obtain ⟨T', h', X', e', W, st⟩ := stJ X C.exec (Z := kZ κ) G.warm rfl A (j := z) (x := x) q1 (g := mkF (mid κ y) pc L.toArray (.long x :: .int z :: .ref a :: S)) rfl rfl hd
  have B := G.warmed C X'
  subst e'
  rw [hj.2] at W
  obtain ⟨r1, r2⟩ := (G.hp.warm B).wr B.1 hi W (Holds.store ⟨cl, A, ev, ov⟩ W)
  have r1 : Hp κ T'.vm T'.heap l' := hl' ▸ r1
  exact G.go st (K _ (G.next X' (one_loc hS.1) G.cells G.slots rfl r2 r1))
theorem wp_castore (C : Ok κ) (M : Meth κ y bytes mx rt) (hd : decode bytes pc = .ok (.castore, 1)) {a : Addr} {vs : List Value} {i j : Nat} {z : Int32} {x : Int32} {v' : Value} (hi : l[i]? = some (a, true, .inr (.char, vs))) (hj : Ix z j) (hv : j < vs.length) (hx : (.int x.toUInt32.toUInt16.toUInt32.toInt32 : Value) = v') (hl' : l.set i (a, true, .inr (.char, vs.set j v')) = l')
    (K : WP κ y (pc + 1) L S F l' k n) : WP κ y pc L (.int x :: .int z :: .ref a :: S) F l k n := fun T G => by
  obtain ⟨meth, c, X, hb, -⟩ := G.stand C M (d := 0) (w := 0) G.room
  subst hb hx
  have H := G.hp.1 _ (List.mem_of_getElem? hi)
  have hS := G.hp.2.2 _ (List.mem_of_getElem? hi) rfl
  obtain ⟨cl, A, ev, ov⟩ := H
  obtain ⟨q1, -⟩ := ix_in ev hj (List.getElem?_eq_getElem hv)
  obtain ⟨T', h', X', e', W, st⟩ := stC X C.exec (Z := kZ κ) G.warm rfl A (j := z) (x := x) q1 (g := mkF (mid κ y) pc L.toArray (.int x :: .int z :: .ref a :: S)) rfl rfl hd
  have B := G.warmed C X'
  subst e'
  rw [hj.2] at W
  obtain ⟨r1, r2⟩ := (G.hp.warm B).wr B.1 hi W (Holds.store ⟨cl, A, ev, ov⟩ W)
  have r1 : Hp κ T'.vm T'.heap l' := hl' ▸ r1
  exact G.go st (K _ (G.next X' (one_loc hS.1) G.cells G.slots rfl r2 r1))
theorem wp_bastore (C : Ok κ) (M : Meth κ y bytes mx rt) (hd : decode bytes pc = .ok (.bastore, 1)) {a : Addr} {vs : List Value} {i j : Nat} {z : Int32} {x : Int32} {v' : Value} (hi : l[i]? = some (a, true, .inr (.byte, vs))) (hj : Ix z j) (hv : j < vs.length) (hx : (.int x.toInt8.toInt32 : Value) = v') (hl' : l.set i (a, true, .inr (.byte, vs.set j v')) = l')
    (K : WP κ y (pc + 1) L S F l' k n) : WP κ y pc L (.int x :: .int z :: .ref a :: S) F l k n := fun T G => by
  obtain ⟨meth, c, X, hb, -⟩ := G.stand C M (d := 0) (w := 0) G.room
  subst hb hx
  have H := G.hp.1 _ (List.mem_of_getElem? hi)
  have hS := G.hp.2.2 _ (List.mem_of_getElem? hi) rfl
  obtain ⟨cl, A, ev, ov⟩ := H
  obtain ⟨q1, -⟩ := ix_in ev hj (List.getElem?_eq_getElem hv)
  obtain ⟨T', h', X', e', W, st⟩ := stB X C.exec (Z := kZ κ) G.warm rfl A (j := z) (x := x) q1 (g := mkF (mid κ y) pc L.toArray (.int x :: .int z :: .ref a :: S)) rfl rfl hd
  have B := G.warmed C X'
  subst e'
  rw [hj.2] at W
  obtain ⟨r1, r2⟩ := (G.hp.warm B).wr B.1 hi W (Holds.store ⟨cl, A, ev, ov⟩ W)
  have r1 : Hp κ T'.vm T'.heap l' := hl' ▸ r1
  exact G.go st (K _ (G.next X' (one_loc hS.1) G.cells G.slots rfl r2 r1))
theorem perm_erase {α : Type} : ∀ {l : List α} {i : Nat} {x : α}, l[i]? = some x → l.Perm (x :: l.eraseIdx i)
  | [], i, x, h => by simp at h
  | a :: r, 0, x, h => by
    simp at h
    subst h
    exact List.Perm.refl _
  | a :: r, i + 1, x, h => ((perm_erase (l := r) (i := i) (by simpa using h)).cons a).trans (List.Perm.swap x a _)
/-- chunks turned round, dropped, shut -/
theorem wp_weaken (h : ∀ vm h, Hp κ vm h l → Hp κ vm h l') (K : WP κ y pc L S F l' k n) : WP κ y pc L S F l k n := fun T G => K T ⟨G.1, G.2.1, G.2.2.1, G.2.2.2.1, G.2.2.2.2.1, h _ _ G.hp, G.2.2.2.2.2.2⟩
theorem wp_front (i : Nat) {x : Chunk} {r : List Chunk} (hi : l[i]? = some x) (hr : l.eraseIdx i = r) (K : WP κ y pc L S F (x :: r) k n) : WP κ y pc L S F l k n := wp_weaken (fun vm h H => H.perm (by subst hr; exact perm_erase hi)) K
theorem wp_drop {x : Chunk} (K : WP κ y pc L S F l k n) : WP κ y pc L S F (x :: l) k n := wp_weaken (fun vm h H => H.drop) K
theorem wp_freeze {a : Addr} {mu : Bool} {c : String × List (String × String × String × Value) ⊕ FieldType × List Value} (K : WP κ y pc L S F ((a, false, c) :: l) k n) : WP κ y pc L S F ((a, mu, c) :: l) k n := wp_weaken (fun vm h H => H.freeze) K
theorem wp_room {k' n' : Nat} (hk : k ≤ k') (hn : n ≤ n') (hk' : k' ≤ (kR κ).cells) (hn' : n' ≤ (kR κ).slots) (K : WP κ y pc L S F l k' n') : WP κ y pc L S F l k n := fun T G => K T ⟨G.1, G.2.1.mono hk hn, G.2.2.1, G.2.2.2.1, G.2.2.2.2.1, G.2.2.2.2.2.1, hk', hn', G.2.2.2.2.2.2.2.2⟩
/-- two cells of the list that may be written are apart -/
theorem wp_ne {i j : Nat} {x z : Chunk} (hi : l[i]? = some x) (hj : l[j]? = some z) (hne : i ≠ j) (hm : x.2.1 = true ∨ z.2.1 = true) (K : x.1 ≠ z.1 → WP κ y pc L S F l k n) : WP κ y pc L S F l k n := fun T G => K (G.hp.apart hi hj hne hm) T G
end R
end Jvm.WK
namespace Jvm.WK
open Sem ClassFile Op Lib Jvm.Stand Jvm.Free Jvm.LawKit Jvm.RoadKit
/-! ## 7. calls and returns -/
/-- a frame of yc waits at pcc, its call so many bytes long -/
def Caller (κ : Cx) (yc : MethodName) (pcc len : Nat) : Prop := ∃ (bc : ByteArray) (mxc : Nat) (rc : Option FieldType) (ic : Instr), Meth κ yc bc mxc rc ∧ decode bc pcc = .ok (ic, len)
/-- how arguments are laid into a frame -/
def lay : List Value → Nat → List Slot
  | [], n => List.replicate n .unset
  | .long v :: vs, n => .val (.long v) :: .second :: lay vs (n - 2)
  | .double v :: vs, n => .val (.double v) :: .second :: lay vs (n - 2)
  | v :: vs, n => .val v :: lay vs (n - 1)
theorem lay_eq : ∀ (vs : List Value) (n : Nat), lay vs n = Jvm.Sym.laidSlots vs ++ List.replicate (n - (Jvm.Sym.laidSlots vs).length) .unset
  | [], n => rfl
  | v :: vs, n => by
    have h1 := lay_eq vs (n - 1)
    have h2 := lay_eq vs (n - 2)
    cases v <;> simp only [lay, Jvm.Sym.laidSlots, Value.category, h1, h2, if_true, List.cons_append, List.length_cons] <;> simp [Nat.sub_sub, Nat.add_comm] <;> omega
theorem args_lay {vs : List Value} {n : Nat} {L : List Slot} (h : lay vs n = L) : argsToLocals vs.toArray n = L.toArray := by
  apply Array.toList_inj.mp
  rw [Jvm.Sym.argsToLocals_toList, ← h, lay_eq]
section R
variable {κ : Cx} {T : State} {y : MethodName} {pc pc' : Nat} {L L' : List Slot} {S S' : List Value} {F : List Frame} {l l' : List Chunk} {k n : Nat} {bytes : ByteArray} {mx : Nat} {rt : Option FieldType}
theorem Meth.caller (M : Meth κ y bytes mx rt) {i : Instr} {len : Nat} (hd : decode bytes pc = .ok (i, len)) : Caller κ y pc len := ⟨bytes, mx, rt, i, M, hd⟩
theorem Good.goU (G : Good κ T y pc L S F l k n) {U : State} (st : Steps (kp κ).tables (ke κ) (F ++ kb κ) (T.setTop (mkF (mid κ y) pc L.toArray S)) U) (D : Done κ U) : Done κ T := by
  obtain ⟨t, h1, h2⟩ := D
  have e : T.setTop (mkF (mid κ y) pc L.toArray S) = T := State.setTop_self (State.topJava?_of_frames G.1)
  rw [e] at st
  exact ⟨t, (steps_weaken st).trans h1, h2⟩
theorem Good.zcur (G : Good κ T y pc L S F l k n) : (kZ κ).cur < (kZ κ).threads.size := by
  have q := State.cur_lt_of_frames G.1
  rw [G.threads, G.curEq] at q
  simpa [State.setFrames] using q
theorem Good.room2 (G : Good κ T y pc L S F l k n) {mx' : Nat} (hR : Rm κ (fr κ y pc L S' :: F) 1 (mx' + 11)) : Rm κ F (1 + 1) (L.length + 11 + (cats S' + (mx' + 11))) := by
  refine ⟨by have := hR.1; simp only [List.length_cons] at this; omega, ?_⟩
  have := hR.2
  rw [wt_cons, fr_weight] at this
  omega
/-- into the callee -/
theorem Good.enter (C : Ok κ) (G : Good κ T y pc L S F l k n) (M : Meth κ y bytes mx rt) {i : Instr} {il : Nat} (hd : decode bytes pc = .ok (i, il)) {y' : MethodName} {bytes' : ByteArray} {mx' : Nat} {rt' : Option FieldType} (M' : Meth κ y' bytes' mx' rt') {args : List Value}
    (hL : argsToLocals args.toArray mx' = L'.toArray) (hL' : L'.length = mx') (hR : Rm κ (fr κ y pc L S' :: F) 1 (mx' + 11)) {a b : Nat} {meth : Method} {c : Code} {vm₁ : Vm}
    (X₁ : Stand (kp κ) (kl κ) (ke κ) ⟨1, a, b, cats S' + (mx' + 11)⟩ (base κ T y F) (mid κ y) (ka κ) (F ++ kb κ) meth c (T.setVm vm₁) [] 0 0) (hml : c.maxLocals = L.length)
    (K : WP κ y' 0 L' [] (fr κ y pc L S' :: F) l k n) : Done κ (doInvoke (ke κ) ((T.setVm vm₁).setTop (mkF (mid κ y) pc L.toArray S')) [] (mid κ y') args.toArray).1 := by
  obtain ⟨meth', c', h1, h2, h3, h4, h5, h6, h7, -⟩ := M'.get
  have hal : (kZ κ).vm.Alike vm₁ := G.alike.trans (X₁.warmed.alike)
  have hm' : vm₁.method? (mid κ y') = some meth' := by rw [hal.method?]; exact h2
  have hfrT : (T.setVm vm₁).frames = .java (mkF (mid κ y) pc L.toArray S) :: (F ++ kb κ) := G.1
  have hfull := X₁.notFull (g := mkF (mid κ y) pc L.toArray S') (by show L.toArray.size = c.maxLocals; rw [hml]; simp) (vars := c'.maxLocals) (Nat.le_refl 1) (by
    show 2 * 0 + cats S' + (c'.maxLocals + 11) ≤ cats S' + (mx' + 11)
    rw [h5]; omega)
  have eU : (doInvoke (ke κ) ((T.setVm vm₁).setTop (mkF (mid κ y) pc L.toArray S')) [] (mid κ y') args.toArray).1 = (T.setVm vm₁).setFrames (fr κ y' 0 L' [] :: fr κ y pc L S' :: (F ++ kb κ)) := by
    rw [(doInvoke_java (s := (T.setVm vm₁).setTop (mkF (mid κ y) pc L.toArray S')) (e := ke κ) (acts := []) (args := args.toArray) (meth := meth') (code := c') hm' h3 h7 hfull).1]
    have e2 : ((T.setVm vm₁).setTop (mkF (mid κ y) pc L.toArray S')).frames = .java (mkF (mid κ y) pc L.toArray S') :: (F ++ kb κ) := State.frames_setTop _ hfrT
    unfold State.pushFrame
    rw [e2, State.setTop_of_frames _ hfrT, State.setFrames_setFrames, h5, hL]
    rfl
  rw [eU]
  have hcurT : (T.setVm vm₁).cur < (T.setVm vm₁).threads.size := State.cur_lt_of_frames hfrT
  have A := G.warmed C X₁
  have eL := G.len M
  refine K _ ⟨State.frames_setFrames _ hcurT, ?_, G.since' X₁.warmed (Nat.le_refl _), fun h => G.strict' X₁.warmed h, A.1, G.hp.warm A, G.cells, G.slots, fun f hf => ?_, by rw [hL']; exact hR, ⟨bytes', rt', by rw [hL']; exact M'⟩⟩
  · exact G.2.1.setFrames _ G.zcur
  · rcases List.mem_cons.mp hf with rfl | hf
    · exact ⟨y, bytes, rt, pc, L, S', i, il, rfl, by rw [eL]; exact M, hd⟩
    · exact G.2.2.2.2.2.2.2.2.1 f hf
theorem wp_invokestatic (C : Ok κ) (M : Meth κ y bytes mx rt) {ix : Nat} (hd : decode bytes pc = .ok (.invokestatic ix, 3)) {y' : MethodName} {bytes' : ByteArray} {mx' : Nat} {rt' : Option FieldType} (M' : Meth κ y' bytes' mx' rt') (w1 : Wd κ (.methodLink y.cls ix y')) (w2 : Wd κ (.static y')) (w3 : Wd κ (.initialized y'.cls))
    (hy : y'.cls ≠ "java/lang/invoke/MethodHandle" ∧ y'.cls ≠ "java/lang/invoke/VarHandle") (args : List Value) (hlen : ∀ sig, parseMethodDescriptor y'.desc = some sig → args.length = sig.parameters.length) (hS : S = args.reverse ++ S') (hL : lay args mx' = L') (hL' : L'.length = mx') (hR : Rm κ (fr κ y pc L S' :: F) 1 (mx' + 11))
    (K : WP κ y' 0 L' [] (fr κ y pc L S' :: F) l k n) : WP κ y pc L S F l k n := fun T G => by
  obtain ⟨meth, c, X, hb, hml, -⟩ := G.stand C M (d := 1) (w := cats S' + (mx' + 11)) (G.room2 hR)
  subst hb
  obtain ⟨meth', c', h1, h2, h3, h4, h5, h6, h7, -, h8⟩ := M'.get
  have hn : (base κ T y F).methodNamed? y' = some (mid κ y') := by
    have q : ((kZ κ).setVm T.vm).methodNamed? y' = some (mid κ y') := by rw [State.methodNamed?_setVm G.alike]; exact h1
    exact q
  have hm : (base κ T y F).vm.method? (mid κ y') = some meth' := by show T.vm.method? _ = _; rw [G.alike.method?]; exact h2
  obtain ⟨kP, hkP, -⟩ := className_of_methodNamed hn
  have hinitP : kP.init = .initialized := Cond.initialized_spec (args := ka κ) (findClass_of_methodNamed hn) hkP (mv (s := base κ T y F) G.warm w3)
  have hst : meth'.isStatic = true := Cond.static_spec hn hm (mv (s := base κ T y F) (args := ka κ) G.warm w2)
  obtain ⟨vm₁, X₁, hstep⟩ := X.invokestatic C.exec (G.own M) (mv (s := base κ T y F) G.warm w1) hn hm hst hkP hinitP hy (g := mkF (mid κ y) pc L.toArray S) rfl (argsL := args) (rest := S') (hlen _ h8) hS hd
  exact G.goU (hstep _ fun acts => by rw [doInvoke_state]; exact Steps.refl _) (G.enter C M hd M' (args_lay hL) hL' hR X₁ hml K)
theorem wp_init (C : Ok κ) (M : Meth κ y bytes mx rt) {ix : Nat} (hd : decode bytes pc = .ok (.invokespecial ix, 3)) {y' : MethodName} {bytes' : ByteArray} {mx' : Nat} (M' : Meth κ y' bytes' mx' none) (hi : y'.name = "<init>") (w1 : Wd κ (.methodLink y.cls ix y')) (w2 : Wd κ (.instanceMethod y'))
    (hy : y'.cls ≠ "java/lang/invoke/MethodHandle" ∧ y'.cls ≠ "java/lang/invoke/VarHandle") (a : Addr) (args : List Value) (hlen : ∀ sig, parseMethodDescriptor y'.desc = some sig → args.length = sig.parameters.length) (hS : S = args.reverse ++ .ref a :: S') (hL : lay (.ref a :: args) mx' = L') (hL' : L'.length = mx') (hR : Rm κ (fr κ y pc L S' :: F) 1 (mx' + 11))
    (K : WP κ y' 0 L' [] (fr κ y pc L S' :: F) l k n) : WP κ y pc L S F l k n := fun T G => by
  obtain ⟨meth, c, X, hb, hml, -⟩ := G.stand C M (d := 1) (w := cats S' + (mx' + 11)) (G.room2 hR)
  subst hb
  obtain ⟨meth', c', h1, h2, h3, h4, h5, h6, h7, -, h8⟩ := M'.get
  have hpl : (ke κ).platform.magicAccessors = ({} : Platform).magicAccessors := by rw [X.admits.platform]
  obtain ⟨mk, methM, cM, kP, vm₁, hnamed, hmethM, -, -, -, -, hkP, -, hW₁, hstep⟩ := Steps.initColdArgs (e := ke κ) X.here C.exec X.warmed hpl (G.own M) hi hy (mv (s := base κ T y F) (args := ka κ) G.warm w1) (mv (s := base κ T y F) G.warm w2) (mv (s := base κ T y F) G.warm M'.2) (f := mkF (mid κ y) pc L.toArray S) rfl hlen hS hd
  have hn : (base κ T y F).methodNamed? y' = some (mid κ y') := by
    have q : ((kZ κ).setVm T.vm).methodNamed? y' = some (mid κ y') := by rw [State.methodNamed?_setVm G.alike]; exact h1
    exact q
  cases hnamed.symm.trans hn
  have X₁ := X.noted hW₁
  exact G.goU (hstep _ fun acts => by rw [doInvoke_state]; exact Steps.refl _) (G.enter C M hd M' (args_lay hL) hL' hR X₁ hml K)
theorem wp_initObject (C : Ok κ) (M : Meth κ y bytes mx rt) {ix : Nat} (hd : decode bytes pc = .ok (.invokespecial ix, 3)) (w1 : Wd κ (.methodLink y.cls ix Lib.objectInit)) (w2 : Wd κ (.instanceMethod Lib.objectInit)) (w3 : Wd κ (.code Lib.objectInit ⟨#[0xb1]⟩ 1 none)) {a : Addr} (hR : Rm κ (fr κ y pc L S :: F) 1 12)
    (K : WP κ y (pc + 3) L S F l k n) : WP κ y pc L (.ref a :: S) F l k n := fun T G => by
  obtain ⟨meth, c, X, hb, hml, -⟩ := G.stand C M (d := 1) (w := cats S + (1 + 11)) (G.room2 hR)
  subst hb
  obtain ⟨T', X', e', st⟩ := initO X C.exec G.warm (G.own M) w1 w2 w3 rfl (g := mkF (mid κ y) pc L.toArray (.ref a :: S)) rfl (by show L.toArray.size = c.maxLocals; rw [hml]; simp) rfl hd (Nat.le_refl 1) (W := cats S) (by show 2 * 0 + cats S ≤ _; omega) (Nat.le_refl _)
  have A := G.warmed C X'
  exact G.go st (K _ (G.next X' nolocs G.cells G.slots rfl (e' ▸ A.1) (e' ▸ G.hp.warm A)))
/-- the class of a receiver -/
theorem Good.recv (G : Good κ T y pc L S F l k n) {b : Addr} {mu : Bool} {Cl : String} {fs : List (String × String × String × Value)} (hm : (b, mu, .inl (Cl, fs)) ∈ l) : ∃ cB kB, (base κ T y F).vm.findClass Cl = some cB ∧ (base κ T y F).vm.classes[cB]? = some kB ∧ IsOf cB T b :=
  isOf (s := base κ T y F) (T := T) G.warm rfl (G.hp.1 _ hm).1
/-- the class that a call names is no interface -/
def NfW (κ : Cx) (y0 : MethodName) : Prop := (∃ D, Wd κ (.selects D y0 y0)) ∨ (∃ D, Wd κ (.superclass y0.cls D)) ∨ Wd κ (.noSuperclass y0.cls)
theorem NfW.at {y0 : MethodName} {s : State} (h : NfW κ y0) (hZ : (kZ κ).Warmed39 s.vm) : NotFace s y0 := by
  rcases h with ⟨D, h⟩ | ⟨D, h⟩ | h
  · exact notFace_of_selects (args := ka κ) (mv hZ h)
  · exact nf_super (args := ka κ) (mv hZ h)
  · exact nf_top (args := ka κ) (mv hZ h)
theorem wp_invokevirtual (C : Ok κ) (M : Meth κ y bytes mx rt) {ix : Nat} (hd : decode bytes pc = .ok (.invokevirtual ix, 3)) {y0 y' : MethodName} {bytes' : ByteArray} {mx' : Nat} {rt' : Option FieldType} (M' : Meth κ y' bytes' mx' rt') {Cl : String} (w1 : Wd κ (.methodLink y.cls ix y0)) (w2 : Wd κ (.declares y0)) (w3 : Wd κ (.selects Cl y0 y')) (w4 : Wd κ (.instanceMethod y')) (nf : NfW κ y0)
    (hy : y0.cls ≠ "java/lang/invoke/MethodHandle" ∧ y0.cls ≠ "java/lang/invoke/VarHandle") {b : Addr} {mu : Bool} {fs : List (String × String × String × Value)} (hm : (b, mu, .inl (Cl, fs)) ∈ l) (args : List Value) (hlen : ∀ sig, parseMethodDescriptor y0.desc = some sig → args.length = sig.parameters.length) (hS : S = args.reverse ++ .ref b :: S') (hL : lay (.ref b :: args) mx' = L') (hL' : L'.length = mx') (hR : Rm κ (fr κ y pc L S' :: F) 1 (mx' + 11))
    (K : WP κ y' 0 L' [] (fr κ y pc L S' :: F) l k n) : WP κ y pc L S F l k n := fun T G => by
  obtain ⟨meth, c, X, hb, hml, -⟩ := G.stand C M (d := 1) (w := cats S' + (mx' + 11)) (G.room2 hR)
  subst hb
  obtain ⟨meth', c', h1, h2, -⟩ := M'.get
  obtain ⟨cB, kB, hcB, -, cellB, hcellT, hclsB, hstatB⟩ := G.recv hm
  have v1 := mv (s := base κ T y F) (args := ka κ) G.warm w1
  have v2 := mv (s := base κ T y F) (args := ka κ) G.warm w2
  have v3 := mv (s := base κ T y F) (args := ka κ) G.warm w3
  have v4 := mv (s := base κ T y F) (args := ka κ) G.warm w4
  obtain ⟨r0, r, hn, hrm, hstR, hsigR⟩ := Cond.declares_spec v2
  obtain ⟨mk, methM, hnamed, hmethM, -, habM⟩ := Cond.instanceMethod_spec v4
  obtain ⟨c2, r2, m2, q1, q2, q3, q4, kP, hkP, hkPi⟩ := Cond.selects_spec v3
  cases hcB.symm.trans q1
  cases (State.methodFound?_of_named hn hy).symm.trans q2
  cases hnamed.symm.trans q3
  have hselP : selectMethod (ke κ).platform (base κ T y F).vm cellB.cls r0 = .method mk := by rw [Launch.admits_selectMethod X.admits, hclsB]; exact q4
  obtain ⟨kr, hkr, hni⟩ := nf.at (s := base κ T y F) G.warm r0 hn
  obtain ⟨vm₁, X₁, hstep⟩ := X.invokevirtual C.exec (G.own M) v1 hn hrm hstR hkr hni hy (a := b) (cell := cellB) hcellT (fun z h => by rw [h] at hstatB; cases hstatB) hselP hmethM habM hkP hkPi (g := mkF (mid κ y) pc L.toArray S) rfl (argsL := args) (rest := S') (hlen _ hsigR) hS hd
  have hn' : (base κ T y F).methodNamed? y' = some (mid κ y') := by
    have q : ((kZ κ).setVm T.vm).methodNamed? y' = some (mid κ y') := by rw [State.methodNamed?_setVm G.alike]; exact h1
    exact q
  cases hnamed.symm.trans hn'
  exact G.goU (hstep _ fun acts => by rw [doInvoke_state]; exact Steps.refl _) (G.enter C M hd M' (args_lay hL) hL' hR X₁ hml K)
/-- back to the caller -/
theorem Good.back (C : Ok κ) {yc : MethodName} {pcc len : Nat} {Lc : List Slot} {Sc : List Value} (G : Good κ T y pc L S (fr κ yc pcc Lc Sc :: F) l k n) (Cr : Caller κ yc pcc len) (v : Option Value) (K : WP κ yc (pcc + len) Lc (v.toList ++ Sc) F l k n) :
    ∃ fs, handOver T v ((fr κ yc pcc Lc Sc :: F) ++ kb κ) = some fs ∧ Done κ (T.setFrames fs) := by
  obtain ⟨bc, mxc, rc, ic, Mc, hdc⟩ := Cr
  obtain ⟨mc, cc, -, n2, n3, n4, n5, -⟩ := Mc.get
  have hm : T.vm.method? (mid κ yc) = some mc := by rw [G.alike.method?]; exact n2
  have hcode : T.code? (mid κ yc) = some cc := by rw [State.code?_eq, hm]; simp [n3]
  have hcur := State.cur_lt_of_frames G.1
  have hrm := G.2.2.2.2.2.2.2.2.2.1
  obtain ⟨yq, bq, rq, pq, Lq, Sq, iq, lq, eq, Mq, hdq⟩ := G.2.2.2.2.2.2.2.2.1 (fr κ yc pcc Lc Sc) (by simp)
  have eL : Lq = Lc := by
    have q := eq
    simp only [fr, Frame.java.injEq, mkF, JFrame.mk.injEq, Array.mk.injEq] at q
    have q2 := q.2.2.1
    first | exact q2.symm | (simp at q2; exact q2.symm)
  have eM : mid κ yq = mid κ yc := by
    have q := eq
    simp only [fr, Frame.java.injEq, mkF, JFrame.mk.injEq] at q
    exact q.1.symm
  have hLen : Lc.length = mxc := by
    obtain ⟨m2, c2, -, g2, g3, -, g5, -⟩ := Mq.get
    rw [eM] at g2
    cases g2.symm.trans n2
    cases g3.symm.trans n3
    rw [← eL, ← g5, n5]
  refine ⟨fr κ yc (pcc + len) Lc (v.toList ++ Sc) :: (F ++ kb κ), ?_, ?_⟩
  · show ((T.code? (mid κ yc)).bind fun c => (decode c.code pcc).toOption).map _ = _
    rw [hcode]
    simp [n4, hdc, Except.toOption]
    rfl
  · refine K _ ⟨State.frames_setFrames _ hcur, G.2.1.setFrames _ G.zcur, G.2.2.1, G.2.2.2.1, G.2.2.2.2.1, G.hp, G.cells, G.slots, fun f hf => G.2.2.2.2.2.2.2.2.1 f (List.mem_cons_of_mem _ hf), ?_, ⟨bc, rc, by rw [hLen]; exact Mc⟩⟩
    refine ⟨by have := hrm.1; simp only [List.length_cons] at this; omega, ?_⟩
    have := hrm.2
    rw [wt_cons, fr_weight] at this
    omega
theorem wp_ret (C : Ok κ) (M : Meth κ y bytes mx rt) {i : Instr} (hd : decode bytes pc = .ok (i, 1)) {t : FieldType} (hrt : rt = some t) {v : Value} (hn : narrow t v = v)
    (hi : (i = .ireturn ∧ (t = .int ∨ t = .boolean ∨ t = .byte ∨ t = .char ∨ t = .short) ∧ ∃ z, v = .int z) ∨ (i = .lreturn ∧ t = .long ∧ ∃ z, v = .long z) ∨ (i = .dreturn ∧ t = .double ∧ ∃ z, v = .double z) ∨ (i = .freturn ∧ t = .float ∧ ∃ z, v = .float z) ∨ (i = .areturn ∧ t.isReference = true ∧ v.isRef = true))
    {yc : MethodName} {pcc len : Nat} {Lc : List Slot} {Sc : List Value} (Cr : Caller κ yc pcc len) (K : WP κ yc (pcc + len) Lc (v :: Sc) F l k n) : WP κ y pc L (v :: S) (fr κ yc pcc Lc Sc :: F) l k n := fun T G => by
  obtain ⟨meth, c, X, hb, hml, hr, hlk, -⟩ := G.stand C M (d := 0) (w := 0) G.room
  subst hb
  obtain ⟨fs, hfs, D⟩ := G.back C Cr (some v) K
  exact G.goU (retOut X C.exec (hr.trans hrt) hn hi hd fun f acts h1 h2 h3 => ret_to G.1 (by rw [h1]; exact X.method') hlk h2 h3 hfs acts) D
theorem wp_iret (C : Ok κ) (M : Meth κ y bytes mx rt) (hd : decode bytes pc = .ok (.ireturn, 1)) {t : FieldType} (hrt : rt = some t) {z : Int32} (ht : t = .int ∨ t = .boolean ∨ t = .byte ∨ t = .char ∨ t = .short) (hn : narrow t (.int z) = .int z)
    {yc : MethodName} {pcc len : Nat} {Lc : List Slot} {Sc : List Value} (Cr : Caller κ yc pcc len) (K : WP κ yc (pcc + len) Lc (.int z :: Sc) F l k n) : WP κ y pc L (.int z :: S) (fr κ yc pcc Lc Sc :: F) l k n := wp_ret C M hd hrt hn (Or.inl ⟨rfl, ht, z, rfl⟩) Cr K
theorem wp_lret (C : Ok κ) (M : Meth κ y bytes mx rt) (hd : decode bytes pc = .ok (.lreturn, 1)) (hrt : rt = some .long) {z : Int64}
    {yc : MethodName} {pcc len : Nat} {Lc : List Slot} {Sc : List Value} (Cr : Caller κ yc pcc len) (K : WP κ yc (pcc + len) Lc (.long z :: Sc) F l k n) : WP κ y pc L (.long z :: S) (fr κ yc pcc Lc Sc :: F) l k n := wp_ret C M hd hrt rfl (Or.inr (Or.inl ⟨rfl, rfl, z, rfl⟩)) Cr K
theorem wp_aret (C : Ok κ) (M : Meth κ y bytes mx rt) (hd : decode bytes pc = .ok (.areturn, 1)) {t : FieldType} (hrt : rt = some t) (ht : t.isReference = true) {v : Value} (hv : v.isRef = true) 
    {yc : MethodName} {pcc len : Nat} {Lc : List Slot} {Sc : List Value} (Cr : Caller κ yc pcc len) (K : WP κ yc (pcc + len) Lc (v :: Sc) F l k n) : WP κ y pc L (v :: S) (fr κ yc pcc Lc Sc :: F) l k n :=
  wp_ret C M hd hrt (by cases t <;> cases v <;> first | rfl | (cases ht; done) | (cases hv; done)) (Or.inr (Or.inr (Or.inr (Or.inr ⟨rfl, ht, hv⟩)))) Cr K
theorem wp_vret (C : Ok κ) (M : Meth κ y bytes mx none) (hd : decode bytes pc = .ok (.return_, 1))
    {yc : MethodName} {pcc len : Nat} {Lc : List Slot} {Sc : List Value} (Cr : Caller κ yc pcc len) (K : WP κ yc (pcc + len) Lc Sc F l k n) : WP κ y pc L [] (fr κ yc pcc Lc Sc :: F) l k n := fun T G => by
  obtain ⟨meth, c, X, hb, hml, hr, hlk, -⟩ := G.stand C M (d := 0) (w := 0) G.room
  subst hb
  obtain ⟨fs, hfs, D⟩ := G.back C Cr none K
  refine G.goU (U := T.setFrames fs) ?_ D
  have hl : ∀ (f : JFrame) (acts : List Action), f.method = mid κ y → f.locked = none → f.entered = [] → (doReturn (ke κ) (T.setTop f) acts none).1 = T.setFrames fs := fun f acts h1 h2 h3 => ret_to G.1 (by rw [h1]; exact X.method') hlk h2 h3 hfs acts
  exact X.returnOut C.exec hr hd hl
/-- the law's own return -/
theorem wp_end (C : Ok κ) (M : Meth κ y bytes mx (some .boolean)) (hd : decode bytes pc = .ok (.ireturn, 1)) : WP κ y pc L (.int 1 :: S) [] l k n := fun T G => by
  obtain ⟨meth, c, X, hb, hml, hr, hlk, -⟩ := G.stand C M (d := 0) (w := 0) G.room
  subst hb
  obtain ⟨fs, hrr, hrun, hended, hW, hsame⟩ := X.leave (v := some (.int 1)) (fun h => by rw [hr] at h; cases h) hlk
  refine G.goU (retOut X C.exec hr (by decide) (Or.inl ⟨rfl, Or.inr (Or.inl rfl), 1, rfl⟩) hd hrr) ⟨_, Steps.refl _, hrun, hended, G.2.2.1, G.2.2.2.1, ?_⟩
  exact (G.2.1.setFrames fs G.zcur).mono G.cells G.slots
end R
end Jvm.WK
namespace Jvm.WK
open Sem ClassFile Op Lib Jvm.Stand Jvm.Free Jvm.LawKit Jvm.RoadKit
/-! ## 8. Strings' constants, casts, arrays of references, copies -/
/-- a byte as an array of bytes holds it -/
def byv (u : UInt8) : Value := .int u.toInt8.toInt32
abbrev strO (a b : Addr) (z : Int32) : Chunk := (a, false, .inl ("java/lang/String", [("java/lang/String", "value", "[B", .ref b), ("java/lang/String", "coder", "B", .int z)]))
abbrev strB (b : Addr) (u : List UInt8) : Chunk := (b, false, .inr (.byte, u.map byv))
theorem byv_fits (u : UInt8) : fits .byte (byv u) = true := by
  have h := fits_nar_byte u.toInt8.toInt32
  simpa [byv] using h
/-- the words of a String that a constant makes -/
def StrW (κ : Cx) : Prop := ∀ a ∈ Bundle.stringAtoms, Wd κ a
theorem StrW.nodup {κ : Cx} (w : StrW κ) (v c : Value) : (([("java/lang/String", "value", "[B", v), ("java/lang/String", "coder", "B", c)] : List (String × String × String × Value)).map (fslot κ)).Nodup := by
  have h1 : Wd κ (.laysFinal "java/lang/String" "java/lang/String" "value" "[B") := w _ (by simp [Bundle.stringAtoms, Bundle.sN])
  have h2 : Wd κ (.laysFinal "java/lang/String" "java/lang/String" "coder" "B") := w _ (by simp [Bundle.stringAtoms, Bundle.sN])
  have q := slot_ne (Or.inr h1) (Or.inr h2) (by decide) (t := .array .byte) (t' := .byte) (by decide) (by decide)
  simpa [fslot] using q
section R
variable {κ : Cx} {T : State} {y : MethodName} {pc pc' : Nat} {L L' : List Slot} {S S' : List Value} {F : List Frame} {l l' : List Chunk} {k n : Nat} {bytes : ByteArray} {mx : Nat} {rt : Option FieldType}
/-- behind an 'ldc' that may have interned -/
theorem Good.lit (G : Good κ T y pc L S F l k n) (hst : kS κ = false) {R' : Room} {meth : Method} {c : Code} {T' : State} {cells slots k1 : Nat} (X' : Stand (kp κ) (kl κ) (ke κ) R' ((base κ T y F).setVm T'.vm) (mid κ y) (ka κ) (F ++ kb κ) meth c T' [] cells slots)
    (hS : (base κ T y F).Since T'.vm k1) (hk1 : k1 ≤ T'.heap.size) (hk : k + cells ≤ (kR κ).cells) (hn : n + slots ≤ (kR κ).slots) (hC : CHv (kZ κ) (kE κ) T'.vm T'.heap) (hH : Hp κ T'.vm T'.heap l') : Good κ (T'.setTop (mkF (mid κ y) pc' L.toArray S')) y pc' L S' F l' (k + cells) (n + slots) := by
  obtain ⟨g₀, hfr⟩ := X'.frames_eq
  have hsz : T.heap.size ≤ T'.heap.size := X'.same.2.1
  refine ⟨State.frames_setTop _ hfr, ?_, ?_, fun h => ?_, hC, hH, hk, hn, G.2.2.2.2.2.2.2.2.1, G.2.2.2.2.2.2.2.2.2.1, G.2.2.2.2.2.2.2.2.2.2⟩
  · have q0 := X'.same.setVm (kZ κ).vm
    have q1 : (T.setVm (kZ κ).vm).sameButNew (T'.setVm (kZ κ).vm) [] cells slots := State.sameButNew.of_setFrames (F := .invoking (mid κ y) (ka κ) :: (F ++ kb κ)) q0
    have q2 := G.2.1.trans q1
    have e : (T'.setTop (mkF (mid κ y) pc' L.toArray S')).setVm (kZ κ).vm = (T'.setVm (kZ κ).vm).setFrames (.java (mkF (mid κ y) pc' L.toArray S') :: (F ++ kb κ)) := by
      rw [State.setTop_of_frames _ hfr]; rfl
    rw [e]
    exact State.sameButNew.setFrames q2 _ G.zcur
  · show (kZ κ).Since T'.vm T'.heap.size
    refine G.2.2.1.trans (n₂ := T'.heap.size) ⟨State.Warmed39.of_rootvm (s := base κ T y F) rfl hS.1, fun j p hj hp => ?_⟩ hsz
    have q := hS.2 j p hj hp
    exact ⟨Nat.le_trans G.size q.1, Nat.lt_of_lt_of_le q.2 hk1⟩
  · rw [hst] at h; cases h
theorem arv_list {h : Heap} {a : Addr} {cA : ClassId} {ty : FieldType} {z : Int32} {vs : List Value} {d : Value} {Z : State} (A : Arv Z h a cA ty z vs d) (hl : z.toNatClampNeg = vs.length) : ∃ c : Cell, Arr Z h a c ty ∧ c.slots.toList = vs := by
  obtain ⟨c, A, -, h2, -, H, -⟩ := A
  refine ⟨c, A, List.ext_getElem? fun i => ?_⟩
  have e : c.slots.size = vs.length := h2.trans hl
  by_cases q : i < c.slots.size
  · have r := H i q
    rw [← Array.getElem?_toList] at r
    rw [r, List.getD_eq_getElem?_getD, List.getElem?_eq_getElem (by omega)]
    rfl
  · rw [List.getElem?_eq_none (by simpa using q), List.getElem?_eq_none (by omega)]
/-- a String constant whose text is known -/
theorem wp_ldcS (C : Ok κ) (hst : kS κ = false) (wS : StrW κ) (M : Meth κ y bytes mx rt) {ix : Nat} (hd : decode bytes pc = .ok (.ldc ix, 2)) {text : String} (w : Wd κ (.stringLink y.cls ix text)) (hmem : (y.cls, ix) ∈ kE κ) (u : List UInt8) (ht : (∀ c ∈ text.toList, c.toNat < 256) ∧ text.toList.map (fun c => Value.int (Jvm.Lit.byteI c.toNat.toUInt16)) = u.map byv) {m : Nat} (hm : 4 * text.toList.length ≤ m)
    (hb : m ≤ 536870912) (hk : k + 2 ≤ (kR κ).cells) (hn : n + (m + 4) ≤ (kR κ).slots) (K : ∀ a b, WP κ y (pc + 2) L (.ref a :: S) F (strO a b 0 :: strB b u :: l) (k + 2) (n + (m + 4))) : WP κ y pc L S F l k n := fun T G => by
  obtain ⟨meth, c, X, hbb, -⟩ := G.stand C M (d := 0) (w := 0) G.room
  subst hbb
  have hlen : (Int32.ofNat u.length).toNatClampNeg = (u.map byv).length ∧ ¬ Int32.ofNat u.length < 0 := by
    have e : u.length = text.toList.length := by
      have q := congrArg List.length ht.2
      simpa using q.symm
    have q := idx_in (i := u.length) (n := u.length + 1) (by omega) (by omega)
    have q2 : (Nat.toInt32 u.length).toInt = u.length := len_toInt (by omega)
    refine ⟨?_, fun r => q (Or.inl r)⟩
    show (Nat.toInt32 u.length).toInt.toNat = _
    rw [q2]; simp
  obtain ⟨a, T', h', k1, b, kk, X', e', E, hS, hk1, -, -, A1, A2, A3, A4, -, -, hC, -, hsafe, st⟩ := ldcCH (s := base κ T y F) (vm0 := T.vm) (EL := kE κ) X C.exec G.warm (G.own M) w wS rfl (State.WarmedH.since (State.WarmedH.refl (base κ T y F)) T.heap.size) (Nat.le_refl _) C.ew hmem G.ch ht hlen.2 hlen.1 (g := mkF (mid κ y) pc L.toArray S) rfl hd hm hb (by show 0 + 2 ≤ (kR κ).cells - k; omega) (by show 0 + (m + 4) ≤ (kR κ).slots - n; omega)
  subst e'
  obtain ⟨cb, Ab, eb⟩ := arv_list A4 hlen.1
  have H0 := G.hp.ext E hC
  have H1 : Hp κ T'.vm T'.heap (strB b u :: l) := H0.add ⟨cb, Ab, eb, fun C h => by cases h⟩ (fun z hz hm => by
    rcases hm with hm | hm
    · cases hm
    · exact Ne.symm (hsafe _ (H0.2.2 z hz hm).2).2) (fun q => by cases q)
  have H2 : Hp κ T'.vm T'.heap (strO a b 0 :: strB b u :: l) := H1.add ⟨A1, fun f hf => by
      simp only [List.mem_cons, List.not_mem_nil, or_false] at hf
      rcases hf with rfl | rfl
      · exact A3
      · exact A2, wS.nodup _ _⟩ (fun z hz hm => by
    rcases hm with hm | hm
    · cases hm
    · rcases List.mem_cons.mp hz with rfl | hz
      · cases hm
      · exact Ne.symm (hsafe _ (H0.2.2 z hz hm).2).1) (fun q => by cases q)
  simp only [Nat.zero_add] at X'
  exact G.go st (K a b _ (G.lit hst X' hS hk1 hk hn hC.1 H2))
/-- a String constant of which nothing need be known -/
theorem wp_ldcO (C : Ok κ) (hst : kS κ = false) (wS : StrW κ) (M : Meth κ y bytes mx rt) {ix : Nat} (hd : decode bytes pc = .ok (.ldc ix, 2)) {text : String} (w : Wd κ (.stringLink y.cls ix text)) {m : Nat} (hm : 4 * text.toList.length ≤ m)
    (hb : m ≤ 536870912) (hk : k + 2 ≤ (kR κ).cells) (hn : n + (m + 4) ≤ (kR κ).slots) (K : ∀ a, WP κ y (pc + 2) L (.ref a :: S) F l (k + 2) (n + (m + 4))) : WP κ y pc L S F l k n := fun T G => by
  obtain ⟨meth, c, X, hbb, -⟩ := G.stand C M (d := 0) (w := 0) G.room
  subst hbb
  obtain ⟨a, T', h', k1, X', e', E, hS, hk1, -, -, hC, -, st⟩ := ldcOH (s := base κ T y F) (vm0 := T.vm) (EL := kE κ) X C.exec G.warm (G.own M) w wS rfl (State.WarmedH.since (State.WarmedH.refl (base κ T y F)) T.heap.size) (Nat.le_refl _) C.ew G.ch (g := mkF (mid κ y) pc L.toArray S) rfl hd hm hb (by show 0 + 2 ≤ (kR κ).cells - k; omega) (by show 0 + (m + 4) ≤ (kR κ).slots - n; omega)
  subst e'
  simp only [Nat.zero_add] at X'
  exact G.go st (K a _ (G.lit hst X' hS hk1 hk hn hC.1 (G.hp.ext E hC)))
theorem Hp.ins {vm : Vm} {h : Heap} (H : Hp κ vm h l) {a : Addr} {mu : Bool} {Cl K : String} {fs : List (String × String × String × Value)} (hm : (a, mu, .inl (Cl, fs)) ∈ l) (wc : Cl = K ∨ Wd κ (.castable Cl K)) : Ins (kZ κ) h a K true := by
  have E := (H.1 _ hm).1
  rcases wc with rfl | wc
  · exact Ins.self E
  · exact Ins.of_exa E wc
theorem wp_checkcast (C : Ok κ) (M : Meth κ y bytes mx rt) {ix : Nat} (hd : decode bytes pc = .ok (.checkcast ix, 3)) {a : Addr} {mu : Bool} {Cl Kl : String} {fs : List (String × String × String × Value)} (w : Wd κ (.classLink y.cls ix Kl)) (hm : (a, mu, .inl (Cl, fs)) ∈ l) (wc : Cl = Kl ∨ Wd κ (.castable Cl Kl))
    (K : WP κ y (pc + 3) L (.ref a :: S) F l k n) : WP κ y pc L (.ref a :: S) F l k n := fun T G => by
  obtain ⟨meth, c, X, hb, -⟩ := G.stand C M (d := 0) (w := 0) G.room
  subst hb
  obtain ⟨T', X', e', st⟩ := castY X C.exec G.warm (G.own M) w rfl (G.hp.ins hm wc) (g := mkF (mid κ y) pc L.toArray (.ref a :: S)) rfl rfl hd
  have A := G.warmed C X'
  exact G.go st (K _ (G.next X' nolocs G.cells G.slots rfl (e' ▸ A.1) (e' ▸ G.hp.warm A)))
theorem wp_instanceof (C : Ok κ) (M : Meth κ y bytes mx rt) {ix : Nat} (hd : decode bytes pc = .ok (.instanceof ix, 3)) {a : Addr} {mu : Bool} {Cl Kl : String} {fs : List (String × String × String × Value)} (w : Wd κ (.classLink y.cls ix Kl)) (hm : (a, mu, .inl (Cl, fs)) ∈ l) (wc : Cl = Kl ∨ Wd κ (.castable Cl Kl))
    (K : WP κ y (pc + 3) L (.int 1 :: S) F l k n) : WP κ y pc L (.ref a :: S) F l k n := fun T G => by
  obtain ⟨meth, c, X, hb, -⟩ := G.stand C M (d := 0) (w := 0) G.room
  subst hb
  obtain ⟨T', X', e', st⟩ := instY X C.exec G.warm (G.own M) w rfl (G.hp.ins hm wc) (g := mkF (mid κ y) pc L.toArray (.ref a :: S)) rfl rfl hd
  have A := G.warmed C X'
  exact G.go st (K _ (G.next X' nolocs G.cells G.slots rfl (e' ▸ A.1) (e' ▸ G.hp.warm A)))
theorem wp_anewarray (C : Ok κ) (M : Meth κ y bytes mx rt) {ix : Nat} (hd : decode bytes pc = .ok (.anewarray ix, 3)) {Cl : String} (w1 : Wd κ (.classLink y.cls ix Cl)) (w2 : Wd κ (.arrayOver (.object Cl))) {z : Int32} {len : Nat} (hz : Ix z len) (hb : len * 8 ≤ 536870912) (hk : k + 1 ≤ (kR κ).cells) (hn : n + len ≤ (kR κ).slots) {vs : List Value} (hv : List.replicate len .null = vs)
    (K : ∀ a, WP κ y (pc + 3) L (.ref a :: S) F ((a, true, .inr (.object Cl, vs)) :: l) (k + 1) (n + len)) : WP κ y pc L (.int z :: S) F l k n := fun T G => by
  obtain ⟨meth, c, X, hbb, -⟩ := G.stand C M (d := 0) (w := 0) G.room
  subst hbb hv
  obtain ⟨T', h', cA, X', e', E, A, O, st⟩ := newR X C.exec G.warm (G.own M) w1 w2 rfl (g := mkF (mid κ y) pc L.toArray (.int z :: S)) rfl hd rfl hz.1 (cap := len) (Nat.le_of_eq hz.2) hb (by show 0 + 1 ≤ (kR κ).cells - k; omega) (by show 0 + len ≤ (kR κ).slots - n; omega)
  have B := G.warmed C X'
  have B2 : CHr (kZ κ) (kE κ) T.vm T.heap T'.vm h' := B.trans (CHr.ext E B.1)
  subst e'
  have hx : Holds κ T'.heap (T.heap.size, true, .inr (.object Cl, List.replicate len .null)) := ⟨_, A, by simp [newA, hz.2, defaultValue], fun D h => by cases h; exact O⟩
  have hS : Safe (kZ κ) (kE κ) T'.vm T'.heap T.heap.size := fun Bk => by
    have q := (B.1.step fun _ _ _ q => E.2 _ _ q).2 _ Bk
    obtain ⟨cell, hcell⟩ := q.there
    exact absurd (Array.getElem?_eq_some_iff.mp hcell).1 (Nat.lt_irrefl _)
  simp only [Nat.zero_add] at X'
  exact G.go st (K _ _ (G.next X' nolocs hk hn rfl B2.1 (Hp.new E B2 G.hp G.size hx hS)))
theorem wp_aastore (C : Ok κ) (M : Meth κ y bytes mx rt) (hd : decode bytes pc = .ok (.aastore, 1)) {a b : Addr} {Cl D : String} {mu : Bool} {fs : List (String × String × String × Value)} {vs : List Value} {i j : Nat} {z : Int32} (hi : l[i]? = some (a, true, .inr (.object Cl, vs))) (hj : Ix z j) (hv : j < vs.length) (hm : (b, mu, .inl (D, fs)) ∈ l) (wc : D = Cl ∨ Wd κ (.castable D Cl)) (hl' : l.set i (a, true, .inr (.object Cl, vs.set j (.ref b))) = l')
    (K : WP κ y (pc + 1) L S F l' k n) : WP κ y pc L (.ref b :: .int z :: .ref a :: S) F l k n := fun T G => by
  obtain ⟨meth, c, X, hb, -⟩ := G.stand C M (d := 0) (w := 0) G.room
  subst hb
  have H := G.hp.1 _ (List.mem_of_getElem? hi)
  have hS := G.hp.2.2 _ (List.mem_of_getElem? hi) rfl
  obtain ⟨cl, A, ev, ov⟩ := H
  obtain ⟨q1, -⟩ := ix_in ev hj (List.getElem?_eq_getElem hv)
  obtain ⟨T', h', X', e', W, st⟩ := stR X C.exec (Z := kZ κ) G.warm rfl A (j := z) (v := .ref b) q1 rfl (Sto.of A (ov Cl rfl) (G.hp.ins hm wc)) (g := mkF (mid κ y) pc L.toArray (.ref b :: .int z :: .ref a :: S)) rfl rfl hd
  have B := G.warmed C X'
  subst e'
  rw [hj.2] at W
  obtain ⟨r1, r2⟩ := (G.hp.warm B).wr B.1 hi W (Holds.store ⟨cl, A, ev, ov⟩ W)
  have r1 : Hp κ T'.vm T'.heap l' := hl' ▸ r1
  exact G.go st (K _ (G.next X' (one_loc hS.1) G.cells G.slots rfl r2 r1))
end R
end Jvm.WK
namespace Jvm.WK
open Sem ClassFile Op Lib Jvm.Stand Jvm.Free Jvm.LawKit Jvm.RoadKit
/-! ## 9. the law's start -/
/-- what a law's run leaves -/
def Left (strict : Bool) (R : Room) (U : State) (o : Outcome) (U' : State) : Prop :=
  o = .returned (some (.int 1)) ∧ U.Since U'.vm U'.heap.size ∧ (strict = true → U.WarmedH U'.vm) ∧ U.sameButNew { U' with vm := U.vm } [] R.cells R.slots
theorem start_wp {l : Launch} {x : MethodName} {ws : List Jvm.Cond} {R : Room} {bytes : ByteArray} {mx : Nat} {EL : List (String × Nat)} {strict : Bool} (hx : plainFor x = true) (P : Array Value → State → Prop)
    (hEW : ∀ a s, P a s → EW s a EL) (hCH : ∀ a s, P a s → CHv s EL s.vm s.heap)
    (H : ∀ κ : Cx, Ok κ → kR κ = R → kE κ = EL → kS κ = strict → kx κ = mx → (∀ d ∈ (Jvm.Cond.code x bytes mx (some .boolean) :: ws), Wd κ d) → P (ka κ) (kZ κ) → ∃ L : List Slot, lay (ka κ).toList mx = L ∧ L.length = mx ∧ WP κ x 0 L [] [] [] 0 0) :
    MetFree l x (head1 (Jvm.Cond.code x bytes mx (some .boolean) :: ws) R) P (fun _ _ _ _ _ => True) (fun _ U o U' => Left strict R U o U') := by
  refine MetFree.of_bodySF hx hisR ?_
  intro p e s m args below meth c s₁ Bd hml0 hP hK
  let κ : Cx := (p, l, e, s, args, below, m, EL, strict, R, mx)
  have hw : ∀ d ∈ (Jvm.Cond.code x bytes mx (some .boolean) :: ws), Wd κ d := fun d hd => atoms_spec (ws := Jvm.Cond.code x bytes mx (some .boolean) :: ws) Bd.pre d hd
  have M : Meth κ x bytes mx (some .boolean) := ⟨hx, hw _ (List.mem_cons_self ..)⟩
  have hmid : mid κ x = m := by
    have q : s.methodNamed? x = some m := Bd.named
    show (s.methodNamed? x).getD ⟨0, 0⟩ = m
    rw [q]; rfl
  have hst : s.status = .running := by
    have q := Bd.here.running
    rw [Bd.state] at q; exact q
  have hcs : s.curStatus? = some .runnable := by
    have q := Bd.here.runnable
    rw [Bd.state, State.curStatus?_setFrames] at q; exact q
  have hal : s.alone = true := by
    have q := Bd.here.alone
    rw [Bd.state, State.alone_setFrames] at q; exact q
  have C : Ok κ := ⟨Bd.admits, Bd.cas, Bd.clock, Bd.exec, Bd.frames, Bd.room, Bd.hears, hst, hcs, hal, hEW _ _ hP, x, bytes, M, hmid⟩
  obtain ⟨L, hL, hLm, W⟩ := H κ C rfl rfl rfl rfl hw hP
  have hcur := State.cur_lt_of_frames Bd.frames
  obtain ⟨t, ht, -⟩ := State.frames_cons Bd.frames
  have ef : entryFrame m args mx = mkF (mid κ x) 0 L.toArray [] := by
    rw [hmid]
    show ({ method := m, pc := 0, locals := argsToLocals args mx, stack := [], locked := none } : JFrame) = _
    have q : argsToLocals args mx = L.toArray := args_lay (vs := args.toList) hL
    rw [q]
  have hf1 : s₁.frames = .java (entryFrame m args mx) :: below := by rw [Bd.state]; exact State.frames_setFrames _ hcur
  have G : Good κ (s₁.setTop (entryFrame m args mx)) x 0 L [] [] [] 0 0 := by
    rw [State.setTop_self (State.topJava?_of_frames hf1)]
    refine ⟨by rw [hf1, ef]; rfl, ?_, ?_, fun _ => ?_, ?_, ⟨fun x hx => (nomatch hx), List.Pairwise.nil, fun x hx => (nomatch hx)⟩, Nat.zero_le _, Nat.zero_le _, fun f hf => (nomatch hf), ⟨?_, ?_⟩, ⟨bytes, _, by rw [hLm]; exact M⟩⟩
    · rw [Bd.state]; exact (State.sameButNew.refl s ht).setFrames _ hcur
    · rw [Bd.state]; exact State.WarmedH.since (State.WarmedH.refl s) _
    · rw [Bd.state]; exact State.WarmedH.refl s
    · rw [Bd.state]; exact hCH _ _ hP
    · show 0 + 1 ≤ R.frames + 1; omega
    · show wt [] + (L.length + 11) ≤ R.locals + (mx + 11)
      rw [wt_nil, hLm]; omega
  obtain ⟨t', st, f1, f2, f3, f4, f5⟩ := W _ G
  exact ⟨t', _, st, f1, f2, rfl, f3, f4, f5⟩
end Jvm.WK
namespace Jvm.WK
open Sem ClassFile Op Lib Jvm.Stand Jvm.Free Jvm.LawKit Jvm.RoadKit
/-! ## 10. small things -/
abbrev i2c (x : Int32) : Int32 := x.toUInt32.toUInt16.toUInt32.toInt32
/-- a truth as Java holds it -/
def bi (c : Prop) [Decidable c] : Int32 := if c then 1 else 0
theorem bi_t {c : Prop} [Decidable c] (h : c) : bi c = 1 := if_pos h
theorem bi_f {c : Prop} [Decidable c] (h : ¬ c) : bi c = 0 := if_neg h
theorem bi_iff {c d : Prop} [Decidable c] [Decidable d] (h : c ↔ d) : bi c = bi d := by
  by_cases hc : c
  · rw [bi_t hc, bi_t (h.mp hc)]
  · rw [bi_f hc, bi_f fun q => hc (h.mpr q)]
theorem bi_cases (c : Prop) [Decidable c] : bi c = 0 ∨ bi c = 1 := by
  by_cases hc : c
  · exact Or.inr (bi_t hc)
  · exact Or.inl (bi_f hc)
theorem toInt_toInt32 {i : Nat} (h : i < 2 ^ 31) : (Nat.toInt32 i).toInt = i := len_toInt h
theorem Ix_nat {i : Nat} (h : i < 2 ^ 31) : Ix (Nat.toInt32 i) i := by
  have q := toInt_toInt32 h
  refine ⟨?_, ?_⟩
  · rw [Int32.lt_iff_toInt_lt, q]; simp only [Int32.reduceToInt]; omega
  · show (Nat.toInt32 i).toInt.toNat = i
    rw [q]; simp
section R
variable {κ : Cx} {y : MethodName} {pc pc' : Nat} {L L' : List Slot} {S S' : List Value} {F : List Frame} {l l' : List Chunk} {k n : Nat}
theorem Rm.law {R : Room} {mx d w : Nat} (hr : kR κ = R) (hx : kx κ = mx) (h1 : 1 + d ≤ R.frames + 1) (h2 : 11 + L.length + cats S + w ≤ R.locals + (mx + 11)) : Rm κ [fr κ y pc L S] d w := by
  refine ⟨by rw [hr]; exact h1, ?_⟩
  rw [wt_cons, fr_weight, wt_nil, hr, hx]; omega
theorem rc {R : Room} {a : Nat} (hr : kR κ = R) (h : a ≤ R.cells) : a ≤ (kR κ).cells := by rw [hr]; exact h
theorem rs {R : Room} {a : Nat} (hr : kR κ = R) (h : a ≤ R.slots) : a ≤ (kR κ).slots := by rw [hr]; exact h
theorem wp_top {v v' : Value} (h : v = v') (K : WP κ y pc L (v :: S) F l k n) : WP κ y pc L (v' :: S) F l k n := h ▸ K
end R
end Jvm.WK
namespace Jvm.WK
open Jvm Jvm.Free
/-! plain facts of this claim -/
def pk (sel : Int32) (b0 b1 len : Int64) : Int64 := if sel &&& 3 = 0 then b0 else if sel &&& 3 = 1 then b1 else
  Int32.toInt64 ((XT.ushr sel 2) &&& 255) - (Int32.toInt64 ((XT.ushr sel 2) &&& 255) / len) * len
theorem pk_0 {sel : Int32} {b0 b1 len : Int64} (h : sel &&& 3 = 0) : pk sel b0 b1 len = b0 := if_pos h
theorem pk_1 {sel : Int32} {b0 b1 len : Int64} (h : ¬ sel &&& 3 = 0) (h' : sel &&& 3 = 1) : pk sel b0 b1 len = b1 := by unfold pk; rw [if_neg h, if_pos h']
theorem pk_2 {sel : Int32} {b0 b1 len : Int64} (h : ¬ sel &&& 3 = 0) (h' : ¬ sel &&& 3 = 1) : pk sel b0 b1 len = Int32.toInt64 ((XT.ushr sel 2) &&& 255) - (Int32.toInt64 ((XT.ushr sel 2) &&& 255) / len) * len := by unfold pk; rw [if_neg h, if_neg h']
theorem mapget {ws : List Int64} {q : Nat} (h : q < ws.length) : (ws.map Value.long)[q]? = some (.long (ws.getD q 0)) := by
  simp [h]
theorem set_same {ws : List Int64} {q : Nat} (h : q < ws.length) : ws.set q (ws.getD q 0) = ws := by
  apply List.ext_getElem?
  intro i
  by_cases e : q = i
  · subst e; rw [List.getElem?_set_self h]; simp [h]
  · rw [List.getElem?_set_ne e]
end Jvm.WK
namespace Jvm.WK
open Jvm Jvm.Free
theorem and_lt (t m : Int32) : ∃ j : Nat, j ≤ m.toUInt32.toNat ∧ t &&& m = Int32.ofNat j := by
  refine ⟨(t &&& m).toUInt32.toNat, ?_, ?_⟩
  · have : (t &&& m).toUInt32.toNat = t.toUInt32.toNat &&& m.toUInt32.toNat := by simp [Int32.toUInt32_and]
    rw [this]; exact Nat.and_le_right
  · apply Int32.toBitVec_inj.mp
    simp [Int32.toBitVec_ofNat]
theorem toInt_ofNat32 {j : Nat} (h : j < 2 ^ 31) : (Int32.ofNat j).toInt = j := RoadKit.len_toInt h
theorem toInt_ofNat64 {j : Nat} (h : j < 2 ^ 63) : (Int64.ofNat j).toInt = j := Int64.toInt_ofNat_of_lt (by omega)
theorem ofNat_64 {j : Nat} (h : j < 2 ^ 31) : Int32.toInt64 (Int32.ofNat j) = Int64.ofNat j := by
  apply Int64.toInt_inj.mp
  rw [Int32.toInt_toInt64, toInt_ofNat32 h, toInt_ofNat64 (by omega)]
theorem len_spec (a : Int32) : ∃ N : Nat, 1 ≤ N ∧ N ≤ 256 ∧ Int32.toInt64 (1 + (a &&& 255)) = Int64.ofNat N := by
  obtain ⟨j, hj, e⟩ := and_lt a 255
  have hj : j ≤ 255 := hj
  refine ⟨1 + j, by omega, by omega, ?_⟩
  rw [e, ← ofNat_64 (by omega), Int32.ofNat_add]
  rfl
theorem div_ofNat64 {j N : Nat} (hj : j < 2 ^ 63) (hN : N < 2 ^ 63) : Int64.ofNat j / Int64.ofNat N = Int64.ofNat (j / N) := by
  apply Int64.toInt_inj.mp
  have hd : j / N < 2 ^ 63 := Nat.lt_of_le_of_lt (Nat.div_le_self _ _) hj
  rw [Int64.toInt_div, toInt_ofNat64 hj, toInt_ofNat64 hN, toInt_ofNat64 hd]
  have e : (j : Int).tdiv (N : Int) = ((j / N : Nat) : Int) := by simp [Int.ofNat_tdiv]
  rw [e]
  generalize j / N = d at hd ⊢
  exact XT.bmod64 ⟨by omega, by omega⟩
theorem rem_ofNat64 {j N : Nat} (hj : j < 2 ^ 62) (hN : N < 2 ^ 62) : Int64.ofNat j - (Int64.ofNat j / Int64.ofNat N) * Int64.ofNat N = Int64.ofNat (j % N) := by
  rw [div_ofNat64 (by omega) (by omega), ← Int64.ofNat_mul]
  have h1 : j / N * N ≤ j := Nat.div_mul_le_self j N
  have h2 := Nat.div_add_mod j N
  have h3 : j % N = j - j / N * N := by rw [Nat.mul_comm] at h2; omega
  apply Int64.toInt_inj.mp
  rw [Int64.toInt_sub, toInt_ofNat64 (by omega), toInt_ofNat64 (by omega), toInt_ofNat64 (by omega)]
  rw [XT.bmod64 ⟨by omega, by omega⟩]
  omega
theorem rem_spec (t : Int32) {N : Nat} (h1 : 1 ≤ N) (h2 : N ≤ 256) : ∃ j : Nat, j < N ∧ Int32.toInt64 (t &&& 255) - (Int32.toInt64 (t &&& 255) / Int64.ofNat N) * Int64.ofNat N = Int64.ofNat j := by
  obtain ⟨j, hj, e⟩ := and_lt t 255
  have hj : j ≤ 255 := hj
  refine ⟨j % N, Nat.mod_lt _ h1, ?_⟩
  rw [e, ofNat_64 (by omega)]
  exact rem_ofNat64 (by omega) (by omega)
theorem pk_spec (sel : Int32) {N j0 j1 : Nat} (h1 : 1 ≤ N) (h2 : N ≤ 256) (g0 : j0 < N) (g1 : j1 < N) : ∃ t : Nat, t < N ∧ pk sel (Int64.ofNat j0) (Int64.ofNat j1) (Int64.ofNat N) = Int64.ofNat t := by
  by_cases q : sel &&& 3 = 0
  · exact ⟨j0, g0, pk_0 q⟩
  · by_cases r : sel &&& 3 = 1
    · exact ⟨j1, g1, pk_1 q r⟩
    · obtain ⟨t, ht, e⟩ := rem_spec (XT.ushr sel 2) h1 h2
      exact ⟨t, ht, (pk_2 q r).trans e⟩
theorem and3 (t : Int32) : t &&& 3 = 0 ∨ t &&& 3 = 1 ∨ t &&& 3 = 2 ∨ t &&& 3 = 3 := by
  obtain ⟨j, hj, e⟩ := and_lt t 3
  have hj : j ≤ 3 := hj
  rw [e]
  match j, hj with
  | 0, _ => exact Or.inl rfl
  | 1, _ => exact Or.inr (Or.inl rfl)
  | 2, _ => exact Or.inr (Or.inr (Or.inl rfl))
  | 3, _ => exact Or.inr (Or.inr (Or.inr rfl))
theorem shift_spec (s : Int32) : ∃ q : Nat, q ≤ 56 ∧ (s &&& 2147483647) % 57 = Int32.ofNat q := by
  obtain ⟨j, hj, e⟩ := and_lt s 2147483647
  have hj : j ≤ 2147483647 := hj
  refine ⟨j % 57, by omega, ?_⟩
  rw [e]
  apply Int32.toInt_inj.mp
  rw [Int32.toInt_mod, toInt_ofNat32 (by omega), toInt_ofNat32 (by omega)]
  show (j : Int).tmod 57 = _
  rw [Int.tmod_eq_emod_of_nonneg (by omega)]
  omega
theorem ix_spec {t : Nat} (h : t < 256) : Ix (Int64.toInt32 (XT.ushrL (Int64.ofNat t) 6)) (t / 64) := by
  have key : ∀ a : Fin 256, ¬ Int64.toInt32 (XT.ushrL (Int64.ofNat a.val) 6) < 0 ∧ (Int64.toInt32 (XT.ushrL (Int64.ofNat a.val) 6)).toNatClampNeg = a.val / 64 := by decide +kernel
  exact key ⟨t, h⟩
theorem m_spec {N : Nat} (h1 : 1 ≤ N) (h2 : N ≤ 256) : Ix (Int64.toInt32 (XT.ushrL (Int64.ofNat N + 63) 6)) ((N + 63) / 64) := by
  have key : ∀ a : Fin 257, ¬ Int64.toInt32 (XT.ushrL (Int64.ofNat a.val + 63) 6) < 0 ∧ (Int64.toInt32 (XT.ushrL (Int64.ofNat a.val + 63) 6)).toNatClampNeg = (a.val + 63) / 64 := by decide +kernel
  exact key ⟨N, by omega⟩
/-- the bit's mask -/
theorem mk_bv {t : Nat} (h : t < 256) : ((1 : Int64) <<< ((Int32.toInt64 (Int64.toInt32 (Int64.ofNat t))) &&& 63)).toBitVec = BitVec.twoPow 64 (t % 64) := by
  have key : ∀ a : Fin 256, ((1 : Int64) <<< ((Int32.toInt64 (Int64.toInt32 (Int64.ofNat a.val))) &&& 63)).toBitVec = BitVec.twoPow 64 (a.val % 64) := by decide +kernel
  exact key ⟨t, h⟩
theorem bit_iff {t : Nat} (h : t < 256) (x : Int64) : (x &&& ((1 : Int64) <<< ((Int32.toInt64 (Int64.toInt32 (Int64.ofNat t))) &&& 63)) = 0) ↔ x.toBitVec.getLsbD (t % 64) = false := by
  rw [← Int64.toBitVec_inj, Int64.toBitVec_and, mk_bv h]
  have e : (0 : Int64).toBitVec = 0#64 := rfl
  rw [e]
  constructor
  · intro q
    have r := congrArg (fun v => v.getLsbD (t % 64)) q
    simpa [BitVec.getLsbD_twoPow, Nat.mod_lt] using r
  · intro q
    apply BitVec.eq_of_getLsbD_eq
    intro i hi
    by_cases e : t % 64 = i
    · subst e; simp [q]
    · simp [BitVec.getLsbD_twoPow, e]
theorem bit_or {t j : Nat} (ht : t < 256) (hj : j < 256) (x : Int64) (hq : t / 64 = j / 64) : ((x ||| ((1 : Int64) <<< ((Int32.toInt64 (Int64.toInt32 (Int64.ofNat j))) &&& 63))) &&& ((1 : Int64) <<< ((Int32.toInt64 (Int64.toInt32 (Int64.ofNat t))) &&& 63)) = 0) ↔ (x &&& ((1 : Int64) <<< ((Int32.toInt64 (Int64.toInt32 (Int64.ofNat t))) &&& 63)) = 0 ∧ t ≠ j) := by
  rw [bit_iff ht, bit_iff ht, Int64.toBitVec_or, mk_bv hj, BitVec.getLsbD_or, BitVec.getLsbD_twoPow]
  have : j % 64 < 64 := Nat.mod_lt _ (by decide)
  simp only [Bool.or_eq_false_iff, this, decide_true, Bool.true_and, decide_eq_false_iff_not]
  constructor
  · rintro ⟨a, b⟩; exact ⟨a, fun e => b (by omega)⟩
  · rintro ⟨a, b⟩; exact ⟨a, fun e => b (by omega)⟩
theorem one_spec {j : Nat} (hj : j < 256) (x : Int64) (h : ¬ x &&& ((1 : Int64) <<< ((Int32.toInt64 (Int64.toInt32 (Int64.ofNat j))) &&& 63)) = 0) : x ||| ((1 : Int64) <<< ((Int32.toInt64 (Int64.toInt32 (Int64.ofNat j))) &&& 63)) = x := by
  rw [bit_iff hj] at h
  apply Int64.toBitVec_inj.mp
  rw [Int64.toBitVec_or, mk_bv hj]
  apply BitVec.eq_of_getLsbD_eq
  intro i hi
  by_cases e : j % 64 = i
  · subst e; simp at h; simp [h]
  · simp [BitVec.getLsbD_twoPow, e]
theorem ofNat64_inj {a b : Nat} (ha : a < 2 ^ 62) (hb : b < 2 ^ 62) : Int64.ofNat a = Int64.ofNat b ↔ a = b := by
  constructor
  · intro h
    have q := congrArg Int64.toInt h
    rw [toInt_ofNat64 (by omega), toInt_ofNat64 (by omega)] at q
    omega
  · intro h; rw [h]
/-- what a field of words says of each place below N -/
def Says (ws : List Int64) (N : Nat) (P : Nat → Prop) : Prop := ws.length = (N + 63) / 64 ∧ ∀ t, t < N → ((¬ (ws.getD (t / 64) 0) &&& ((1 : Int64) <<< ((Int32.toInt64 (Int64.toInt32 (Int64.ofNat t))) &&& 63)) = 0) ↔ P t)
theorem says_none {N : Nat} (h2 : N ≤ 256) : Says (List.replicate ((N + 63) / 64) 0) N (fun _ => False) := by
  refine ⟨by simp, fun t ht => ?_⟩
  have e : (List.replicate ((N + 63) / 64) (0 : Int64)).getD (t / 64) 0 = 0 := by
    simp only [List.getD_eq_getElem?_getD, List.getElem?_replicate]
    split <;> rfl
  rw [e, bit_iff (by omega)]
  simp
theorem says_set {ws : List Int64} {N j : Nat} {P : Nat → Prop} (h2 : N ≤ 256) (hj : j < N) (H : Says ws N P) : Says (ws.set (j / 64) ((ws.getD (j / 64) 0) ||| ((1 : Int64) <<< ((Int32.toInt64 (Int64.toInt32 (Int64.ofNat j))) &&& 63)))) N (fun t => P t ∨ t = j) := by
  refine ⟨by simpa using H.1, fun t ht => ?_⟩
  have hl : j / 64 < ws.length := by rw [H.1]; omega
  have q := H.2 t ht
  by_cases e : t / 64 = j / 64
  · have e2 : (ws.set (j / 64) ((ws.getD (j / 64) 0) ||| ((1 : Int64) <<< ((Int32.toInt64 (Int64.toInt32 (Int64.ofNat j))) &&& 63)))).getD (t / 64) 0 = (ws.getD (j / 64) 0) ||| ((1 : Int64) <<< ((Int32.toInt64 (Int64.toInt32 (Int64.ofNat j))) &&& 63)) := by
      rw [e, List.getD_eq_getElem?_getD, List.getElem?_set_self hl]; rfl
    rw [e] at q
    show _ ↔ (P t ∨ t = j)
    rw [e2, bit_or (by omega) (by omega) _ e, ← q]
    by_cases z : t = j <;> simp [z]
  · have e2 : (ws.set (j / 64) ((ws.getD (j / 64) 0) ||| ((1 : Int64) <<< ((Int32.toInt64 (Int64.toInt32 (Int64.ofNat j))) &&& 63)))).getD (t / 64) 0 = ws.getD (t / 64) 0 := by
      rw [List.getD_eq_getElem?_getD, List.getElem?_set_ne (Ne.symm e), ← List.getD_eq_getElem?_getD]
    show _ ↔ (P t ∨ t = j)
    rw [e2, q]
    have : t ≠ j := fun z => e (by rw [z])
    simp [this]
theorem dec_spec {t q : Nat} (ht : t < 256) (hq : q ≤ 56) (r : Int64) : XT.ushrL (((Int64.ofNat t) <<< ((Int32.toInt64 (Int32.ofNat q)) &&& 63)) ||| (r &&& (((1 : Int64) <<< ((Int32.toInt64 (Int32.ofNat q)) &&& 63)) - 1))) (Int32.ofNat q) = Int64.ofNat t := by
  have hs : ∀ a : Fin 57, ((Int32.toInt64 (Int32.ofNat a.val)) &&& 63).toBitVec.smod 64 = BitVec.ofNat 64 a.val := by decide +kernel
  have hu : ∀ a : Fin 57, ((Int32.ofNat a.val).toInt64.toUInt64 &&& Int64.toUInt64 63).toBitVec % 64 = BitVec.ofNat 64 a.val := by decide +kernel
  have hm : ∀ a : Fin 57, ((1#64 <<< a.val) - 1#64).toNat = 2 ^ a.val - 1 := by decide +kernel
  have hs := hs ⟨q, by omega⟩
  have hu := hu ⟨q, by omega⟩
  have hm := hm ⟨q, by omega⟩
  simp only [] at hs hu hm
  have h1 : ∀ a : Int64, (a <<< ((Int32.toInt64 (Int32.ofNat q)) &&& 63)).toBitVec = a.toBitVec <<< q := fun a => by
    rw [Int64.toBitVec_shiftLeft, hs, BitVec.shiftLeft_eq']
    simp [show q % 18446744073709551616 = q by omega]
  apply Int64.toBitVec_inj.mp
  unfold XT.ushrL
  have e1 : ∀ u : UInt64, u.toInt64.toBitVec = u.toBitVec := fun u => rfl
  have e2 : ∀ u : Int64, u.toUInt64.toBitVec = u.toBitVec := fun u => rfl
  rw [e1, UInt64.toBitVec_shiftRight, e2, hu, Int64.toBitVec_or, Int64.toBitVec_and, Int64.toBitVec_sub, h1, h1]
  apply BitVec.eq_of_toNat_eq
  have e3 : (1 : Int64).toBitVec = 1#64 := rfl
  have e4 : (Int64.ofNat t).toBitVec = BitVec.ofNat 64 t := rfl
  have hpow : 2 ^ q ≤ 2 ^ 56 := Nat.pow_le_pow_right (by decide) hq
  have hpos : 0 < 2 ^ q := Nat.pow_pos (by decide)
  have hlt : t * 2 ^ q < 2 ^ 64 := by
    calc t * 2 ^ q ≤ t * 2 ^ 56 := Nat.mul_le_mul_left _ hpow
      _ < 2 ^ 64 := by omega
  rw [e3, e4, BitVec.ushiftRight_eq', BitVec.toNat_ushiftRight, BitVec.toNat_or, BitVec.toNat_and, hm, BitVec.toNat_shiftLeft, BitVec.toNat_ofNat, BitVec.toNat_ofNat, Nat.mod_eq_of_lt (show t < 2 ^ 64 by omega), Nat.mod_eq_of_lt (show q < 2 ^ 64 by omega), Nat.shiftLeft_eq, Nat.mod_eq_of_lt hlt]
  have hr : r.toBitVec.toNat &&& (2 ^ q - 1) < 2 ^ q := Nat.lt_of_le_of_lt Nat.and_le_right (by omega)
  generalize r.toBitVec.toNat &&& (2 ^ q - 1) = z at hr
  have e5 := Nat.shiftLeft_add_eq_or_of_lt hr t
  rw [Nat.shiftLeft_eq] at e5
  rw [← e5, Nat.shiftRight_eq_div_pow, Nat.mul_comm, Nat.mul_add_div hpos, Nat.div_eq_of_lt hr]
  rfl
end Jvm.WK
namespace Jvm.Pilot.@@N@@
open Jvm Jvm.ClassFile Sem Op Lib Jvm.Free Jvm.Stand Jvm.LawKit Jvm.RoadKit Jvm.WK
def Ws (κ : Cx) : Prop := ∀ d ∈ (Jvm.Cond.code x code maxLocals ret :: tables_1), Wd κ d
section Words
variable {κ : Cx}
abbrev y0 : MethodName := ⟨"com/example/limber_sieve/limbersieve/BitArrayAllSetPinLaw", "law", "(IIIJI)Z"⟩
abbrev y1 : MethodName := ⟨"com/example/limber_sieve/limbersieve/BitArrayAllSetPinLaw", "pick", "(IJJJ)J"⟩
abbrev y2 : MethodName := ⟨"com/example/limber_sieve/limbersieve/BitArrayAllSetPinLaw", "hit", "(JJJZ)Z"⟩
abbrev y3 : MethodName := ⟨"com/example/limber_sieve/limbersieve/BitArray", "<init>", "(J)V"⟩
abbrev y4 : MethodName := ⟨"com/example/limber_sieve/limbersieve/BitArray", "set", "(J)V"⟩
abbrev y5 : MethodName := ⟨"com/example/limber_sieve/limbersieve/BitArray", "allSet", "([JII)Z"⟩
abbrev y6 : MethodName := ⟨"java/util/Objects", "checkIndex", "(JJ)J"⟩
abbrev y7 : MethodName := ⟨"jdk/internal/util/Preconditions", "checkIndex", "(JJLjava/util/function/BiFunction;)J"⟩
theorem w1 (hw : Ws κ) : Wd κ (Jvm.Cond.constant "com/example/limber_sieve/limbersieve/BitArrayAllSetPinLaw" (7 : Nat) (2147483647 : Int32)) := hw _ (List.mem_of_getElem? (i := 1) rfl)
theorem w2 (hw : Ws κ) : Wd κ (Jvm.Cond.methodLink "com/example/limber_sieve/limbersieve/BitArrayAllSetPinLaw" (8 : Nat) ({ cls := "com/example/limber_sieve/limbersieve/BitArrayAllSetPinLaw", name := "pick", desc := "(IJJJ)J" } : Jvm.MethodName)) := hw _ (List.mem_of_getElem? (i := 2) rfl)
theorem w3 (hw : Ws κ) : Wd κ (Jvm.Cond.static ({ cls := "com/example/limber_sieve/limbersieve/BitArrayAllSetPinLaw", name := "pick", desc := "(IJJJ)J" } : Jvm.MethodName)) := hw _ (List.mem_of_getElem? (i := 3) rfl)
theorem w4 (hw : Ws κ) : Wd κ (Jvm.Cond.initialized "com/example/limber_sieve/limbersieve/BitArrayAllSetPinLaw") := hw _ (List.mem_of_getElem? (i := 4) rfl)
theorem w6 (hw : Ws κ) : Wd κ (Jvm.Cond.arrayClass Jvm.ClassFile.FieldType.long) := hw _ (List.mem_of_getElem? (i := 6) rfl)
theorem w7 (hw : Ws κ) : Wd κ (Jvm.Cond.constantLong "com/example/limber_sieve/limbersieve/BitArrayAllSetPinLaw" (14 : Nat) (-1 : Int64)) := hw _ (List.mem_of_getElem? (i := 7) rfl)
theorem w8 (hw : Ws κ) : Wd κ (Jvm.Cond.classLink "com/example/limber_sieve/limbersieve/BitArrayAllSetPinLaw" (16 : Nat) "com/example/limber_sieve/limbersieve/BitArray") := hw _ (List.mem_of_getElem? (i := 8) rfl)
theorem w9 (hw : Ws κ) : Wd κ (Jvm.Cond.instantiable "com/example/limber_sieve/limbersieve/BitArray" (3 : Nat)) := hw _ (List.mem_of_getElem? (i := 9) rfl)
theorem w10 (hw : Ws κ) : Wd κ (Jvm.Cond.initialized "com/example/limber_sieve/limbersieve/BitArray") := hw _ (List.mem_of_getElem? (i := 10) rfl)
theorem w11 (hw : Ws κ) : Wd κ (Jvm.Cond.methodLink "com/example/limber_sieve/limbersieve/BitArrayAllSetPinLaw" (18 : Nat) ({ cls := "com/example/limber_sieve/limbersieve/BitArray", name := "<init>", desc := "(J)V" } : Jvm.MethodName)) := hw _ (List.mem_of_getElem? (i := 11) rfl)
theorem w12 (hw : Ws κ) : Wd κ (Jvm.Cond.instanceMethod ({ cls := "com/example/limber_sieve/limbersieve/BitArray", name := "<init>", desc := "(J)V" } : Jvm.MethodName)) := hw _ (List.mem_of_getElem? (i := 12) rfl)
theorem w14 (hw : Ws κ) : Wd κ (Jvm.Cond.methodLink "com/example/limber_sieve/limbersieve/BitArray" (5 : Nat) ({ cls := "java/lang/Object", name := "<init>", desc := "()V" } : Jvm.MethodName)) := hw _ (List.mem_of_getElem? (i := 14) rfl)
theorem w15 (hw : Ws κ) : Wd κ (Jvm.Cond.instanceMethod ({ cls := "java/lang/Object", name := "<init>", desc := "()V" } : Jvm.MethodName)) := hw _ (List.mem_of_getElem? (i := 15) rfl)
theorem w16 (hw : Ws κ) : Wd κ (Jvm.Cond.code ({ cls := "java/lang/Object", name := "<init>", desc := "()V" } : Jvm.MethodName) object_method_1_code (1 : Nat) (Option.none : Option Jvm.ClassFile.FieldType)) := hw _ (List.mem_of_getElem? (i := 16) rfl)
theorem w17 (hw : Ws κ) : Wd κ (Jvm.Cond.constantLong "com/example/limber_sieve/limbersieve/BitArray" (11 : Nat) (137438952896 : Int64)) := hw _ (List.mem_of_getElem? (i := 17) rfl)
theorem w18 (hw : Ws κ) : Wd κ (Jvm.Cond.fieldLink "com/example/limber_sieve/limbersieve/BitArray" (22 : Nat) "com/example/limber_sieve/limbersieve/BitArray" "length" "J") := hw _ (List.mem_of_getElem? (i := 18) rfl)
theorem w19 (hw : Ws κ) : Wd κ (Jvm.Cond.laysFinal "com/example/limber_sieve/limbersieve/BitArray" "com/example/limber_sieve/limbersieve/BitArray" "length" "J") := hw _ (List.mem_of_getElem? (i := 19) rfl)
theorem w20 (hw : Ws κ) : Wd κ (Jvm.Cond.constantLong "com/example/limber_sieve/limbersieve/BitArray" (26 : Nat) (63 : Int64)) := hw _ (List.mem_of_getElem? (i := 20) rfl)
theorem w21 (hw : Ws κ) : Wd κ (Jvm.Cond.fieldLink "com/example/limber_sieve/limbersieve/BitArray" (28 : Nat) "com/example/limber_sieve/limbersieve/BitArray" "words" "[J") := hw _ (List.mem_of_getElem? (i := 21) rfl)
theorem w22 (hw : Ws κ) : Wd κ (Jvm.Cond.laysFinal "com/example/limber_sieve/limbersieve/BitArray" "com/example/limber_sieve/limbersieve/BitArray" "words" "[J") := hw _ (List.mem_of_getElem? (i := 22) rfl)
theorem w23 (hw : Ws κ) : Wd κ (Jvm.Cond.methodLink "com/example/limber_sieve/limbersieve/BitArrayAllSetPinLaw" (21 : Nat) ({ cls := "com/example/limber_sieve/limbersieve/BitArray", name := "set", desc := "(J)V" } : Jvm.MethodName)) := hw _ (List.mem_of_getElem? (i := 23) rfl)
theorem w24 (hw : Ws κ) : Wd κ (Jvm.Cond.declares ({ cls := "com/example/limber_sieve/limbersieve/BitArray", name := "set", desc := "(J)V" } : Jvm.MethodName)) := hw _ (List.mem_of_getElem? (i := 24) rfl)
theorem w25 (hw : Ws κ) : Wd κ (Jvm.Cond.instanceMethod ({ cls := "com/example/limber_sieve/limbersieve/BitArray", name := "set", desc := "(J)V" } : Jvm.MethodName)) := hw _ (List.mem_of_getElem? (i := 25) rfl)
theorem w26 (hw : Ws κ) : Wd κ (Jvm.Cond.selects "com/example/limber_sieve/limbersieve/BitArray" ({ cls := "com/example/limber_sieve/limbersieve/BitArray", name := "set", desc := "(J)V" } : Jvm.MethodName) ({ cls := "com/example/limber_sieve/limbersieve/BitArray", name := "set", desc := "(J)V" } : Jvm.MethodName)) := hw _ (List.mem_of_getElem? (i := 26) rfl)
theorem w28 (hw : Ws κ) : Wd κ (Jvm.Cond.methodLink "com/example/limber_sieve/limbersieve/BitArray" (65 : Nat) ({ cls := "java/util/Objects", name := "checkIndex", desc := "(JJ)J" } : Jvm.MethodName)) := hw _ (List.mem_of_getElem? (i := 28) rfl)
theorem w29 (hw : Ws κ) : Wd κ (Jvm.Cond.static ({ cls := "java/util/Objects", name := "checkIndex", desc := "(JJ)J" } : Jvm.MethodName)) := hw _ (List.mem_of_getElem? (i := 29) rfl)
theorem w30 (hw : Ws κ) : Wd κ (Jvm.Cond.initialized "java/util/Objects") := hw _ (List.mem_of_getElem? (i := 30) rfl)
theorem w32 (hw : Ws κ) : Wd κ (Jvm.Cond.methodLink "java/util/Objects" (118 : Nat) ({ cls := "jdk/internal/util/Preconditions", name := "checkIndex", desc := "(JJLjava/util/function/BiFunction;)J" } : Jvm.MethodName)) := hw _ (List.mem_of_getElem? (i := 32) rfl)
theorem w33 (hw : Ws κ) : Wd κ (Jvm.Cond.static ({ cls := "jdk/internal/util/Preconditions", name := "checkIndex", desc := "(JJLjava/util/function/BiFunction;)J" } : Jvm.MethodName)) := hw _ (List.mem_of_getElem? (i := 33) rfl)
theorem w34 (hw : Ws κ) : Wd κ (Jvm.Cond.initialized "jdk/internal/util/Preconditions") := hw _ (List.mem_of_getElem? (i := 34) rfl)
theorem w36 (hw : Ws κ) : Wd κ (Jvm.Cond.fieldLink "com/example/limber_sieve/limbersieve/BitArray" (32 : Nat) "com/example/limber_sieve/limbersieve/BitArray" "setCount" "J") := hw _ (List.mem_of_getElem? (i := 36) rfl)
theorem w37 (hw : Ws κ) : Wd κ (Jvm.Cond.lays "com/example/limber_sieve/limbersieve/BitArray" "com/example/limber_sieve/limbersieve/BitArray" "setCount" "J") := hw _ (List.mem_of_getElem? (i := 37) rfl)
theorem w38 (hw : Ws κ) : Wd κ (Jvm.Cond.methodLink "com/example/limber_sieve/limbersieve/BitArrayAllSetPinLaw" (24 : Nat) ({ cls := "com/example/limber_sieve/limbersieve/BitArrayAllSetPinLaw", name := "hit", desc := "(JJJZ)Z" } : Jvm.MethodName)) := hw _ (List.mem_of_getElem? (i := 38) rfl)
theorem w39 (hw : Ws κ) : Wd κ (Jvm.Cond.static ({ cls := "com/example/limber_sieve/limbersieve/BitArrayAllSetPinLaw", name := "hit", desc := "(JJJZ)Z" } : Jvm.MethodName)) := hw _ (List.mem_of_getElem? (i := 39) rfl)
theorem w41 (hw : Ws κ) : Wd κ (Jvm.Cond.methodLink "com/example/limber_sieve/limbersieve/BitArrayAllSetPinLaw" (28 : Nat) ({ cls := "com/example/limber_sieve/limbersieve/BitArray", name := "allSet", desc := "([JII)Z" } : Jvm.MethodName)) := hw _ (List.mem_of_getElem? (i := 41) rfl)
theorem w42 (hw : Ws κ) : Wd κ (Jvm.Cond.declares ({ cls := "com/example/limber_sieve/limbersieve/BitArray", name := "allSet", desc := "([JII)Z" } : Jvm.MethodName)) := hw _ (List.mem_of_getElem? (i := 42) rfl)
theorem w43 (hw : Ws κ) : Wd κ (Jvm.Cond.instanceMethod ({ cls := "com/example/limber_sieve/limbersieve/BitArray", name := "allSet", desc := "([JII)Z" } : Jvm.MethodName)) := hw _ (List.mem_of_getElem? (i := 43) rfl)
theorem w44 (hw : Ws κ) : Wd κ (Jvm.Cond.selects "com/example/limber_sieve/limbersieve/BitArray" ({ cls := "com/example/limber_sieve/limbersieve/BitArray", name := "allSet", desc := "([JII)Z" } : Jvm.MethodName) ({ cls := "com/example/limber_sieve/limbersieve/BitArray", name := "allSet", desc := "([JII)Z" } : Jvm.MethodName)) := hw _ (List.mem_of_getElem? (i := 44) rfl)
theorem M0 (hw : Ws κ) : Meth κ y0 code maxLocals (some .boolean) := ⟨by decide +kernel, hw _ (List.mem_of_getElem? (i := 0) rfl)⟩
theorem pd0 : parseMethodDescriptor y0.desc = some ⟨[.int, .int, .int, .long, .int], some (.boolean)⟩ := by decide +kernel
theorem M1 (hw : Ws κ) : Meth κ y1 method_3_code 8 (Option.some Jvm.ClassFile.FieldType.long) := ⟨by decide +kernel, hw _ (List.mem_of_getElem? (i := 5) rfl)⟩
theorem pd1 : parseMethodDescriptor y1.desc = some ⟨[.int, .long, .long, .long], some (.long)⟩ := by decide +kernel
theorem M2 (hw : Ws κ) : Meth κ y2 method_4_code 7 (Option.some Jvm.ClassFile.FieldType.boolean) := ⟨by decide +kernel, hw _ (List.mem_of_getElem? (i := 40) rfl)⟩
theorem pd2 : parseMethodDescriptor y2.desc = some ⟨[.long, .long, .long, .boolean], some (.boolean)⟩ := by decide +kernel
theorem M3 (hw : Ws κ) : Meth κ y3 prog_2_method_1_code 3 (Option.none : Option Jvm.ClassFile.FieldType) := ⟨by decide +kernel, hw _ (List.mem_of_getElem? (i := 13) rfl)⟩
theorem pd3 : parseMethodDescriptor y3.desc = some ⟨[.long], none⟩ := by decide +kernel
theorem M4 (hw : Ws κ) : Meth κ y4 prog_2_method_11_code 6 (Option.none : Option Jvm.ClassFile.FieldType) := ⟨by decide +kernel, hw _ (List.mem_of_getElem? (i := 27) rfl)⟩
theorem pd4 : parseMethodDescriptor y4.desc = some ⟨[.long], none⟩ := by decide +kernel
theorem M5 (hw : Ws κ) : Meth κ y5 prog_2_method_9_code 7 (Option.some Jvm.ClassFile.FieldType.boolean) := ⟨by decide +kernel, hw _ (List.mem_of_getElem? (i := 45) rfl)⟩
theorem pd5 : parseMethodDescriptor y5.desc = some ⟨[.array (.long), .int, .int], some (.boolean)⟩ := by decide +kernel
theorem M6 (hw : Ws κ) : Meth κ y6 jdk_31_method_20_code 4 (Option.some Jvm.ClassFile.FieldType.long) := ⟨by decide +kernel, hw _ (List.mem_of_getElem? (i := 31) rfl)⟩
theorem pd6 : parseMethodDescriptor y6.desc = some ⟨[.long, .long], some (.long)⟩ := by decide +kernel
theorem M7 (hw : Ws κ) : Meth κ y7 jdk_41_method_14_code 5 (Option.some Jvm.ClassFile.FieldType.long) := ⟨by decide +kernel, hw _ (List.mem_of_getElem? (i := 35) rfl)⟩
theorem pd7 : parseMethodDescriptor y7.desc = some ⟨[.long, .long, .object "java/util/function/BiFunction"], some (.long)⟩ := by decide +kernel
theorem d0_107 : decode code 107 = .ok (.invokestatic 8, 3) := by decide +kernel
theorem d0_126 : decode code 126 = .ok (.invokestatic 8, 3) := by decide +kernel
theorem d0_132 : decode code 132 = .ok (.newarray .long, 2) := by decide +kernel
theorem d0_149 : decode code 149 = .ok (.lastore, 1) := by decide +kernel
theorem d0_159 : decode code 159 = .ok (.ldc2_w 14, 3) := by decide +kernel
theorem d0_167 : decode code 167 = .ok (.lastore, 1) := by decide +kernel
theorem d0_183 : decode code 183 = .ok (.lastore, 1) := by decide +kernel
theorem d0_184 : decode code 184 = .ok (.new 16, 3) := by decide +kernel
theorem d0_190 : decode code 190 = .ok (.invokespecial 18, 3) := by decide +kernel
theorem d0_199 : decode code 199 = .ok (.invokevirtual 21, 3) := by decide +kernel
theorem d0_204 : decode code 204 = .ok (.ifCond .eq 10, 3) := by decide +kernel
theorem d0_21 : decode code 21 = .ok (.lrem, 1) := by decide +kernel
theorem d0_211 : decode code 211 = .ok (.invokevirtual 21, 3) := by decide +kernel
theorem d0_216 : decode code 216 = .ok (.ifCond .gt 17, 3) := by decide +kernel
theorem d0_227 : decode code 227 = .ok (.invokestatic 24, 3) := by decide +kernel
theorem d0_230 : decode code 230 = .ok (.ifCond .eq 47, 3) := by decide +kernel
theorem d0_236 : decode code 236 = .ok (.if_icmp .gt 17, 3) := by decide +kernel
theorem d0_247 : decode code 247 = .ok (.invokestatic 24, 3) := by decide +kernel
theorem d0_250 : decode code 250 = .ok (.ifCond .eq 27, 3) := by decide +kernel
theorem d0_256 : decode code 256 = .ok (.if_icmp .gt 17, 3) := by decide +kernel
theorem d0_267 : decode code 267 = .ok (.invokestatic 24, 3) := by decide +kernel
theorem d0_270 : decode code 270 = .ok (.ifCond .eq 7, 3) := by decide +kernel
theorem d0_288 : decode code 288 = .ok (.invokevirtual 28, 3) := by decide +kernel
theorem d0_293 : decode code 293 = .ok (.if_icmp .ne 7, 3) := by decide +kernel
theorem d0_301 : decode code 301 = .ok (.ireturn, 1) := by decide +kernel
theorem d0_35 : decode code 35 = .ok (.lrem, 1) := by decide +kernel
theorem d0_44 : decode code 44 = .ok (.ifCond .eq 7, 3) := by decide +kernel
theorem d0_55 : decode code 55 = .ok (.ldc 7, 2) := by decide +kernel
theorem d0_60 : decode code 60 = .ok (.irem, 1) := by decide +kernel
theorem d0_88 : decode code 88 = .ok (.invokestatic 8, 3) := by decide +kernel
theorem d1_11 : decode method_3_code 11 = .ok (.lreturn, 1) := by decide +kernel
theorem d1_15 : decode method_3_code 15 = .ok (.if_icmp .ne 5, 3) := by decide +kernel
theorem d1_19 : decode method_3_code 19 = .ok (.lreturn, 1) := by decide +kernel
theorem d1_30 : decode method_3_code 30 = .ok (.lrem, 1) := by decide +kernel
theorem d1_31 : decode method_3_code 31 = .ok (.lreturn, 1) := by decide +kernel
theorem d1_7 : decode method_3_code 7 = .ok (.ifCond .ne 5, 3) := by decide +kernel
theorem d2_15 : decode method_4_code 15 = .ok (.ifCond .ne 7, 3) := by decide +kernel
theorem d2_23 : decode method_4_code 23 = .ok (.ireturn, 1) := by decide +kernel
theorem d2_3 : decode method_4_code 3 = .ok (.ifCond .eq 15, 3) := by decide +kernel
theorem d2_8 : decode method_4_code 8 = .ok (.ifCond .eq 14, 3) := by decide +kernel
theorem d3_1 : decode prog_2_method_1_code 1 = .ok (.invokespecial 5, 3) := by decide +kernel
theorem d3_28 : decode prog_2_method_1_code 28 = .ok (.putfield 22, 3) := by decide +kernel
theorem d3_33 : decode prog_2_method_1_code 33 = .ok (.ldc2_w 26, 3) := by decide +kernel
theorem d3_41 : decode prog_2_method_1_code 41 = .ok (.newarray .long, 2) := by decide +kernel
theorem d3_43 : decode prog_2_method_1_code 43 = .ok (.putfield 28, 3) := by decide +kernel
theorem d3_46 : decode prog_2_method_1_code 46 = .ok (.return_, 1) := by decide +kernel
theorem d3_5 : decode prog_2_method_1_code 5 = .ok (.ldc2_w 11, 3) := by decide +kernel
theorem d3_9 : decode prog_2_method_1_code 9 = .ok (.ifCond .le 17, 3) := by decide +kernel
theorem d4_2 : decode prog_2_method_11_code 2 = .ok (.getfield 22, 3) := by decide +kernel
theorem d4_22 : decode prog_2_method_11_code 22 = .ok (.getfield 28, 3) := by decide +kernel
theorem d4_26 : decode prog_2_method_11_code 26 = .ok (.laload, 1) := by decide +kernel
theorem d4_32 : decode prog_2_method_11_code 32 = .ok (.ifCond .ne 24, 3) := by decide +kernel
theorem d4_36 : decode prog_2_method_11_code 36 = .ok (.getfield 28, 3) := by decide +kernel
theorem d4_41 : decode prog_2_method_11_code 41 = .ok (.laload, 1) := by decide +kernel
theorem d4_45 : decode prog_2_method_11_code 45 = .ok (.lastore, 1) := by decide +kernel
theorem d4_48 : decode prog_2_method_11_code 48 = .ok (.getfield 32, 3) := by decide +kernel
theorem d4_5 : decode prog_2_method_11_code 5 = .ok (.invokestatic 65, 3) := by decide +kernel
theorem d4_53 : decode prog_2_method_11_code 53 = .ok (.putfield 32, 3) := by decide +kernel
theorem d4_56 : decode prog_2_method_11_code 56 = .ok (.return_, 1) := by decide +kernel
theorem d4_8 : decode prog_2_method_11_code 8 = .ok (.pop2, 1) := by decide +kernel
theorem d5_13 : decode prog_2_method_9_code 13 = .ok (.laload, 1) := by decide +kernel
theorem d5_19 : decode prog_2_method_9_code 19 = .ok (.getfield 28, 3) := by decide +kernel
theorem d5_28 : decode prog_2_method_9_code 28 = .ok (.laload, 1) := by decide +kernel
theorem d5_37 : decode prog_2_method_9_code 37 = .ok (.ifCond .ne 5, 3) := by decide +kernel
theorem d5_41 : decode prog_2_method_9_code 41 = .ok (.ireturn, 1) := by decide +kernel
theorem d5_49 : decode prog_2_method_9_code 49 = .ok (.ireturn, 1) := by decide +kernel
theorem d5_6 : decode prog_2_method_9_code 6 = .ok (.arraylength, 1) := by decide +kernel
theorem d5_7 : decode prog_2_method_9_code 7 = .ok (.if_icmp .ge 41, 3) := by decide +kernel
theorem d6_3 : decode jdk_31_method_20_code 3 = .ok (.invokestatic 118, 3) := by decide +kernel
theorem d6_6 : decode jdk_31_method_20_code 6 = .ok (.lreturn, 1) := by decide +kernel
theorem d7_21 : decode jdk_41_method_14_code 21 = .ok (.lreturn, 1) := by decide +kernel
theorem d7_3 : decode jdk_41_method_14_code 3 = .ok (.ifCond .lt 9, 3) := by decide +kernel
theorem d7_9 : decode jdk_41_method_14_code 9 = .ok (.ifCond .lt 11, 3) := by decide +kernel
end Words
theorem cls_BA {κ : Cx} (hw : Ws κ) : Cls κ "com/example/limber_sieve/limbersieve/BitArray" [("com/example/limber_sieve/limbersieve/BitArray", "length", "J", .long 0), ("com/example/limber_sieve/limbersieve/BitArray", "words", "[J", .null), ("com/example/limber_sieve/limbersieve/BitArray", "setCount", "J", .long 0)] := by
  have h1 : Laid (kZ κ) (ka κ) "com/example/limber_sieve/limbersieve/BitArray" "com/example/limber_sieve/limbersieve/BitArray" "length" "J" := Or.inr (w19 hw)
  have h2 : Laid (kZ κ) (ka κ) "com/example/limber_sieve/limbersieve/BitArray" "com/example/limber_sieve/limbersieve/BitArray" "words" "[J" := Or.inr (w22 hw)
  have h3 : Laid (kZ κ) (ka κ) "com/example/limber_sieve/limbersieve/BitArray" "com/example/limber_sieve/limbersieve/BitArray" "setCount" "J" := Or.inl (w37 hw)
  have n12 := slot_ne h1 h2 (by decide) (t := .long) (t' := .array .long) (by decide) (by decide)
  have n13 := slot_ne h1 h3 (by decide) (t := .long) (t' := .long) (by decide) (by decide)
  have n23 := slot_ne h2 h3 (by decide) (t := .array .long) (t' := .long) (by decide) (by decide)
  refine ⟨fun f hf => ?_, by simpa [fslot] using ⟨⟨n12, n13⟩, n23⟩⟩
  simp only [List.mem_cons, List.not_mem_nil, or_false] at hf
  rcases hf with rfl | rfl | rfl
  · exact ⟨h1, .long, by decide, rfl⟩
  · exact ⟨h2, .array .long, by decide, rfl⟩
  · exact ⟨h3, .long, by decide, rfl⟩
theorem c_pick {κ : Cx} (C : Ok κ) (hw : Ws κ) {sel : Int32} {b0 b1 len : Int64} (hl : len ≠ 0) {yc : MethodName} {pcc : Nat} {Lc : List Slot} {Sc : List Value} {F : List Frame} {l : List Chunk} {k n : Nat} (Cr : Caller κ yc pcc 3) (K : WP κ yc (pcc + 3) Lc (.long (pk sel b0 b1 len) :: Sc) F l k n) :
    WP κ y1 0 [.val (.int sel), .val (.long b0), .second, .val (.long b1), .second, .val (.long len), .second, .unset] [] (fr κ yc pcc Lc Sc :: F) (l) k n := by
  refine wp_seg C (M1 hw) [(.iload_n 0, 1), (.iconst 3, 1), (.iand, 1), (.istore 7, 2), (.iload 7, 2)] (by decide +kernel) (pc' := 7) (L' := [.val (.int sel), .val (.long b0), .second, .val (.long b1), .second, .val (.long len), .second, .val (.int (sel &&& (3 : Int32)))]) (S' := [.int (sel &&& (3 : Int32))]) rfl ?_
  by_cases h1 : sel &&& 3 = 0
  · refine wp_iff C (M1 hw) d1_7 (XT.i0_ne_f h1) ?_
    refine wp_seg C (M1 hw) [(.lload_n 1, 1)] (by decide +kernel) (pc' := 11) (L' := [.val (.int sel), .val (.long b0), .second, .val (.long b1), .second, .val (.long len), .second, .val (.int (sel &&& (3 : Int32)))]) (S' := [.long b0]) rfl ?_
    rw [pk_0 h1] at K
    exact wp_lret C (M1 hw) d1_11 rfl Cr K
  · refine wp_ift C (M1 hw) d1_7 (XT.i0_ne_t h1) (pc' := 12) (by decide) ?_
    refine wp_seg C (M1 hw) [(.iload 7, 2), (.iconst 1, 1)] (by decide +kernel) (pc' := 15) (L' := [.val (.int sel), .val (.long b0), .second, .val (.long b1), .second, .val (.long len), .second, .val (.int (sel &&& (3 : Int32)))]) (S' := [.int 1, .int (sel &&& (3 : Int32))]) rfl ?_
    by_cases h2 : sel &&& 3 = 1
    · refine wp_icf C (M1 hw) d1_15 (XT.ii_ne_f h2) ?_
      refine wp_seg C (M1 hw) [(.lload_n 3, 1)] (by decide +kernel) (pc' := 19) (L' := [.val (.int sel), .val (.long b0), .second, .val (.long b1), .second, .val (.long len), .second, .val (.int (sel &&& (3 : Int32)))]) (S' := [.long b1]) rfl ?_
      rw [pk_1 h1 h2] at K
      exact wp_lret C (M1 hw) d1_19 rfl Cr K
    · refine wp_ict C (M1 hw) d1_15 (XT.ii_ne_t h2) (pc' := 20) (by decide) ?_
      refine wp_seg C (M1 hw) [(.iload_n 0, 1), (.iconst 2, 1), (.iushr, 1), (.sipush 255, 3), (.iand, 1), (.i2l, 1), (.lload 5, 2)] (by decide +kernel) (pc' := 30) (L' := [.val (.int sel), .val (.long b0), .second, .val (.long b1), .second, .val (.long len), .second, .val (.int (sel &&& (3 : Int32)))]) (S' := [.long len, .long (Int32.toInt64 ((XT.ushr sel (2 : Int32)) &&& (255 : Int32)))]) rfl ?_
      refine wp_lrem C (M1 hw) d1_30 hl ?_
      rw [pk_2 h1 h2] at K
      exact wp_lret C (M1 hw) d1_31 rfl Cr K
theorem c_hit {κ : Cx} (C : Ok κ) (hw : Ws κ) {i b0 b1 : Int64} {sb : Int32} {yc : MethodName} {pcc : Nat} {Lc : List Slot} {Sc : List Value} {F : List Frame} {l : List Chunk} {k n : Nat} (Cr : Caller κ yc pcc 3) (K : WP κ yc (pcc + 3) Lc (.int (bi (i = b0 ∨ (¬ sb = 0 ∧ i = b1))) :: Sc) F l k n) :
    WP κ y2 0 [.val (.long i), .second, .val (.long b0), .second, .val (.long b1), .second, .val (.int sb)] [] (fr κ yc pcc Lc Sc :: F) (l) k n := by
  refine wp_seg C (M2 hw) [(.lload_n 0, 1), (.lload_n 2, 1), (.lcmp, 1)] (by decide +kernel) (pc' := 3) (L' := [.val (.long i), .second, .val (.long b0), .second, .val (.long b1), .second, .val (.int sb)]) (S' := [.int (XT.cmpL i b0)]) rfl ?_
  by_cases h1 : i = b0
  · refine wp_ift C (M2 hw) d2_3 (XT.ll_eq_t h1) (pc' := 18) (by decide) ?_
    refine wp_seg C (M2 hw) [(.iconst 1, 1), (.goto 4, 3)] (by decide +kernel) (pc' := 23) (L' := [.val (.long i), .second, .val (.long b0), .second, .val (.long b1), .second, .val (.int sb)]) (S' := [.int 1]) rfl ?_
    rw [bi_t (Or.inl h1)] at K
    exact wp_iret C (M2 hw) d2_23 rfl (t := .boolean) (by decide) rfl Cr K
  · refine wp_iff C (M2 hw) d2_3 (XT.ll_eq_f h1) ?_
    refine wp_seg C (M2 hw) [(.iload 6, 2)] (by decide +kernel) (pc' := 8) (L' := [.val (.long i), .second, .val (.long b0), .second, .val (.long b1), .second, .val (.int sb)]) (S' := [.int sb]) rfl ?_
    by_cases h2 : sb = 0
    · refine wp_ift C (M2 hw) d2_8 (XT.i0_eq_t h2) (pc' := 22) (by decide) ?_
      refine wp_seg C (M2 hw) [(.iconst 0, 1)] (by decide +kernel) (pc' := 23) (L' := [.val (.long i), .second, .val (.long b0), .second, .val (.long b1), .second, .val (.int sb)]) (S' := [.int 0]) rfl ?_
      rw [bi_f (fun q => q.elim h1 fun r => r.1 h2)] at K
      exact wp_iret C (M2 hw) d2_23 rfl (t := .boolean) (by decide) rfl Cr K
    · refine wp_iff C (M2 hw) d2_8 (XT.i0_eq_f h2) ?_
      refine wp_seg C (M2 hw) [(.lload_n 0, 1), (.lload 4, 2), (.lcmp, 1)] (by decide +kernel) (pc' := 15) (L' := [.val (.long i), .second, .val (.long b0), .second, .val (.long b1), .second, .val (.int sb)]) (S' := [.int (XT.cmpL i b1)]) rfl ?_
      by_cases h3 : i = b1
      · refine wp_iff C (M2 hw) d2_15 (XT.ll_ne_f h3) ?_
        refine wp_seg C (M2 hw) [(.iconst 1, 1), (.goto 4, 3)] (by decide +kernel) (pc' := 23) (L' := [.val (.long i), .second, .val (.long b0), .second, .val (.long b1), .second, .val (.int sb)]) (S' := [.int 1]) rfl ?_
        rw [bi_t (Or.inr ⟨h2, h3⟩)] at K
        exact wp_iret C (M2 hw) d2_23 rfl (t := .boolean) (by decide) rfl Cr K
      · refine wp_ift C (M2 hw) d2_15 (XT.ll_ne_t h3) (pc' := 22) (by decide) ?_
        refine wp_seg C (M2 hw) [(.iconst 0, 1)] (by decide +kernel) (pc' := 23) (L' := [.val (.long i), .second, .val (.long b0), .second, .val (.long b1), .second, .val (.int sb)]) (S' := [.int 0]) rfl ?_
        rw [bi_f (fun q => q.elim h1 fun r => h3 r.2)] at K
        exact wp_iret C (M2 hw) d2_23 rfl (t := .boolean) (by decide) rfl Cr K
theorem c_pci {κ : Cx} (C : Ok κ) (hw : Ws κ) {i len : Int64} (h0 : ¬ i < 0) (h1 : i < len) {yc : MethodName} {pcc : Nat} {Lc : List Slot} {Sc : List Value} {F : List Frame} {l : List Chunk} {k n : Nat} (Cr : Caller κ yc pcc 3) (K : WP κ yc (pcc + 3) Lc (.long i :: Sc) F l k n) :
    WP κ y7 0 [.val (.long i), .second, .val (.long len), .second, .val (.null)] [] (fr κ yc pcc Lc Sc :: F) (l) k n := by
  refine wp_seg C (M7 hw) [(.lload_n 0, 1), (.lconst 0, 1), (.lcmp, 1)] (by decide +kernel) (pc' := 3) (L' := [.val (.long i), .second, .val (.long len), .second, .val (.null)]) (S' := [.int (XT.cmpL i (0 : Int64))]) rfl ?_
  refine wp_iff C (M7 hw) d7_3 (XT.ll_lt_f h0) ?_
  refine wp_seg C (M7 hw) [(.lload_n 0, 1), (.lload_n 2, 1), (.lcmp, 1)] (by decide +kernel) (pc' := 9) (L' := [.val (.long i), .second, .val (.long len), .second, .val (.null)]) (S' := [.int (XT.cmpL i len)]) rfl ?_
  refine wp_ift C (M7 hw) d7_9 (XT.ll_lt_t h1) (pc' := 20) (by decide) ?_
  refine wp_seg C (M7 hw) [(.lload_n 0, 1)] (by decide +kernel) (pc' := 21) (L' := [.val (.long i), .second, .val (.long len), .second, .val (.null)]) (S' := [.long i]) rfl ?_
  exact wp_lret C (M7 hw) d7_21 rfl Cr K
theorem c_oci {κ : Cx} (C : Ok κ) (hw : Ws κ) {i len : Int64} (h0 : ¬ i < 0) (h1 : i < len) {yc : MethodName} {pcc : Nat} {Lc : List Slot} {Sc : List Value} {F : List Frame} {l : List Chunk} {k n : Nat} (Cr : Caller κ yc pcc 3) (hR : Rm κ (fr κ yc pcc Lc Sc :: F) 2 31) (K : WP κ yc (pcc + 3) Lc (.long i :: Sc) F l k n) :
    WP κ y6 0 [.val (.long i), .second, .val (.long len), .second] [] (fr κ yc pcc Lc Sc :: F) (l) k n := by
  refine wp_seg C (M6 hw) [(.lload_n 0, 1), (.lload_n 2, 1), (.aconst_null, 1)] (by decide +kernel) (pc' := 3) (L' := [.val (.long i), .second, .val (.long len), .second]) (S' := [.null, .long len, .long i]) rfl ?_
  refine wp_invokestatic C (M6 hw) d6_3 (M7 hw) (w32 hw) (w33 hw) (w34 hw) (by decide) (S' := []) [.long i, .long len, .null] (lenOf pd7 rfl) rfl (L' := [.val (.long i), .second, .val (.long len), .second, .val (.null)]) rfl rfl (hR.push (Nat.le_of_ble_eq_true rfl) (Nat.le_of_ble_eq_true rfl)) ?_
  refine c_pci C hw h0 h1 (Meth.caller (M6 hw) d6_3) ?_
  exact wp_lret C (M6 hw) d6_6 rfl Cr K
theorem c_init {κ : Cx} (C : Ok κ) (hw : Ws κ) {o : Addr} {len : Int64} {m : Nat} (h1 : ¬ 137438952896 < len) (hm : Ix (Int64.toInt32 (XT.ushrL (len + 63) 6)) m) (hb : m * 8 ≤ 536870912) {yc : MethodName} {pcc : Nat} {Lc : List Slot} {Sc : List Value} {F : List Frame} {l : List Chunk} {k n : Nat} (Cr : Caller κ yc pcc 3) (hR : Rm κ (fr κ yc pcc Lc Sc :: F) 2 26) (hk : k + 1 ≤ (kR κ).cells) (hn : n + m ≤ (kR κ).slots) (K : ∀ w, WP κ yc (pcc + 3) Lc Sc F ((w, true, .inr (.long, List.replicate m (.long 0))) :: (o, true, .inl ("com/example/limber_sieve/limbersieve/BitArray", [("com/example/limber_sieve/limbersieve/BitArray", "length", "J", .long len), ("com/example/limber_sieve/limbersieve/BitArray", "words", "[J", .ref w), ("com/example/limber_sieve/limbersieve/BitArray", "setCount", "J", .long 0)])) :: l) (k + 1) (n + m)) :
    WP κ y3 0 [.val (.ref o), .val (.long len), .second] [] (fr κ yc pcc Lc Sc :: F) ((o, true, .inl ("com/example/limber_sieve/limbersieve/BitArray", [("com/example/limber_sieve/limbersieve/BitArray", "length", "J", .long 0), ("com/example/limber_sieve/limbersieve/BitArray", "words", "[J", .null), ("com/example/limber_sieve/limbersieve/BitArray", "setCount", "J", .long 0)])) :: l) k n := by
  refine wp_seg C (M3 hw) [(.aload_n 0, 1)] (by decide +kernel) (pc' := 1) (L' := [.val (.ref o), .val (.long len), .second]) (S' := [.ref o]) rfl ?_
  refine wp_initObject C (M3 hw) d3_1 (w14 hw) (w15 hw) (w16 hw) (hR.push (Nat.le_of_ble_eq_true rfl) (Nat.le_of_ble_eq_true rfl)) ?_
  refine wp_seg C (M3 hw) [(.lload_n 1, 1)] (by decide +kernel) (pc' := 5) (L' := [.val (.ref o), .val (.long len), .second]) (S' := [.long len]) rfl ?_
  refine wp_ldc2 C (M3 hw) d3_5 (w17 hw) ?_
  refine wp_seg C (M3 hw) [(.lcmp, 1)] (by decide +kernel) (pc' := 9) (L' := [.val (.ref o), .val (.long len), .second]) (S' := [.int (XT.cmpL len (137438952896 : Int64))]) rfl ?_
  refine wp_ift C (M3 hw) d3_9 (XT.ll_le_t h1) (pc' := 26) (by decide) ?_
  refine wp_seg C (M3 hw) [(.aload_n 0, 1), (.lload_n 1, 1)] (by decide +kernel) (pc' := 28) (L' := [.val (.ref o), .val (.long len), .second]) (S' := [.long len, .ref o]) rfl ?_
  refine wp_putfield C (M3 hw) d3_28 (w18 hw) (Or.inl rfl) (i := 0) (j := 0) rfl rfl (Or.inr ⟨(w19 hw), rfl, rfl⟩) (w9 hw) (ty := .long) (by decide) rfl rfl (l' := (o, true, .inl ("com/example/limber_sieve/limbersieve/BitArray", [("com/example/limber_sieve/limbersieve/BitArray", "length", "J", .long len), ("com/example/limber_sieve/limbersieve/BitArray", "words", "[J", .null), ("com/example/limber_sieve/limbersieve/BitArray", "setCount", "J", .long 0)])) :: l) rfl ?_
  refine wp_seg C (M3 hw) [(.aload_n 0, 1), (.lload_n 1, 1)] (by decide +kernel) (pc' := 33) (L' := [.val (.ref o), .val (.long len), .second]) (S' := [.long len, .ref o]) rfl ?_
  refine wp_ldc2 C (M3 hw) d3_33 (w20 hw) ?_
  refine wp_seg C (M3 hw) [(.ladd, 1), (.bipush 6, 2), (.lushr, 1), (.l2i, 1)] (by decide +kernel) (pc' := 41) (L' := [.val (.ref o), .val (.long len), .second]) (S' := [.int (Int64.toInt32 (XT.ushrL (len + (63 : Int64)) (6 : Int32))), .ref o]) rfl ?_
  refine wp_newarray C (M3 hw) d3_41 rfl (w6 hw) (len := m) hm hb hk hn (vs := List.replicate m (.long 0)) rfl fun a1 => ?_
  refine wp_putfield C (M3 hw) d3_43 (w21 hw) (Or.inl rfl) (i := 1) (j := 1) rfl rfl (Or.inr ⟨(w22 hw), rfl, rfl⟩) (w9 hw) (ty := .array (.long)) (by decide) rfl rfl (l' := (a1, true, .inr (.long, List.replicate m (.long 0))) :: (o, true, .inl ("com/example/limber_sieve/limbersieve/BitArray", [("com/example/limber_sieve/limbersieve/BitArray", "length", "J", .long len), ("com/example/limber_sieve/limbersieve/BitArray", "words", "[J", .ref a1), ("com/example/limber_sieve/limbersieve/BitArray", "setCount", "J", .long 0)])) :: l) rfl ?_
  exact wp_vret C (M3 hw) d3_46 Cr (K a1)
theorem c_set {κ : Cx} (C : Ok κ) (hw : Ws κ) {o w : Addr} {len i c : Int64} {ws : List Int64} {q : Nat} (h0 : ¬ i < 0) (h1 : i < len) (hq : Ix (Int64.toInt32 (XT.ushrL i 6)) q) (hl : q < ws.length) (hone : ∀ x : Int64, ¬ x &&& ((1 : Int64) <<< ((Int32.toInt64 (Int64.toInt32 i)) &&& 63)) = 0 → x ||| ((1 : Int64) <<< ((Int32.toInt64 (Int64.toInt32 i)) &&& 63)) = x) {yc : MethodName} {pcc : Nat} {Lc : List Slot} {Sc : List Value} {F : List Frame} {l : List Chunk} {k n : Nat} (Cr : Caller κ yc pcc 3) (hR : Rm κ (fr κ yc pcc Lc Sc :: F) 3 50) (K : ∀ c, WP κ yc (pcc + 3) Lc Sc F ((w, true, .inr (.long, (ws.set q ((ws.getD q 0) ||| ((1 : Int64) <<< ((Int32.toInt64 (Int64.toInt32 i)) &&& 63)))).map Value.long)) :: (o, true, .inl ("com/example/limber_sieve/limbersieve/BitArray", [("com/example/limber_sieve/limbersieve/BitArray", "length", "J", .long len), ("com/example/limber_sieve/limbersieve/BitArray", "words", "[J", .ref w), ("com/example/limber_sieve/limbersieve/BitArray", "setCount", "J", .long c)])) :: l) k n) :
    WP κ y4 0 [.val (.ref o), .val (.long i), .second, .unset, .unset, .unset] [] (fr κ yc pcc Lc Sc :: F) ((w, true, .inr (.long, ws.map Value.long)) :: (o, true, .inl ("com/example/limber_sieve/limbersieve/BitArray", [("com/example/limber_sieve/limbersieve/BitArray", "length", "J", .long len), ("com/example/limber_sieve/limbersieve/BitArray", "words", "[J", .ref w), ("com/example/limber_sieve/limbersieve/BitArray", "setCount", "J", .long c)])) :: l) k n := by
  refine wp_seg C (M4 hw) [(.lload_n 1, 1), (.aload_n 0, 1)] (by decide +kernel) (pc' := 2) (L' := [.val (.ref o), .val (.long i), .second, .unset, .unset, .unset]) (S' := [.ref o, .long i]) rfl ?_
  refine wp_getfield C (M4 hw) d4_2 (w18 hw) (Or.inl rfl) (a := o) (mu := true) (Cl := "com/example/limber_sieve/limbersieve/BitArray") (fs := [("com/example/limber_sieve/limbersieve/BitArray", "length", "J", .long len), ("com/example/limber_sieve/limbersieve/BitArray", "words", "[J", .ref w), ("com/example/limber_sieve/limbersieve/BitArray", "setCount", "J", .long c)]) (List.mem_of_getElem? (i := 1) rfl) (List.mem_of_getElem? (i := 0) rfl) ?_
  refine wp_invokestatic C (M4 hw) d4_5 (M6 hw) (w28 hw) (w29 hw) (w30 hw) (by decide) (S' := []) [.long i, .long len] (lenOf pd6 rfl) rfl (L' := [.val (.long i), .second, .val (.long len), .second]) rfl rfl ((hR.push (d' := 2) (w' := 31) (Nat.le_of_ble_eq_true rfl) (Nat.le_of_ble_eq_true rfl)).mono (Nat.le_of_ble_eq_true rfl) (Nat.le_of_ble_eq_true rfl)) ?_
  refine c_oci C hw h0 h1 (Meth.caller (M4 hw) d4_5) (hR.push (Nat.le_of_ble_eq_true rfl) (Nat.le_of_ble_eq_true rfl)) ?_
  refine wp_pop2 C (M4 hw) d4_8 ?_
  refine wp_seg C (M4 hw) [(.lload_n 1, 1), (.bipush 6, 2), (.lushr, 1), (.l2i, 1), (.istore_n 3, 1), (.lconst 1, 1), (.lload_n 1, 1), (.l2i, 1), (.lshl, 1), (.lstore 4, 2), (.aload_n 0, 1)] (by decide +kernel) (pc' := 22) (L' := [.val (.ref o), .val (.long i), .second, .val (.int (Int64.toInt32 (XT.ushrL i (6 : Int32)))), .val (.long ((1 : Int64) <<< ((Int32.toInt64 (Int64.toInt32 i)) &&& 63))), .second]) (S' := [.ref o]) rfl ?_
  refine wp_getfield C (M4 hw) d4_22 (w21 hw) (Or.inl rfl) (a := o) (mu := true) (Cl := "com/example/limber_sieve/limbersieve/BitArray") (fs := [("com/example/limber_sieve/limbersieve/BitArray", "length", "J", .long len), ("com/example/limber_sieve/limbersieve/BitArray", "words", "[J", .ref w), ("com/example/limber_sieve/limbersieve/BitArray", "setCount", "J", .long c)]) (List.mem_of_getElem? (i := 1) rfl) (List.mem_of_getElem? (i := 1) rfl) ?_
  refine wp_seg C (M4 hw) [(.iload_n 3, 1)] (by decide +kernel) (pc' := 26) (L' := [.val (.ref o), .val (.long i), .second, .val (.int (Int64.toInt32 (XT.ushrL i (6 : Int32)))), .val (.long ((1 : Int64) <<< ((Int32.toInt64 (Int64.toInt32 i)) &&& 63))), .second]) (S' := [.int (Int64.toInt32 (XT.ushrL i (6 : Int32))), .ref w]) rfl ?_
  refine wp_laload C (M4 hw) d4_26 (a := w) (List.mem_of_getElem? (i := 0) rfl) (i := q) hq (v := .long (ws.getD q 0)) (mapget hl) ?_
  refine wp_seg C (M4 hw) [(.lload 4, 2), (.land, 1), (.lconst 0, 1), (.lcmp, 1)] (by decide +kernel) (pc' := 32) (L' := [.val (.ref o), .val (.long i), .second, .val (.int (Int64.toInt32 (XT.ushrL i (6 : Int32)))), .val (.long ((1 : Int64) <<< ((Int32.toInt64 (Int64.toInt32 i)) &&& 63))), .second]) (S' := [.int (XT.cmpL ((ws.getD q 0) &&& ((1 : Int64) <<< ((Int32.toInt64 (Int64.toInt32 i)) &&& 63))) (0 : Int64))]) rfl ?_
  by_cases hz : (ws.getD q 0) &&& ((1 : Int64) <<< ((Int32.toInt64 (Int64.toInt32 i)) &&& 63)) = 0
  · refine wp_iff C (M4 hw) d4_32 (XT.ll_ne_f hz) ?_
    refine wp_seg C (M4 hw) [(.aload_n 0, 1)] (by decide +kernel) (pc' := 36) (L' := [.val (.ref o), .val (.long i), .second, .val (.int (Int64.toInt32 (XT.ushrL i (6 : Int32)))), .val (.long ((1 : Int64) <<< ((Int32.toInt64 (Int64.toInt32 i)) &&& 63))), .second]) (S' := [.ref o]) rfl ?_
    refine wp_getfield C (M4 hw) d4_36 (w21 hw) (Or.inl rfl) (a := o) (mu := true) (Cl := "com/example/limber_sieve/limbersieve/BitArray") (fs := [("com/example/limber_sieve/limbersieve/BitArray", "length", "J", .long len), ("com/example/limber_sieve/limbersieve/BitArray", "words", "[J", .ref w), ("com/example/limber_sieve/limbersieve/BitArray", "setCount", "J", .long c)]) (List.mem_of_getElem? (i := 1) rfl) (List.mem_of_getElem? (i := 1) rfl) ?_
    refine wp_seg C (M4 hw) [(.iload_n 3, 1), (.dup2, 1)] (by decide +kernel) (pc' := 41) (L' := [.val (.ref o), .val (.long i), .second, .val (.int (Int64.toInt32 (XT.ushrL i (6 : Int32)))), .val (.long ((1 : Int64) <<< ((Int32.toInt64 (Int64.toInt32 i)) &&& 63))), .second]) (S' := [.int (Int64.toInt32 (XT.ushrL i (6 : Int32))), .ref w, .int (Int64.toInt32 (XT.ushrL i (6 : Int32))), .ref w]) rfl ?_
    refine wp_laload C (M4 hw) d4_41 (a := w) (List.mem_of_getElem? (i := 0) rfl) (i := q) hq (v := .long (ws.getD q 0)) (mapget hl) ?_
    refine wp_seg C (M4 hw) [(.lload 4, 2), (.lor, 1)] (by decide +kernel) (pc' := 45) (L' := [.val (.ref o), .val (.long i), .second, .val (.int (Int64.toInt32 (XT.ushrL i (6 : Int32)))), .val (.long ((1 : Int64) <<< ((Int32.toInt64 (Int64.toInt32 i)) &&& 63))), .second]) (S' := [.long ((ws.getD q 0) ||| ((1 : Int64) <<< ((Int32.toInt64 (Int64.toInt32 i)) &&& 63))), .int (Int64.toInt32 (XT.ushrL i (6 : Int32))), .ref w]) rfl ?_
    refine wp_lastore C (M4 hw) d4_45 (i := 0) (j := q) rfl hq (by simpa using hl) (v' := .long ((ws.getD q 0) ||| ((1 : Int64) <<< ((Int32.toInt64 (Int64.toInt32 i)) &&& 63)))) rfl (l' := (w, true, .inr (.long, (ws.set q ((ws.getD q 0) ||| ((1 : Int64) <<< ((Int32.toInt64 (Int64.toInt32 i)) &&& 63)))).map Value.long)) :: (o, true, .inl ("com/example/limber_sieve/limbersieve/BitArray", [("com/example/limber_sieve/limbersieve/BitArray", "length", "J", .long len), ("com/example/limber_sieve/limbersieve/BitArray", "words", "[J", .ref w), ("com/example/limber_sieve/limbersieve/BitArray", "setCount", "J", .long c)])) :: l) (by simp) ?_
    refine wp_seg C (M4 hw) [(.aload_n 0, 1), (.dup, 1)] (by decide +kernel) (pc' := 48) (L' := [.val (.ref o), .val (.long i), .second, .val (.int (Int64.toInt32 (XT.ushrL i (6 : Int32)))), .val (.long ((1 : Int64) <<< ((Int32.toInt64 (Int64.toInt32 i)) &&& 63))), .second]) (S' := [.ref o, .ref o]) rfl ?_
    refine wp_getfield C (M4 hw) d4_48 (w36 hw) (Or.inl rfl) (a := o) (mu := true) (Cl := "com/example/limber_sieve/limbersieve/BitArray") (fs := [("com/example/limber_sieve/limbersieve/BitArray", "length", "J", .long len), ("com/example/limber_sieve/limbersieve/BitArray", "words", "[J", .ref w), ("com/example/limber_sieve/limbersieve/BitArray", "setCount", "J", .long c)]) (List.mem_of_getElem? (i := 1) rfl) (List.mem_of_getElem? (i := 2) rfl) ?_
    refine wp_seg C (M4 hw) [(.lconst 1, 1), (.ladd, 1)] (by decide +kernel) (pc' := 53) (L' := [.val (.ref o), .val (.long i), .second, .val (.int (Int64.toInt32 (XT.ushrL i (6 : Int32)))), .val (.long ((1 : Int64) <<< ((Int32.toInt64 (Int64.toInt32 i)) &&& 63))), .second]) (S' := [.long (c + (1 : Int64)), .ref o]) rfl ?_
    refine wp_putfield C (M4 hw) d4_53 (w36 hw) (Or.inl rfl) (i := 1) (j := 2) rfl rfl (Or.inl (w37 hw)) (w9 hw) (ty := .long) (by decide) rfl rfl (l' := (w, true, .inr (.long, (ws.set q ((ws.getD q 0) ||| ((1 : Int64) <<< ((Int32.toInt64 (Int64.toInt32 i)) &&& 63)))).map Value.long)) :: (o, true, .inl ("com/example/limber_sieve/limbersieve/BitArray", [("com/example/limber_sieve/limbersieve/BitArray", "length", "J", .long len), ("com/example/limber_sieve/limbersieve/BitArray", "words", "[J", .ref w), ("com/example/limber_sieve/limbersieve/BitArray", "setCount", "J", .long (c + (1 : Int64)))])) :: l) rfl ?_
    exact wp_vret C (M4 hw) d4_56 Cr (K _)
  · refine wp_ift C (M4 hw) d4_32 (XT.ll_ne_t hz) (pc' := 56) (by decide) ?_
    rw [hone _ hz, set_same hl] at K
    exact wp_vret C (M4 hw) d4_56 Cr (K _)
theorem h_all3l {κ : Cx} (C : Ok κ) (hw : Ws κ) {z : Int64} {o w p : Addr} {mo mw mp : Bool} {fs : List (String × String × String × Value)} {ws : List Int64} {fr0 sh : Int32} {v0 v1 v2 x0 x1 x2 : Int64} {q0 q1 q2 : Nat} (hv0 : XT.ushrL v0 sh = x0) (hv1 : XT.ushrL v1 sh = x1) (hv2 : XT.ushrL v2 sh = x2) (hq0 : Ix (Int64.toInt32 (XT.ushrL x0 6)) q0) (hl0 : q0 < ws.length) (hq1 : Ix (Int64.toInt32 (XT.ushrL x1 6)) q1) (hl1 : q1 < ws.length) (hq2 : Ix (Int64.toInt32 (XT.ushrL x2 6)) q2) (hl2 : q2 < ws.length) {yc : MethodName} {pcc : Nat} {Lc : List Slot} {Sc : List Value} {F : List Frame} {l : List Chunk} {k n : Nat} (Cr : Caller κ yc pcc 3) (mo_ : (o, mo, .inl ("com/example/limber_sieve/limbersieve/BitArray", fs)) ∈ l) (hfs : ("com/example/limber_sieve/limbersieve/BitArray", "words", "[J", Value.ref w) ∈ fs) (mw_ : (w, mw, .inr (.long, ws.map Value.long)) ∈ l) (mp_ : (p, mp, .inr (.long, [.long v0, .long v1, .long v2])) ∈ l) (K : WP κ yc (pcc + 3) Lc (.int (bi (True)) :: Sc) F l k n) :
    WP κ y5 3 [.val (.ref o), .val (.ref p), .val (.int fr0), .val (.int sh), .val (.int 3), .val (.long z), .second] [] (fr κ yc pcc Lc Sc :: F) (l) k n := by
  refine wp_seg C (M5 hw) [(.iload 4, 2), (.aload_n 1, 1)] (by decide +kernel) (pc' := 6) (L' := [.val (.ref o), .val (.ref p), .val (.int fr0), .val (.int sh), .val (.int 3), .val (.long z), .second]) (S' := [.ref p, .int 3]) rfl ?_
  refine wp_arraylength C (M5 hw) d5_6 (a := p) mp_ (z := 3) rfl ?_
  refine wp_ict C (M5 hw) d5_7 (XT.ii_ge_t (by decide)) (pc' := 48) (by decide) ?_
  refine wp_seg C (M5 hw) [(.iconst 1, 1)] (by decide +kernel) (pc' := 49) (L' := [.val (.ref o), .val (.ref p), .val (.int fr0), .val (.int sh), .val (.int 3), .val (.long z), .second]) (S' := [.int 1]) rfl ?_
  rw [bi_t trivial] at K
  exact wp_iret C (M5 hw) d5_49 rfl (t := .boolean) (by decide) rfl Cr K
theorem h_all3u {κ : Cx} (C : Ok κ) (hw : Ws κ) {o w p : Addr} {mo mw mp : Bool} {fs : List (String × String × String × Value)} {ws : List Int64} {fr0 sh : Int32} {v0 v1 v2 x0 x1 x2 : Int64} {q0 q1 q2 : Nat} (hv0 : XT.ushrL v0 sh = x0) (hv1 : XT.ushrL v1 sh = x1) (hv2 : XT.ushrL v2 sh = x2) (hq0 : Ix (Int64.toInt32 (XT.ushrL x0 6)) q0) (hl0 : q0 < ws.length) (hq1 : Ix (Int64.toInt32 (XT.ushrL x1 6)) q1) (hl1 : q1 < ws.length) (hq2 : Ix (Int64.toInt32 (XT.ushrL x2 6)) q2) (hl2 : q2 < ws.length) {yc : MethodName} {pcc : Nat} {Lc : List Slot} {Sc : List Value} {F : List Frame} {l : List Chunk} {k n : Nat} (Cr : Caller κ yc pcc 3) (mo_ : (o, mo, .inl ("com/example/limber_sieve/limbersieve/BitArray", fs)) ∈ l) (hfs : ("com/example/limber_sieve/limbersieve/BitArray", "words", "[J", Value.ref w) ∈ fs) (mw_ : (w, mw, .inr (.long, ws.map Value.long)) ∈ l) (mp_ : (p, mp, .inr (.long, [.long v0, .long v1, .long v2])) ∈ l) (K : WP κ yc (pcc + 3) Lc (.int (bi (True)) :: Sc) F l k n) :
    WP κ y5 3 [.val (.ref o), .val (.ref p), .val (.int fr0), .val (.int sh), .val (.int 3), .unset, .unset] [] (fr κ yc pcc Lc Sc :: F) (l) k n := by
  refine wp_seg C (M5 hw) [(.iload 4, 2), (.aload_n 1, 1)] (by decide +kernel) (pc' := 6) (L' := [.val (.ref o), .val (.ref p), .val (.int fr0), .val (.int sh), .val (.int 3), .unset, .unset]) (S' := [.ref p, .int 3]) rfl ?_
  refine wp_arraylength C (M5 hw) d5_6 (a := p) mp_ (z := 3) rfl ?_
  refine wp_ict C (M5 hw) d5_7 (XT.ii_ge_t (by decide)) (pc' := 48) (by decide) ?_
  refine wp_seg C (M5 hw) [(.iconst 1, 1)] (by decide +kernel) (pc' := 49) (L' := [.val (.ref o), .val (.ref p), .val (.int fr0), .val (.int sh), .val (.int 3), .unset, .unset]) (S' := [.int 1]) rfl ?_
  rw [bi_t trivial] at K
  exact wp_iret C (M5 hw) d5_49 rfl (t := .boolean) (by decide) rfl Cr K
theorem h_all2l {κ : Cx} (C : Ok κ) (hw : Ws κ) {z : Int64} {o w p : Addr} {mo mw mp : Bool} {fs : List (String × String × String × Value)} {ws : List Int64} {fr0 sh : Int32} {v0 v1 v2 x0 x1 x2 : Int64} {q0 q1 q2 : Nat} (hv0 : XT.ushrL v0 sh = x0) (hv1 : XT.ushrL v1 sh = x1) (hv2 : XT.ushrL v2 sh = x2) (hq0 : Ix (Int64.toInt32 (XT.ushrL x0 6)) q0) (hl0 : q0 < ws.length) (hq1 : Ix (Int64.toInt32 (XT.ushrL x1 6)) q1) (hl1 : q1 < ws.length) (hq2 : Ix (Int64.toInt32 (XT.ushrL x2 6)) q2) (hl2 : q2 < ws.length) {yc : MethodName} {pcc : Nat} {Lc : List Slot} {Sc : List Value} {F : List Frame} {l : List Chunk} {k n : Nat} (Cr : Caller κ yc pcc 3) (mo_ : (o, mo, .inl ("com/example/limber_sieve/limbersieve/BitArray", fs)) ∈ l) (hfs : ("com/example/limber_sieve/limbersieve/BitArray", "words", "[J", Value.ref w) ∈ fs) (mw_ : (w, mw, .inr (.long, ws.map Value.long)) ∈ l) (mp_ : (p, mp, .inr (.long, [.long v0, .long v1, .long v2])) ∈ l) (K : WP κ yc (pcc + 3) Lc (.int (bi (¬ (ws.getD q2 0) &&& ((1 : Int64) <<< ((Int32.toInt64 (Int64.toInt32 x2)) &&& 63)) = 0)) :: Sc) F l k n) :
    WP κ y5 3 [.val (.ref o), .val (.ref p), .val (.int fr0), .val (.int sh), .val (.int 2), .val (.long z), .second] [] (fr κ yc pcc Lc Sc :: F) (l) k n := by
  refine wp_seg C (M5 hw) [(.iload 4, 2), (.aload_n 1, 1)] (by decide +kernel) (pc' := 6) (L' := [.val (.ref o), .val (.ref p), .val (.int fr0), .val (.int sh), .val (.int 2), .val (.long z), .second]) (S' := [.ref p, .int 2]) rfl ?_
  refine wp_arraylength C (M5 hw) d5_6 (a := p) mp_ (z := 3) rfl ?_
  refine wp_icf C (M5 hw) d5_7 (XT.ii_ge_f (by decide)) ?_
  refine wp_seg C (M5 hw) [(.aload_n 1, 1), (.iload 4, 2)] (by decide +kernel) (pc' := 13) (L' := [.val (.ref o), .val (.ref p), .val (.int fr0), .val (.int sh), .val (.int 2), .val (.long z), .second]) (S' := [.int 2, .ref p]) rfl ?_
  refine wp_laload C (M5 hw) d5_13 (a := p) mp_ (i := 2) ⟨by decide, by decide⟩ (v := .long v2) rfl ?_
  refine wp_seg C (M5 hw) [(.iload_n 3, 1), (.lushr, 1), (.lstore 5, 2), (.aload_n 0, 1)] (by decide +kernel) (pc' := 19) (L' := [.val (.ref o), .val (.ref p), .val (.int fr0), .val (.int sh), .val (.int 2), .val (.long (XT.ushrL v2 sh)), .second]) (S' := [.ref o]) rfl ?_
  rw [hv2]
  refine wp_getfield C (M5 hw) d5_19 (w21 hw) (Or.inl rfl) mo_ hfs ?_
  refine wp_seg C (M5 hw) [(.lload 5, 2), (.bipush 6, 2), (.lushr, 1), (.l2i, 1)] (by decide +kernel) (pc' := 28) (L' := [.val (.ref o), .val (.ref p), .val (.int fr0), .val (.int sh), .val (.int 2), .val (.long x2), .second]) (S' := [.int (Int64.toInt32 (XT.ushrL x2 (6 : Int32))), .ref w]) rfl ?_
  refine wp_laload C (M5 hw) d5_28 (a := w) mw_ (i := q2) hq2 (v := .long (ws.getD q2 0)) (mapget hl2) ?_
  refine wp_seg C (M5 hw) [(.lconst 1, 1), (.lload 5, 2), (.l2i, 1), (.lshl, 1), (.land, 1), (.lconst 0, 1), (.lcmp, 1)] (by decide +kernel) (pc' := 37) (L' := [.val (.ref o), .val (.ref p), .val (.int fr0), .val (.int sh), .val (.int 2), .val (.long x2), .second]) (S' := [.int (XT.cmpL ((ws.getD q2 0) &&& ((1 : Int64) <<< ((Int32.toInt64 (Int64.toInt32 x2)) &&& 63))) (0 : Int64))]) rfl ?_
  by_cases hz : (ws.getD q2 0) &&& ((1 : Int64) <<< ((Int32.toInt64 (Int64.toInt32 x2)) &&& 63)) = 0
  · refine wp_iff C (M5 hw) d5_37 (XT.ll_ne_f hz) ?_
    refine wp_seg C (M5 hw) [(.iconst 0, 1)] (by decide +kernel) (pc' := 41) (L' := [.val (.ref o), .val (.ref p), .val (.int fr0), .val (.int sh), .val (.int 2), .val (.long x2), .second]) (S' := [.int 0]) rfl ?_
    rw [bi_f (fun q => q hz)] at K
    exact wp_iret C (M5 hw) d5_41 rfl (t := .boolean) (by decide) rfl Cr K
  · refine wp_ift C (M5 hw) d5_37 (XT.ll_ne_t hz) (pc' := 42) (by decide) ?_
    refine wp_seg C (M5 hw) [(.iinc 4 1, 3), (.goto (-42), 3)] (by decide +kernel) (pc' := 3) (L' := [.val (.ref o), .val (.ref p), .val (.int fr0), .val (.int sh), .val (.int 3), .val (.long x2), .second]) (S' := []) rfl ?_
    rw [bi_iff (show (¬ (ws.getD q2 0) &&& ((1 : Int64) <<< ((Int32.toInt64 (Int64.toInt32 x2)) &&& 63)) = 0) ↔ True from ⟨fun _ => trivial, fun _ => hz⟩)] at K
    exact h_all3l C hw hv0 hv1 hv2 hq0 hl0 hq1 hl1 hq2 hl2 Cr mo_ hfs mw_ mp_ K
theorem h_all2u {κ : Cx} (C : Ok κ) (hw : Ws κ) {o w p : Addr} {mo mw mp : Bool} {fs : List (String × String × String × Value)} {ws : List Int64} {fr0 sh : Int32} {v0 v1 v2 x0 x1 x2 : Int64} {q0 q1 q2 : Nat} (hv0 : XT.ushrL v0 sh = x0) (hv1 : XT.ushrL v1 sh = x1) (hv2 : XT.ushrL v2 sh = x2) (hq0 : Ix (Int64.toInt32 (XT.ushrL x0 6)) q0) (hl0 : q0 < ws.length) (hq1 : Ix (Int64.toInt32 (XT.ushrL x1 6)) q1) (hl1 : q1 < ws.length) (hq2 : Ix (Int64.toInt32 (XT.ushrL x2 6)) q2) (hl2 : q2 < ws.length) {yc : MethodName} {pcc : Nat} {Lc : List Slot} {Sc : List Value} {F : List Frame} {l : List Chunk} {k n : Nat} (Cr : Caller κ yc pcc 3) (mo_ : (o, mo, .inl ("com/example/limber_sieve/limbersieve/BitArray", fs)) ∈ l) (hfs : ("com/example/limber_sieve/limbersieve/BitArray", "words", "[J", Value.ref w) ∈ fs) (mw_ : (w, mw, .inr (.long, ws.map Value.long)) ∈ l) (mp_ : (p, mp, .inr (.long, [.long v0, .long v1, .long v2])) ∈ l) (K : WP κ yc (pcc + 3) Lc (.int (bi (¬ (ws.getD q2 0) &&& ((1 : Int64) <<< ((Int32.toInt64 (Int64.toInt32 x2)) &&& 63)) = 0)) :: Sc) F l k n) :
    WP κ y5 3 [.val (.ref o), .val (.ref p), .val (.int fr0), .val (.int sh), .val (.int 2), .unset, .unset] [] (fr κ yc pcc Lc Sc :: F) (l) k n := by
  refine wp_seg C (M5 hw) [(.iload 4, 2), (.aload_n 1, 1)] (by decide +kernel) (pc' := 6) (L' := [.val (.ref o), .val (.ref p), .val (.int fr0), .val (.int sh), .val (.int 2), .unset, .unset]) (S' := [.ref p, .int 2]) rfl ?_
  refine wp_arraylength C (M5 hw) d5_6 (a := p) mp_ (z := 3) rfl ?_
  refine wp_icf C (M5 hw) d5_7 (XT.ii_ge_f (by decide)) ?_
  refine wp_seg C (M5 hw) [(.aload_n 1, 1), (.iload 4, 2)] (by decide +kernel) (pc' := 13) (L' := [.val (.ref o), .val (.ref p), .val (.int fr0), .val (.int sh), .val (.int 2), .unset, .unset]) (S' := [.int 2, .ref p]) rfl ?_
  refine wp_laload C (M5 hw) d5_13 (a := p) mp_ (i := 2) ⟨by decide, by decide⟩ (v := .long v2) rfl ?_
  refine wp_seg C (M5 hw) [(.iload_n 3, 1), (.lushr, 1), (.lstore 5, 2), (.aload_n 0, 1)] (by decide +kernel) (pc' := 19) (L' := [.val (.ref o), .val (.ref p), .val (.int fr0), .val (.int sh), .val (.int 2), .val (.long (XT.ushrL v2 sh)), .second]) (S' := [.ref o]) rfl ?_
  rw [hv2]
  refine wp_getfield C (M5 hw) d5_19 (w21 hw) (Or.inl rfl) mo_ hfs ?_
  refine wp_seg C (M5 hw) [(.lload 5, 2), (.bipush 6, 2), (.lushr, 1), (.l2i, 1)] (by decide +kernel) (pc' := 28) (L' := [.val (.ref o), .val (.ref p), .val (.int fr0), .val (.int sh), .val (.int 2), .val (.long x2), .second]) (S' := [.int (Int64.toInt32 (XT.ushrL x2 (6 : Int32))), .ref w]) rfl ?_
  refine wp_laload C (M5 hw) d5_28 (a := w) mw_ (i := q2) hq2 (v := .long (ws.getD q2 0)) (mapget hl2) ?_
  refine wp_seg C (M5 hw) [(.lconst 1, 1), (.lload 5, 2), (.l2i, 1), (.lshl, 1), (.land, 1), (.lconst 0, 1), (.lcmp, 1)] (by decide +kernel) (pc' := 37) (L' := [.val (.ref o), .val (.ref p), .val (.int fr0), .val (.int sh), .val (.int 2), .val (.long x2), .second]) (S' := [.int (XT.cmpL ((ws.getD q2 0) &&& ((1 : Int64) <<< ((Int32.toInt64 (Int64.toInt32 x2)) &&& 63))) (0 : Int64))]) rfl ?_
  by_cases hz : (ws.getD q2 0) &&& ((1 : Int64) <<< ((Int32.toInt64 (Int64.toInt32 x2)) &&& 63)) = 0
  · refine wp_iff C (M5 hw) d5_37 (XT.ll_ne_f hz) ?_
    refine wp_seg C (M5 hw) [(.iconst 0, 1)] (by decide +kernel) (pc' := 41) (L' := [.val (.ref o), .val (.ref p), .val (.int fr0), .val (.int sh), .val (.int 2), .val (.long x2), .second]) (S' := [.int 0]) rfl ?_
    rw [bi_f (fun q => q hz)] at K
    exact wp_iret C (M5 hw) d5_41 rfl (t := .boolean) (by decide) rfl Cr K
  · refine wp_ift C (M5 hw) d5_37 (XT.ll_ne_t hz) (pc' := 42) (by decide) ?_
    refine wp_seg C (M5 hw) [(.iinc 4 1, 3), (.goto (-42), 3)] (by decide +kernel) (pc' := 3) (L' := [.val (.ref o), .val (.ref p), .val (.int fr0), .val (.int sh), .val (.int 3), .val (.long x2), .second]) (S' := []) rfl ?_
    rw [bi_iff (show (¬ (ws.getD q2 0) &&& ((1 : Int64) <<< ((Int32.toInt64 (Int64.toInt32 x2)) &&& 63)) = 0) ↔ True from ⟨fun _ => trivial, fun _ => hz⟩)] at K
    exact h_all3l C hw hv0 hv1 hv2 hq0 hl0 hq1 hl1 hq2 hl2 Cr mo_ hfs mw_ mp_ K
theorem h_all1l {κ : Cx} (C : Ok κ) (hw : Ws κ) {z : Int64} {o w p : Addr} {mo mw mp : Bool} {fs : List (String × String × String × Value)} {ws : List Int64} {fr0 sh : Int32} {v0 v1 v2 x0 x1 x2 : Int64} {q0 q1 q2 : Nat} (hv0 : XT.ushrL v0 sh = x0) (hv1 : XT.ushrL v1 sh = x1) (hv2 : XT.ushrL v2 sh = x2) (hq0 : Ix (Int64.toInt32 (XT.ushrL x0 6)) q0) (hl0 : q0 < ws.length) (hq1 : Ix (Int64.toInt32 (XT.ushrL x1 6)) q1) (hl1 : q1 < ws.length) (hq2 : Ix (Int64.toInt32 (XT.ushrL x2 6)) q2) (hl2 : q2 < ws.length) {yc : MethodName} {pcc : Nat} {Lc : List Slot} {Sc : List Value} {F : List Frame} {l : List Chunk} {k n : Nat} (Cr : Caller κ yc pcc 3) (mo_ : (o, mo, .inl ("com/example/limber_sieve/limbersieve/BitArray", fs)) ∈ l) (hfs : ("com/example/limber_sieve/limbersieve/BitArray", "words", "[J", Value.ref w) ∈ fs) (mw_ : (w, mw, .inr (.long, ws.map Value.long)) ∈ l) (mp_ : (p, mp, .inr (.long, [.long v0, .long v1, .long v2])) ∈ l) (K : WP κ yc (pcc + 3) Lc (.int (bi ((¬ (ws.getD q1 0) &&& ((1 : Int64) <<< ((Int32.toInt64 (Int64.toInt32 x1)) &&& 63)) = 0) ∧ ¬ (ws.getD q2 0) &&& ((1 : Int64) <<< ((Int32.toInt64 (Int64.toInt32 x2)) &&& 63)) = 0)) :: Sc) F l k n) :
    WP κ y5 3 [.val (.ref o), .val (.ref p), .val (.int fr0), .val (.int sh), .val (.int 1), .val (.long z), .second] [] (fr κ yc pcc Lc Sc :: F) (l) k n := by
  refine wp_seg C (M5 hw) [(.iload 4, 2), (.aload_n 1, 1)] (by decide +kernel) (pc' := 6) (L' := [.val (.ref o), .val (.ref p), .val (.int fr0), .val (.int sh), .val (.int 1), .val (.long z), .second]) (S' := [.ref p, .int 1]) rfl ?_
  refine wp_arraylength C (M5 hw) d5_6 (a := p) mp_ (z := 3) rfl ?_
  refine wp_icf C (M5 hw) d5_7 (XT.ii_ge_f (by decide)) ?_
  refine wp_seg C (M5 hw) [(.aload_n 1, 1), (.iload 4, 2)] (by decide +kernel) (pc' := 13) (L' := [.val (.ref o), .val (.ref p), .val (.int fr0), .val (.int sh), .val (.int 1), .val (.long z), .second]) (S' := [.int 1, .ref p]) rfl ?_
  refine wp_laload C (M5 hw) d5_13 (a := p) mp_ (i := 1) ⟨by decide, by decide⟩ (v := .long v1) rfl ?_
  refine wp_seg C (M5 hw) [(.iload_n 3, 1), (.lushr, 1), (.lstore 5, 2), (.aload_n 0, 1)] (by decide +kernel) (pc' := 19) (L' := [.val (.ref o), .val (.ref p), .val (.int fr0), .val (.int sh), .val (.int 1), .val (.long (XT.ushrL v1 sh)), .second]) (S' := [.ref o]) rfl ?_
  rw [hv1]
  refine wp_getfield C (M5 hw) d5_19 (w21 hw) (Or.inl rfl) mo_ hfs ?_
  refine wp_seg C (M5 hw) [(.lload 5, 2), (.bipush 6, 2), (.lushr, 1), (.l2i, 1)] (by decide +kernel) (pc' := 28) (L' := [.val (.ref o), .val (.ref p), .val (.int fr0), .val (.int sh), .val (.int 1), .val (.long x1), .second]) (S' := [.int (Int64.toInt32 (XT.ushrL x1 (6 : Int32))), .ref w]) rfl ?_
  refine wp_laload C (M5 hw) d5_28 (a := w) mw_ (i := q1) hq1 (v := .long (ws.getD q1 0)) (mapget hl1) ?_
  refine wp_seg C (M5 hw) [(.lconst 1, 1), (.lload 5, 2), (.l2i, 1), (.lshl, 1), (.land, 1), (.lconst 0, 1), (.lcmp, 1)] (by decide +kernel) (pc' := 37) (L' := [.val (.ref o), .val (.ref p), .val (.int fr0), .val (.int sh), .val (.int 1), .val (.long x1), .second]) (S' := [.int (XT.cmpL ((ws.getD q1 0) &&& ((1 : Int64) <<< ((Int32.toInt64 (Int64.toInt32 x1)) &&& 63))) (0 : Int64))]) rfl ?_
  by_cases hz : (ws.getD q1 0) &&& ((1 : Int64) <<< ((Int32.toInt64 (Int64.toInt32 x1)) &&& 63)) = 0
  · refine wp_iff C (M5 hw) d5_37 (XT.ll_ne_f hz) ?_
    refine wp_seg C (M5 hw) [(.iconst 0, 1)] (by decide +kernel) (pc' := 41) (L' := [.val (.ref o), .val (.ref p), .val (.int fr0), .val (.int sh), .val (.int 1), .val (.long x1), .second]) (S' := [.int 0]) rfl ?_
    rw [bi_f (fun q => q.1 hz)] at K
    exact wp_iret C (M5 hw) d5_41 rfl (t := .boolean) (by decide) rfl Cr K
  · refine wp_ift C (M5 hw) d5_37 (XT.ll_ne_t hz) (pc' := 42) (by decide) ?_
    refine wp_seg C (M5 hw) [(.iinc 4 1, 3), (.goto (-42), 3)] (by decide +kernel) (pc' := 3) (L' := [.val (.ref o), .val (.ref p), .val (.int fr0), .val (.int sh), .val (.int 2), .val (.long x1), .second]) (S' := []) rfl ?_
    rw [bi_iff (show ((¬ (ws.getD q1 0) &&& ((1 : Int64) <<< ((Int32.toInt64 (Int64.toInt32 x1)) &&& 63)) = 0) ∧ ¬ (ws.getD q2 0) &&& ((1 : Int64) <<< ((Int32.toInt64 (Int64.toInt32 x2)) &&& 63)) = 0) ↔ ¬ (ws.getD q2 0) &&& ((1 : Int64) <<< ((Int32.toInt64 (Int64.toInt32 x2)) &&& 63)) = 0 from ⟨fun q => q.2, fun q => ⟨hz, q⟩⟩)] at K
    exact h_all2l C hw hv0 hv1 hv2 hq0 hl0 hq1 hl1 hq2 hl2 Cr mo_ hfs mw_ mp_ K
theorem h_all1u {κ : Cx} (C : Ok κ) (hw : Ws κ) {o w p : Addr} {mo mw mp : Bool} {fs : List (String × String × String × Value)} {ws : List Int64} {fr0 sh : Int32} {v0 v1 v2 x0 x1 x2 : Int64} {q0 q1 q2 : Nat} (hv0 : XT.ushrL v0 sh = x0) (hv1 : XT.ushrL v1 sh = x1) (hv2 : XT.ushrL v2 sh = x2) (hq0 : Ix (Int64.toInt32 (XT.ushrL x0 6)) q0) (hl0 : q0 < ws.length) (hq1 : Ix (Int64.toInt32 (XT.ushrL x1 6)) q1) (hl1 : q1 < ws.length) (hq2 : Ix (Int64.toInt32 (XT.ushrL x2 6)) q2) (hl2 : q2 < ws.length) {yc : MethodName} {pcc : Nat} {Lc : List Slot} {Sc : List Value} {F : List Frame} {l : List Chunk} {k n : Nat} (Cr : Caller κ yc pcc 3) (mo_ : (o, mo, .inl ("com/example/limber_sieve/limbersieve/BitArray", fs)) ∈ l) (hfs : ("com/example/limber_sieve/limbersieve/BitArray", "words", "[J", Value.ref w) ∈ fs) (mw_ : (w, mw, .inr (.long, ws.map Value.long)) ∈ l) (mp_ : (p, mp, .inr (.long, [.long v0, .long v1, .long v2])) ∈ l) (K : WP κ yc (pcc + 3) Lc (.int (bi ((¬ (ws.getD q1 0) &&& ((1 : Int64) <<< ((Int32.toInt64 (Int64.toInt32 x1)) &&& 63)) = 0) ∧ ¬ (ws.getD q2 0) &&& ((1 : Int64) <<< ((Int32.toInt64 (Int64.toInt32 x2)) &&& 63)) = 0)) :: Sc) F l k n) :
    WP κ y5 3 [.val (.ref o), .val (.ref p), .val (.int fr0), .val (.int sh), .val (.int 1), .unset, .unset] [] (fr κ yc pcc Lc Sc :: F) (l) k n := by
  refine wp_seg C (M5 hw) [(.iload 4, 2), (.aload_n 1, 1)] (by decide +kernel) (pc' := 6) (L' := [.val (.ref o), .val (.ref p), .val (.int fr0), .val (.int sh), .val (.int 1), .unset, .unset]) (S' := [.ref p, .int 1]) rfl ?_
  refine wp_arraylength C (M5 hw) d5_6 (a := p) mp_ (z := 3) rfl ?_
  refine wp_icf C (M5 hw) d5_7 (XT.ii_ge_f (by decide)) ?_
  refine wp_seg C (M5 hw) [(.aload_n 1, 1), (.iload 4, 2)] (by decide +kernel) (pc' := 13) (L' := [.val (.ref o), .val (.ref p), .val (.int fr0), .val (.int sh), .val (.int 1), .unset, .unset]) (S' := [.int 1, .ref p]) rfl ?_
  refine wp_laload C (M5 hw) d5_13 (a := p) mp_ (i := 1) ⟨by decide, by decide⟩ (v := .long v1) rfl ?_
  refine wp_seg C (M5 hw) [(.iload_n 3, 1), (.lushr, 1), (.lstore 5, 2), (.aload_n 0, 1)] (by decide +kernel) (pc' := 19) (L' := [.val (.ref o), .val (.ref p), .val (.int fr0), .val (.int sh), .val (.int 1), .val (.long (XT.ushrL v1 sh)), .second]) (S' := [.ref o]) rfl ?_
  rw [hv1]
  refine wp_getfield C (M5 hw) d5_19 (w21 hw) (Or.inl rfl) mo_ hfs ?_
  refine wp_seg C (M5 hw) [(.lload 5, 2), (.bipush 6, 2), (.lushr, 1), (.l2i, 1)] (by decide +kernel) (pc' := 28) (L' := [.val (.ref o), .val (.ref p), .val (.int fr0), .val (.int sh), .val (.int 1), .val (.long x1), .second]) (S' := [.int (Int64.toInt32 (XT.ushrL x1 (6 : Int32))), .ref w]) rfl ?_
  refine wp_laload C (M5 hw) d5_28 (a := w) mw_ (i := q1) hq1 (v := .long (ws.getD q1 0)) (mapget hl1) ?_
  refine wp_seg C (M5 hw) [(.lconst 1, 1), (.lload 5, 2), (.l2i, 1), (.lshl, 1), (.land, 1), (.lconst 0, 1), (.lcmp, 1)] (by decide +kernel) (pc' := 37) (L' := [.val (.ref o), .val (.ref p), .val (.int fr0), .val (.int sh), .val (.int 1), .val (.long x1), .second]) (S' := [.int (XT.cmpL ((ws.getD q1 0) &&& ((1 : Int64) <<< ((Int32.toInt64 (Int64.toInt32 x1)) &&& 63))) (0 : Int64))]) rfl ?_
  by_cases hz : (ws.getD q1 0) &&& ((1 : Int64) <<< ((Int32.toInt64 (Int64.toInt32 x1)) &&& 63)) = 0
  · refine wp_iff C (M5 hw) d5_37 (XT.ll_ne_f hz) ?_
    refine wp_seg C (M5 hw) [(.iconst 0, 1)] (by decide +kernel) (pc' := 41) (L' := [.val (.ref o), .val (.ref p), .val (.int fr0), .val (.int sh), .val (.int 1), .val (.long x1), .second]) (S' := [.int 0]) rfl ?_
    rw [bi_f (fun q => q.1 hz)] at K
    exact wp_iret C (M5 hw) d5_41 rfl (t := .boolean) (by decide) rfl Cr K
  · refine wp_ift C (M5 hw) d5_37 (XT.ll_ne_t hz) (pc' := 42) (by decide) ?_
    refine wp_seg C (M5 hw) [(.iinc 4 1, 3), (.goto (-42), 3)] (by decide +kernel) (pc' := 3) (L' := [.val (.ref o), .val (.ref p), .val (.int fr0), .val (.int sh), .val (.int 2), .val (.long x1), .second]) (S' := []) rfl ?_
    rw [bi_iff (show ((¬ (ws.getD q1 0) &&& ((1 : Int64) <<< ((Int32.toInt64 (Int64.toInt32 x1)) &&& 63)) = 0) ∧ ¬ (ws.getD q2 0) &&& ((1 : Int64) <<< ((Int32.toInt64 (Int64.toInt32 x2)) &&& 63)) = 0) ↔ ¬ (ws.getD q2 0) &&& ((1 : Int64) <<< ((Int32.toInt64 (Int64.toInt32 x2)) &&& 63)) = 0 from ⟨fun q => q.2, fun q => ⟨hz, q⟩⟩)] at K
    exact h_all2l C hw hv0 hv1 hv2 hq0 hl0 hq1 hl1 hq2 hl2 Cr mo_ hfs mw_ mp_ K
theorem h_all0u {κ : Cx} (C : Ok κ) (hw : Ws κ) {o w p : Addr} {mo mw mp : Bool} {fs : List (String × String × String × Value)} {ws : List Int64} {fr0 sh : Int32} {v0 v1 v2 x0 x1 x2 : Int64} {q0 q1 q2 : Nat} (hv0 : XT.ushrL v0 sh = x0) (hv1 : XT.ushrL v1 sh = x1) (hv2 : XT.ushrL v2 sh = x2) (hq0 : Ix (Int64.toInt32 (XT.ushrL x0 6)) q0) (hl0 : q0 < ws.length) (hq1 : Ix (Int64.toInt32 (XT.ushrL x1 6)) q1) (hl1 : q1 < ws.length) (hq2 : Ix (Int64.toInt32 (XT.ushrL x2 6)) q2) (hl2 : q2 < ws.length) {yc : MethodName} {pcc : Nat} {Lc : List Slot} {Sc : List Value} {F : List Frame} {l : List Chunk} {k n : Nat} (Cr : Caller κ yc pcc 3) (mo_ : (o, mo, .inl ("com/example/limber_sieve/limbersieve/BitArray", fs)) ∈ l) (hfs : ("com/example/limber_sieve/limbersieve/BitArray", "words", "[J", Value.ref w) ∈ fs) (mw_ : (w, mw, .inr (.long, ws.map Value.long)) ∈ l) (mp_ : (p, mp, .inr (.long, [.long v0, .long v1, .long v2])) ∈ l) (K : WP κ yc (pcc + 3) Lc (.int (bi ((¬ (ws.getD q0 0) &&& ((1 : Int64) <<< ((Int32.toInt64 (Int64.toInt32 x0)) &&& 63)) = 0) ∧ (¬ (ws.getD q1 0) &&& ((1 : Int64) <<< ((Int32.toInt64 (Int64.toInt32 x1)) &&& 63)) = 0) ∧ ¬ (ws.getD q2 0) &&& ((1 : Int64) <<< ((Int32.toInt64 (Int64.toInt32 x2)) &&& 63)) = 0)) :: Sc) F l k n) :
    WP κ y5 3 [.val (.ref o), .val (.ref p), .val (.int fr0), .val (.int sh), .val (.int 0), .unset, .unset] [] (fr κ yc pcc Lc Sc :: F) (l) k n := by
  refine wp_seg C (M5 hw) [(.iload 4, 2), (.aload_n 1, 1)] (by decide +kernel) (pc' := 6) (L' := [.val (.ref o), .val (.ref p), .val (.int fr0), .val (.int sh), .val (.int 0), .unset, .unset]) (S' := [.ref p, .int 0]) rfl ?_
  refine wp_arraylength C (M5 hw) d5_6 (a := p) mp_ (z := 3) rfl ?_
  refine wp_icf C (M5 hw) d5_7 (XT.ii_ge_f (by decide)) ?_
  refine wp_seg C (M5 hw) [(.aload_n 1, 1), (.iload 4, 2)] (by decide +kernel) (pc' := 13) (L' := [.val (.ref o), .val (.ref p), .val (.int fr0), .val (.int sh), .val (.int 0), .unset, .unset]) (S' := [.int 0, .ref p]) rfl ?_
  refine wp_laload C (M5 hw) d5_13 (a := p) mp_ (i := 0) ⟨by decide, by decide⟩ (v := .long v0) rfl ?_
  refine wp_seg C (M5 hw) [(.iload_n 3, 1), (.lushr, 1), (.lstore 5, 2), (.aload_n 0, 1)] (by decide +kernel) (pc' := 19) (L' := [.val (.ref o), .val (.ref p), .val (.int fr0), .val (.int sh), .val (.int 0), .val (.long (XT.ushrL v0 sh)), .second]) (S' := [.ref o]) rfl ?_
  rw [hv0]
  refine wp_getfield C (M5 hw) d5_19 (w21 hw) (Or.inl rfl) mo_ hfs ?_
  refine wp_seg C (M5 hw) [(.lload 5, 2), (.bipush 6, 2), (.lushr, 1), (.l2i, 1)] (by decide +kernel) (pc' := 28) (L' := [.val (.ref o), .val (.ref p), .val (.int fr0), .val (.int sh), .val (.int 0), .val (.long x0), .second]) (S' := [.int (Int64.toInt32 (XT.ushrL x0 (6 : Int32))), .ref w]) rfl ?_
  refine wp_laload C (M5 hw) d5_28 (a := w) mw_ (i := q0) hq0 (v := .long (ws.getD q0 0)) (mapget hl0) ?_
  refine wp_seg C (M5 hw) [(.lconst 1, 1), (.lload 5, 2), (.l2i, 1), (.lshl, 1), (.land, 1), (.lconst 0, 1), (.lcmp, 1)] (by decide +kernel) (pc' := 37) (L' := [.val (.ref o), .val (.ref p), .val (.int fr0), .val (.int sh), .val (.int 0), .val (.long x0), .second]) (S' := [.int (XT.cmpL ((ws.getD q0 0) &&& ((1 : Int64) <<< ((Int32.toInt64 (Int64.toInt32 x0)) &&& 63))) (0 : Int64))]) rfl ?_
  by_cases hz : (ws.getD q0 0) &&& ((1 : Int64) <<< ((Int32.toInt64 (Int64.toInt32 x0)) &&& 63)) = 0
  · refine wp_iff C (M5 hw) d5_37 (XT.ll_ne_f hz) ?_
    refine wp_seg C (M5 hw) [(.iconst 0, 1)] (by decide +kernel) (pc' := 41) (L' := [.val (.ref o), .val (.ref p), .val (.int fr0), .val (.int sh), .val (.int 0), .val (.long x0), .second]) (S' := [.int 0]) rfl ?_
    rw [bi_f (fun q => q.1 hz)] at K
    exact wp_iret C (M5 hw) d5_41 rfl (t := .boolean) (by decide) rfl Cr K
  · refine wp_ift C (M5 hw) d5_37 (XT.ll_ne_t hz) (pc' := 42) (by decide) ?_
    refine wp_seg C (M5 hw) [(.iinc 4 1, 3), (.goto (-42), 3)] (by decide +kernel) (pc' := 3) (L' := [.val (.ref o), .val (.ref p), .val (.int fr0), .val (.int sh), .val (.int 1), .val (.long x0), .second]) (S' := []) rfl ?_
    rw [bi_iff (show ((¬ (ws.getD q0 0) &&& ((1 : Int64) <<< ((Int32.toInt64 (Int64.toInt32 x0)) &&& 63)) = 0) ∧ (¬ (ws.getD q1 0) &&& ((1 : Int64) <<< ((Int32.toInt64 (Int64.toInt32 x1)) &&& 63)) = 0) ∧ ¬ (ws.getD q2 0) &&& ((1 : Int64) <<< ((Int32.toInt64 (Int64.toInt32 x2)) &&& 63)) = 0) ↔ (¬ (ws.getD q1 0) &&& ((1 : Int64) <<< ((Int32.toInt64 (Int64.toInt32 x1)) &&& 63)) = 0) ∧ ¬ (ws.getD q2 0) &&& ((1 : Int64) <<< ((Int32.toInt64 (Int64.toInt32 x2)) &&& 63)) = 0 from ⟨fun q => q.2, fun q => ⟨hz, q⟩⟩)] at K
    exact h_all1l C hw hv0 hv1 hv2 hq0 hl0 hq1 hl1 hq2 hl2 Cr mo_ hfs mw_ mp_ K
theorem c_all3 {κ : Cx} (C : Ok κ) (hw : Ws κ) {o w p : Addr} {mo mw mp : Bool} {fs : List (String × String × String × Value)} {ws : List Int64} {sh : Int32} {v0 v1 v2 x0 x1 x2 : Int64} {q0 q1 q2 : Nat} (hv0 : XT.ushrL v0 sh = x0) (hv1 : XT.ushrL v1 sh = x1) (hv2 : XT.ushrL v2 sh = x2) (hq0 : Ix (Int64.toInt32 (XT.ushrL x0 6)) q0) (hl0 : q0 < ws.length) (hq1 : Ix (Int64.toInt32 (XT.ushrL x1 6)) q1) (hl1 : q1 < ws.length) (hq2 : Ix (Int64.toInt32 (XT.ushrL x2 6)) q2) (hl2 : q2 < ws.length) {yc : MethodName} {pcc : Nat} {Lc : List Slot} {Sc : List Value} {F : List Frame} {l : List Chunk} {k n : Nat} (Cr : Caller κ yc pcc 3) (mo_ : (o, mo, .inl ("com/example/limber_sieve/limbersieve/BitArray", fs)) ∈ l) (hfs : ("com/example/limber_sieve/limbersieve/BitArray", "words", "[J", Value.ref w) ∈ fs) (mw_ : (w, mw, .inr (.long, ws.map Value.long)) ∈ l) (mp_ : (p, mp, .inr (.long, [.long v0, .long v1, .long v2])) ∈ l) (K : WP κ yc (pcc + 3) Lc (.int (bi (True)) :: Sc) F l k n) :
    WP κ y5 0 [.val (.ref o), .val (.ref p), .val (.int 3), .val (.int sh), .unset, .unset, .unset] [] (fr κ yc pcc Lc Sc :: F) (l) k n := by
  refine wp_seg C (M5 hw) [(.iload_n 2, 1), (.istore 4, 2)] (by decide +kernel) (pc' := 3) (L' := [.val (.ref o), .val (.ref p), .val (.int 3), .val (.int sh), .val (.int 3), .unset, .unset]) (S' := []) rfl ?_
  exact h_all3u C hw hv0 hv1 hv2 hq0 hl0 hq1 hl1 hq2 hl2 Cr mo_ hfs mw_ mp_ K
theorem c_all2 {κ : Cx} (C : Ok κ) (hw : Ws κ) {o w p : Addr} {mo mw mp : Bool} {fs : List (String × String × String × Value)} {ws : List Int64} {sh : Int32} {v0 v1 v2 x0 x1 x2 : Int64} {q0 q1 q2 : Nat} (hv0 : XT.ushrL v0 sh = x0) (hv1 : XT.ushrL v1 sh = x1) (hv2 : XT.ushrL v2 sh = x2) (hq0 : Ix (Int64.toInt32 (XT.ushrL x0 6)) q0) (hl0 : q0 < ws.length) (hq1 : Ix (Int64.toInt32 (XT.ushrL x1 6)) q1) (hl1 : q1 < ws.length) (hq2 : Ix (Int64.toInt32 (XT.ushrL x2 6)) q2) (hl2 : q2 < ws.length) {yc : MethodName} {pcc : Nat} {Lc : List Slot} {Sc : List Value} {F : List Frame} {l : List Chunk} {k n : Nat} (Cr : Caller κ yc pcc 3) (mo_ : (o, mo, .inl ("com/example/limber_sieve/limbersieve/BitArray", fs)) ∈ l) (hfs : ("com/example/limber_sieve/limbersieve/BitArray", "words", "[J", Value.ref w) ∈ fs) (mw_ : (w, mw, .inr (.long, ws.map Value.long)) ∈ l) (mp_ : (p, mp, .inr (.long, [.long v0, .long v1, .long v2])) ∈ l) (K : WP κ yc (pcc + 3) Lc (.int (bi (¬ (ws.getD q2 0) &&& ((1 : Int64) <<< ((Int32.toInt64 (Int64.toInt32 x2)) &&& 63)) = 0)) :: Sc) F l k n) :
    WP κ y5 0 [.val (.ref o), .val (.ref p), .val (.int 2), .val (.int sh), .unset, .unset, .unset] [] (fr κ yc pcc Lc Sc :: F) (l) k n := by
  refine wp_seg C (M5 hw) [(.iload_n 2, 1), (.istore 4, 2)] (by decide +kernel) (pc' := 3) (L' := [.val (.ref o), .val (.ref p), .val (.int 2), .val (.int sh), .val (.int 2), .unset, .unset]) (S' := []) rfl ?_
  exact h_all2u C hw hv0 hv1 hv2 hq0 hl0 hq1 hl1 hq2 hl2 Cr mo_ hfs mw_ mp_ K
theorem c_all1 {κ : Cx} (C : Ok κ) (hw : Ws κ) {o w p : Addr} {mo mw mp : Bool} {fs : List (String × String × String × Value)} {ws : List Int64} {sh : Int32} {v0 v1 v2 x0 x1 x2 : Int64} {q0 q1 q2 : Nat} (hv0 : XT.ushrL v0 sh = x0) (hv1 : XT.ushrL v1 sh = x1) (hv2 : XT.ushrL v2 sh = x2) (hq0 : Ix (Int64.toInt32 (XT.ushrL x0 6)) q0) (hl0 : q0 < ws.length) (hq1 : Ix (Int64.toInt32 (XT.ushrL x1 6)) q1) (hl1 : q1 < ws.length) (hq2 : Ix (Int64.toInt32 (XT.ushrL x2 6)) q2) (hl2 : q2 < ws.length) {yc : MethodName} {pcc : Nat} {Lc : List Slot} {Sc : List Value} {F : List Frame} {l : List Chunk} {k n : Nat} (Cr : Caller κ yc pcc 3) (mo_ : (o, mo, .inl ("com/example/limber_sieve/limbersieve/BitArray", fs)) ∈ l) (hfs : ("com/example/limber_sieve/limbersieve/BitArray", "words", "[J", Value.ref w) ∈ fs) (mw_ : (w, mw, .inr (.long, ws.map Value.long)) ∈ l) (mp_ : (p, mp, .inr (.long, [.long v0, .long v1, .long v2])) ∈ l) (K : WP κ yc (pcc + 3) Lc (.int (bi ((¬ (ws.getD q1 0) &&& ((1 : Int64) <<< ((Int32.toInt64 (Int64.toInt32 x1)) &&& 63)) = 0) ∧ ¬ (ws.getD q2 0) &&& ((1 : Int64) <<< ((Int32.toInt64 (Int64.toInt32 x2)) &&& 63)) = 0)) :: Sc) F l k n) :
    WP κ y5 0 [.val (.ref o), .val (.ref p), .val (.int 1), .val (.int sh), .unset, .unset, .unset] [] (fr κ yc pcc Lc Sc :: F) (l) k n := by
  refine wp_seg C (M5 hw) [(.iload_n 2, 1), (.istore 4, 2)] (by decide +kernel) (pc' := 3) (L' := [.val (.ref o), .val (.ref p), .val (.int 1), .val (.int sh), .val (.int 1), .unset, .unset]) (S' := []) rfl ?_
  exact h_all1u C hw hv0 hv1 hv2 hq0 hl0 hq1 hl1 hq2 hl2 Cr mo_ hfs mw_ mp_ K
theorem c_all0 {κ : Cx} (C : Ok κ) (hw : Ws κ) {o w p : Addr} {mo mw mp : Bool} {fs : List (String × String × String × Value)} {ws : List Int64} {sh : Int32} {v0 v1 v2 x0 x1 x2 : Int64} {q0 q1 q2 : Nat} (hv0 : XT.ushrL v0 sh = x0) (hv1 : XT.ushrL v1 sh = x1) (hv2 : XT.ushrL v2 sh = x2) (hq0 : Ix (Int64.toInt32 (XT.ushrL x0 6)) q0) (hl0 : q0 < ws.length) (hq1 : Ix (Int64.toInt32 (XT.ushrL x1 6)) q1) (hl1 : q1 < ws.length) (hq2 : Ix (Int64.toInt32 (XT.ushrL x2 6)) q2) (hl2 : q2 < ws.length) {yc : MethodName} {pcc : Nat} {Lc : List Slot} {Sc : List Value} {F : List Frame} {l : List Chunk} {k n : Nat} (Cr : Caller κ yc pcc 3) (mo_ : (o, mo, .inl ("com/example/limber_sieve/limbersieve/BitArray", fs)) ∈ l) (hfs : ("com/example/limber_sieve/limbersieve/BitArray", "words", "[J", Value.ref w) ∈ fs) (mw_ : (w, mw, .inr (.long, ws.map Value.long)) ∈ l) (mp_ : (p, mp, .inr (.long, [.long v0, .long v1, .long v2])) ∈ l) (K : WP κ yc (pcc + 3) Lc (.int (bi ((¬ (ws.getD q0 0) &&& ((1 : Int64) <<< ((Int32.toInt64 (Int64.toInt32 x0)) &&& 63)) = 0) ∧ (¬ (ws.getD q1 0) &&& ((1 : Int64) <<< ((Int32.toInt64 (Int64.toInt32 x1)) &&& 63)) = 0) ∧ ¬ (ws.getD q2 0) &&& ((1 : Int64) <<< ((Int32.toInt64 (Int64.toInt32 x2)) &&& 63)) = 0)) :: Sc) F l k n) :
    WP κ y5 0 [.val (.ref o), .val (.ref p), .val (.int 0), .val (.int sh), .unset, .unset, .unset] [] (fr κ yc pcc Lc Sc :: F) (l) k n := by
  refine wp_seg C (M5 hw) [(.iload_n 2, 1), (.istore 4, 2)] (by decide +kernel) (pc' := 3) (L' := [.val (.ref o), .val (.ref p), .val (.int 0), .val (.int sh), .val (.int 0), .unset, .unset]) (S' := []) rfl ?_
  exact h_all0u C hw hv0 hv1 hv2 hq0 hl0 hq1 hl1 hq2 hl2 Cr mo_ hfs mw_ mp_ K
set_option maxRecDepth 65536 in
set_option maxHeartbeats 4000000 in
theorem law_wp {κ : Cx} (C : Ok κ) (hw : Ws κ) (hr : kR κ = room_1) (hx : kx κ = maxLocals) (a c s : Int32) (g : Int64) (f : Int32) :
    WP κ y0 0 [.val (.int a), .val (.int c), .val (.int s), .val (.long g), .second, .val (.int f), .unset, .unset, .unset, .unset, .unset, .unset, .unset, .unset, .unset, .unset, .unset, .unset, .unset, .unset, .unset, .unset, .unset, .unset, .unset, .unset] [] [] [] 0 0 := by
  refine wp_seg C (M0 hw) [(.iconst 1, 1), (.iload_n 0, 1), (.sipush 255, 3), (.iand, 1), (.iadd, 1), (.i2l, 1)] (by decide +kernel) (pc' := 8) (L' := [.val (.int a), .val (.int c), .val (.int s), .val (.long g), .second, .val (.int f), .unset, .unset, .unset, .unset, .unset, .unset, .unset, .unset, .unset, .unset, .unset, .unset, .unset, .unset, .unset, .unset, .unset, .unset, .unset, .unset]) (S' := [.long (Int32.toInt64 ((1 : Int32) + (a &&& (255 : Int32))))]) rfl ?_
  obtain ⟨N, hN1, hN2, hN⟩ := len_spec a
  rw [hN]
  have hN0 : Int64.ofNat N ≠ 0 := fun q => by have := (ofNat64_inj (b := 0) (by omega) (by omega)).mp q; omega
  refine wp_seg C (M0 hw) [(.lstore 6, 2), (.iload_n 0, 1), (.bipush 8, 2), (.iushr, 1), (.sipush 255, 3), (.iand, 1), (.i2l, 1), (.lload 6, 2)] (by decide +kernel) (pc' := 21) (L' := [.val (.int a), .val (.int c), .val (.int s), .val (.long g), .second, .val (.int f), .val (.long (Int64.ofNat N)), .second, .unset, .unset, .unset, .unset, .unset, .unset, .unset, .unset, .unset, .unset, .unset, .unset, .unset, .unset, .unset, .unset, .unset, .unset]) (S' := [.long (Int64.ofNat N), .long (Int32.toInt64 ((XT.ushr a (8 : Int32)) &&& (255 : Int32)))]) rfl ?_
  refine wp_lrem C (M0 hw) d0_21 hN0 ?_
  obtain ⟨j0, hj0, ej0⟩ := rem_spec (XT.ushr a 8) hN1 hN2
  rw [ej0]
  refine wp_seg C (M0 hw) [(.lstore 8, 2), (.iload_n 0, 1), (.bipush 16, 2), (.iushr, 1), (.sipush 255, 3), (.iand, 1), (.i2l, 1), (.lload 6, 2)] (by decide +kernel) (pc' := 35) (L' := [.val (.int a), .val (.int c), .val (.int s), .val (.long g), .second, .val (.int f), .val (.long (Int64.ofNat N)), .second, .val (.long (Int64.ofNat j0)), .second, .unset, .unset, .unset, .unset, .unset, .unset, .unset, .unset, .unset, .unset, .unset, .unset, .unset, .unset, .unset, .unset]) (S' := [.long (Int64.ofNat N), .long (Int32.toInt64 ((XT.ushr a (16 : Int32)) &&& (255 : Int32)))]) rfl ?_
  refine wp_lrem C (M0 hw) d0_35 hN0 ?_
  obtain ⟨j1, hj1, ej1⟩ := rem_spec (XT.ushr a 16) hN1 hN2
  rw [ej1]
  refine wp_seg C (M0 hw) [(.lstore 10, 2), (.iload_n 0, 1), (.bipush 24, 2), (.iushr, 1), (.iconst 1, 1), (.iand, 1)] (by decide +kernel) (pc' := 44) (L' := [.val (.int a), .val (.int c), .val (.int s), .val (.long g), .second, .val (.int f), .val (.long (Int64.ofNat N)), .second, .val (.long (Int64.ofNat j0)), .second, .val (.long (Int64.ofNat j1)), .second, .unset, .unset, .unset, .unset, .unset, .unset, .unset, .unset, .unset, .unset, .unset, .unset, .unset, .unset]) (S' := [.int ((XT.ushr a (24 : Int32)) &&& (1 : Int32))]) rfl ?_
  have J1 : ∀ sb : Int32, WP κ y0 52 [.val (.int a), .val (.int c), .val (.int s), .val (.long g), .second, .val (.int f), .val (.long (Int64.ofNat N)), .second, .val (.long (Int64.ofNat j0)), .second, .val (.long (Int64.ofNat j1)), .second, .unset, .unset, .unset, .unset, .unset, .unset, .unset, .unset, .unset, .unset, .unset, .unset, .unset, .unset] [.int sb] [] [] 0 0 := by
    intro sb
    refine wp_seg C (M0 hw) [(.istore 12, 2), (.iload_n 2, 1)] (by decide +kernel) (pc' := 55) (L' := [.val (.int a), .val (.int c), .val (.int s), .val (.long g), .second, .val (.int f), .val (.long (Int64.ofNat N)), .second, .val (.long (Int64.ofNat j0)), .second, .val (.long (Int64.ofNat j1)), .second, .val (.int sb), .unset, .unset, .unset, .unset, .unset, .unset, .unset, .unset, .unset, .unset, .unset, .unset, .unset]) (S' := [.int s]) rfl ?_
    refine wp_ldcI C (M0 hw) d0_55 (w1 hw) ?_
    refine wp_seg C (M0 hw) [(.iand, 1), (.bipush 57, 2)] (by decide +kernel) (pc' := 60) (L' := [.val (.int a), .val (.int c), .val (.int s), .val (.long g), .second, .val (.int f), .val (.long (Int64.ofNat N)), .second, .val (.long (Int64.ofNat j0)), .second, .val (.long (Int64.ofNat j1)), .second, .val (.int sb), .unset, .unset, .unset, .unset, .unset, .unset, .unset, .unset, .unset, .unset, .unset, .unset, .unset]) (S' := [.int 57, .int (s &&& (2147483647 : Int32))]) rfl ?_
    refine wp_irem C (M0 hw) d0_60 (by decide) ?_
    obtain ⟨q, hq, eq⟩ := shift_spec s
    rw [eq]
    refine wp_seg C (M0 hw) [(.istore 13, 2), (.iload 5, 2), (.iconst 3, 1), (.iand, 1)] (by decide +kernel) (pc' := 67) (L' := [.val (.int a), .val (.int c), .val (.int s), .val (.long g), .second, .val (.int f), .val (.long (Int64.ofNat N)), .second, .val (.long (Int64.ofNat j0)), .second, .val (.long (Int64.ofNat j1)), .second, .val (.int sb), .val (.int (Int32.ofNat q)), .unset, .unset, .unset, .unset, .unset, .unset, .unset, .unset, .unset, .unset, .unset, .unset]) (S' := [.int (f &&& (3 : Int32))]) rfl ?_
    generalize hfr : (f &&& (3 : Int32)) = fv
    refine wp_seg C (M0 hw) [(.istore 14, 2), (.lconst 1, 1), (.iload 13, 2), (.lshl, 1), (.lconst 1, 1), (.lsub, 1), (.lstore 15, 2), (.iload_n 1, 1), (.sipush 1023, 3), (.iand, 1), (.lload 8, 2), (.lload 10, 2), (.lload 6, 2)] (by decide +kernel) (pc' := 88) (L' := [.val (.int a), .val (.int c), .val (.int s), .val (.long g), .second, .val (.int f), .val (.long (Int64.ofNat N)), .second, .val (.long (Int64.ofNat j0)), .second, .val (.long (Int64.ofNat j1)), .second, .val (.int sb), .val (.int (Int32.ofNat q)), .val (.int fv), .val (.long (((1 : Int64) <<< ((Int32.toInt64 (Int32.ofNat q)) &&& 63)) - (1 : Int64))), .second, .unset, .unset, .unset, .unset, .unset, .unset, .unset, .unset, .unset]) (S' := [.long (Int64.ofNat N), .long (Int64.ofNat j1), .long (Int64.ofNat j0), .int (c &&& (1023 : Int32))]) rfl ?_
    refine wp_invokestatic C (M0 hw) d0_88 (M1 hw) (w2 hw) (w3 hw) (w4 hw) (by decide) (S' := []) [.int (c &&& (1023 : Int32)), .long (Int64.ofNat j0), .long (Int64.ofNat j1), .long (Int64.ofNat N)] (lenOf pd1 rfl) rfl (L' := [.val (.int (c &&& (1023 : Int32))), .val (.long (Int64.ofNat j0)), .second, .val (.long (Int64.ofNat j1)), .second, .val (.long (Int64.ofNat N)), .second, .unset]) rfl rfl (Rm.law (d := 1) (w := 19) hr hx (Nat.le_of_ble_eq_true rfl) (Nat.le_of_ble_eq_true rfl)) ?_
    refine c_pick C hw hN0 (Meth.caller (M0 hw) d0_88) ?_
    obtain ⟨t0, ht0, et0⟩ := pk_spec (c &&& (1023 : Int32)) hN1 hN2 hj0 hj1
    rw [et0]
    refine wp_seg C (M0 hw) [(.lstore 17, 2), (.iload_n 1, 1), (.bipush 10, 2), (.iushr, 1), (.sipush 1023, 3), (.iand, 1), (.lload 8, 2), (.lload 10, 2), (.lload 6, 2)] (by decide +kernel) (pc' := 107) (L' := [.val (.int a), .val (.int c), .val (.int s), .val (.long g), .second, .val (.int f), .val (.long (Int64.ofNat N)), .second, .val (.long (Int64.ofNat j0)), .second, .val (.long (Int64.ofNat j1)), .second, .val (.int sb), .val (.int (Int32.ofNat q)), .val (.int fv), .val (.long (((1 : Int64) <<< ((Int32.toInt64 (Int32.ofNat q)) &&& 63)) - (1 : Int64))), .second, .val (.long (Int64.ofNat t0)), .second, .unset, .unset, .unset, .unset, .unset, .unset, .unset]) (S' := [.long (Int64.ofNat N), .long (Int64.ofNat j1), .long (Int64.ofNat j0), .int ((XT.ushr c (10 : Int32)) &&& (1023 : Int32))]) rfl ?_
    refine wp_invokestatic C (M0 hw) d0_107 (M1 hw) (w2 hw) (w3 hw) (w4 hw) (by decide) (S' := []) [.int ((XT.ushr c (10 : Int32)) &&& (1023 : Int32)), .long (Int64.ofNat j0), .long (Int64.ofNat j1), .long (Int64.ofNat N)] (lenOf pd1 rfl) rfl (L' := [.val (.int ((XT.ushr c (10 : Int32)) &&& (1023 : Int32))), .val (.long (Int64.ofNat j0)), .second, .val (.long (Int64.ofNat j1)), .second, .val (.long (Int64.ofNat N)), .second, .unset]) rfl rfl (Rm.law (d := 1) (w := 19) hr hx (Nat.le_of_ble_eq_true rfl) (Nat.le_of_ble_eq_true rfl)) ?_
    refine c_pick C hw hN0 (Meth.caller (M0 hw) d0_107) ?_
    obtain ⟨t1, ht1, et1⟩ := pk_spec ((XT.ushr c (10 : Int32)) &&& (1023 : Int32)) hN1 hN2 hj0 hj1
    rw [et1]
    refine wp_seg C (M0 hw) [(.lstore 19, 2), (.iload_n 1, 1), (.bipush 20, 2), (.iushr, 1), (.sipush 1023, 3), (.iand, 1), (.lload 8, 2), (.lload 10, 2), (.lload 6, 2)] (by decide +kernel) (pc' := 126) (L' := [.val (.int a), .val (.int c), .val (.int s), .val (.long g), .second, .val (.int f), .val (.long (Int64.ofNat N)), .second, .val (.long (Int64.ofNat j0)), .second, .val (.long (Int64.ofNat j1)), .second, .val (.int sb), .val (.int (Int32.ofNat q)), .val (.int fv), .val (.long (((1 : Int64) <<< ((Int32.toInt64 (Int32.ofNat q)) &&& 63)) - (1 : Int64))), .second, .val (.long (Int64.ofNat t0)), .second, .val (.long (Int64.ofNat t1)), .second, .unset, .unset, .unset, .unset, .unset]) (S' := [.long (Int64.ofNat N), .long (Int64.ofNat j1), .long (Int64.ofNat j0), .int ((XT.ushr c (20 : Int32)) &&& (1023 : Int32))]) rfl ?_
    refine wp_invokestatic C (M0 hw) d0_126 (M1 hw) (w2 hw) (w3 hw) (w4 hw) (by decide) (S' := []) [.int ((XT.ushr c (20 : Int32)) &&& (1023 : Int32)), .long (Int64.ofNat j0), .long (Int64.ofNat j1), .long (Int64.ofNat N)] (lenOf pd1 rfl) rfl (L' := [.val (.int ((XT.ushr c (20 : Int32)) &&& (1023 : Int32))), .val (.long (Int64.ofNat j0)), .second, .val (.long (Int64.ofNat j1)), .second, .val (.long (Int64.ofNat N)), .second, .unset]) rfl rfl (Rm.law (d := 1) (w := 19) hr hx (Nat.le_of_ble_eq_true rfl) (Nat.le_of_ble_eq_true rfl)) ?_
    refine c_pick C hw hN0 (Meth.caller (M0 hw) d0_126) ?_
    obtain ⟨t2, ht2, et2⟩ := pk_spec ((XT.ushr c (20 : Int32)) &&& (1023 : Int32)) hN1 hN2 hj0 hj1
    rw [et2]
    refine wp_seg C (M0 hw) [(.lstore 21, 2), (.iconst 3, 1)] (by decide +kernel) (pc' := 132) (L' := [.val (.int a), .val (.int c), .val (.int s), .val (.long g), .second, .val (.int f), .val (.long (Int64.ofNat N)), .second, .val (.long (Int64.ofNat j0)), .second, .val (.long (Int64.ofNat j1)), .second, .val (.int sb), .val (.int (Int32.ofNat q)), .val (.int fv), .val (.long (((1 : Int64) <<< ((Int32.toInt64 (Int32.ofNat q)) &&& 63)) - (1 : Int64))), .second, .val (.long (Int64.ofNat t0)), .second, .val (.long (Int64.ofNat t1)), .second, .val (.long (Int64.ofNat t2)), .second, .unset, .unset, .unset]) (S' := [.int 3]) rfl ?_
    refine wp_newarray C (M0 hw) d0_132 rfl (w6 hw) (len := 3) ⟨by decide, by decide⟩ (by decide) (rc hr (Nat.le_of_ble_eq_true rfl)) (rs hr (Nat.le_of_ble_eq_true rfl)) (vs := [.long 0, .long 0, .long 0]) rfl fun a1 => ?_
    refine wp_seg C (M0 hw) [(.astore 23, 2), (.aload 23, 2), (.iconst 0, 1), (.lload 17, 2), (.iload 13, 2), (.lshl, 1), (.lload_n 3, 1), (.lload 15, 2), (.land, 1), (.lor, 1)] (by decide +kernel) (pc' := 149) (L' := [.val (.int a), .val (.int c), .val (.int s), .val (.long g), .second, .val (.int f), .val (.long (Int64.ofNat N)), .second, .val (.long (Int64.ofNat j0)), .second, .val (.long (Int64.ofNat j1)), .second, .val (.int sb), .val (.int (Int32.ofNat q)), .val (.int fv), .val (.long (((1 : Int64) <<< ((Int32.toInt64 (Int32.ofNat q)) &&& 63)) - (1 : Int64))), .second, .val (.long (Int64.ofNat t0)), .second, .val (.long (Int64.ofNat t1)), .second, .val (.long (Int64.ofNat t2)), .second, .val (.ref a1), .unset, .unset]) (S' := [.long (((Int64.ofNat t0) <<< ((Int32.toInt64 (Int32.ofNat q)) &&& 63)) ||| (g &&& (((1 : Int64) <<< ((Int32.toInt64 (Int32.ofNat q)) &&& 63)) - (1 : Int64)))), .int 0, .ref a1]) rfl ?_
    obtain ⟨v0, hv0⟩ : ∃ v, v = (((Int64.ofNat t0) <<< ((Int32.toInt64 (Int32.ofNat q)) &&& 63)) ||| (g &&& (((1 : Int64) <<< ((Int32.toInt64 (Int32.ofNat q)) &&& 63)) - (1 : Int64)))) := ⟨_, rfl⟩
    rw [← hv0]
    have ev0 : XT.ushrL v0 (Int32.ofNat q) = Int64.ofNat t0 := by rw [hv0]; exact dec_spec (by omega) hq _
    refine wp_lastore C (M0 hw) d0_149 (i := 0) (j := 0) rfl ⟨by decide, by decide⟩ (Nat.le_of_ble_eq_true rfl) (v' := .long v0) rfl (l' := [(a1, true, .inr (.long, [.long v0, .long 0, .long 0]))]) rfl ?_
    refine wp_seg C (M0 hw) [(.aload 23, 2), (.iconst 1, 1), (.lload 19, 2), (.iload 13, 2), (.lshl, 1), (.lload_n 3, 1)] (by decide +kernel) (pc' := 159) (L' := [.val (.int a), .val (.int c), .val (.int s), .val (.long g), .second, .val (.int f), .val (.long (Int64.ofNat N)), .second, .val (.long (Int64.ofNat j0)), .second, .val (.long (Int64.ofNat j1)), .second, .val (.int sb), .val (.int (Int32.ofNat q)), .val (.int fv), .val (.long (((1 : Int64) <<< ((Int32.toInt64 (Int32.ofNat q)) &&& 63)) - (1 : Int64))), .second, .val (.long (Int64.ofNat t0)), .second, .val (.long (Int64.ofNat t1)), .second, .val (.long (Int64.ofNat t2)), .second, .val (.ref a1), .unset, .unset]) (S' := [.long g, .long ((Int64.ofNat t1) <<< ((Int32.toInt64 (Int32.ofNat q)) &&& 63)), .int 1, .ref a1]) rfl ?_
    refine wp_ldc2 C (M0 hw) d0_159 (w7 hw) ?_
    refine wp_seg C (M0 hw) [(.lxor, 1), (.lload 15, 2), (.land, 1), (.lor, 1)] (by decide +kernel) (pc' := 167) (L' := [.val (.int a), .val (.int c), .val (.int s), .val (.long g), .second, .val (.int f), .val (.long (Int64.ofNat N)), .second, .val (.long (Int64.ofNat j0)), .second, .val (.long (Int64.ofNat j1)), .second, .val (.int sb), .val (.int (Int32.ofNat q)), .val (.int fv), .val (.long (((1 : Int64) <<< ((Int32.toInt64 (Int32.ofNat q)) &&& 63)) - (1 : Int64))), .second, .val (.long (Int64.ofNat t0)), .second, .val (.long (Int64.ofNat t1)), .second, .val (.long (Int64.ofNat t2)), .second, .val (.ref a1), .unset, .unset]) (S' := [.long (((Int64.ofNat t1) <<< ((Int32.toInt64 (Int32.ofNat q)) &&& 63)) ||| ((g ^^^ (-1 : Int64)) &&& (((1 : Int64) <<< ((Int32.toInt64 (Int32.ofNat q)) &&& 63)) - (1 : Int64)))), .int 1, .ref a1]) rfl ?_
    obtain ⟨v1, hv1⟩ : ∃ v, v = (((Int64.ofNat t1) <<< ((Int32.toInt64 (Int32.ofNat q)) &&& 63)) ||| ((g ^^^ (-1 : Int64)) &&& (((1 : Int64) <<< ((Int32.toInt64 (Int32.ofNat q)) &&& 63)) - (1 : Int64)))) := ⟨_, rfl⟩
    rw [← hv1]
    have ev1 : XT.ushrL v1 (Int32.ofNat q) = Int64.ofNat t1 := by rw [hv1]; exact dec_spec (by omega) hq _
    refine wp_lastore C (M0 hw) d0_167 (i := 0) (j := 1) rfl ⟨by decide, by decide⟩ (Nat.le_of_ble_eq_true rfl) (v' := .long v1) rfl (l' := [(a1, true, .inr (.long, [.long v0, .long v1, .long 0]))]) rfl ?_
    refine wp_seg C (M0 hw) [(.aload 23, 2), (.iconst 2, 1), (.lload 21, 2), (.iload 13, 2), (.lshl, 1), (.lload_n 3, 1), (.iconst 1, 1), (.lushr, 1), (.lload 15, 2), (.land, 1), (.lor, 1)] (by decide +kernel) (pc' := 183) (L' := [.val (.int a), .val (.int c), .val (.int s), .val (.long g), .second, .val (.int f), .val (.long (Int64.ofNat N)), .second, .val (.long (Int64.ofNat j0)), .second, .val (.long (Int64.ofNat j1)), .second, .val (.int sb), .val (.int (Int32.ofNat q)), .val (.int fv), .val (.long (((1 : Int64) <<< ((Int32.toInt64 (Int32.ofNat q)) &&& 63)) - (1 : Int64))), .second, .val (.long (Int64.ofNat t0)), .second, .val (.long (Int64.ofNat t1)), .second, .val (.long (Int64.ofNat t2)), .second, .val (.ref a1), .unset, .unset]) (S' := [.long (((Int64.ofNat t2) <<< ((Int32.toInt64 (Int32.ofNat q)) &&& 63)) ||| ((XT.ushrL g (1 : Int32)) &&& (((1 : Int64) <<< ((Int32.toInt64 (Int32.ofNat q)) &&& 63)) - (1 : Int64)))), .int 2, .ref a1]) rfl ?_
    obtain ⟨v2, hv2⟩ : ∃ v, v = (((Int64.ofNat t2) <<< ((Int32.toInt64 (Int32.ofNat q)) &&& 63)) ||| ((XT.ushrL g (1 : Int32)) &&& (((1 : Int64) <<< ((Int32.toInt64 (Int32.ofNat q)) &&& 63)) - (1 : Int64)))) := ⟨_, rfl⟩
    rw [← hv2]
    have ev2 : XT.ushrL v2 (Int32.ofNat q) = Int64.ofNat t2 := by rw [hv2]; exact dec_spec (by omega) hq _
    refine wp_lastore C (M0 hw) d0_183 (i := 0) (j := 2) rfl ⟨by decide, by decide⟩ (Nat.le_of_ble_eq_true rfl) (v' := .long v2) rfl (l' := [(a1, true, .inr (.long, [.long v0, .long v1, .long v2]))]) rfl ?_
    refine wp_new C (M0 hw) d0_184 (w8 hw) (w9 hw) (w10 hw) (cls_BA hw) (rc hr (Nat.le_of_ble_eq_true rfl)) (rs hr (Nat.le_of_ble_eq_true rfl)) fun a2 => ?_
    refine wp_seg C (M0 hw) [(.dup, 1), (.lload 6, 2)] (by decide +kernel) (pc' := 190) (L' := [.val (.int a), .val (.int c), .val (.int s), .val (.long g), .second, .val (.int f), .val (.long (Int64.ofNat N)), .second, .val (.long (Int64.ofNat j0)), .second, .val (.long (Int64.ofNat j1)), .second, .val (.int sb), .val (.int (Int32.ofNat q)), .val (.int fv), .val (.long (((1 : Int64) <<< ((Int32.toInt64 (Int32.ofNat q)) &&& 63)) - (1 : Int64))), .second, .val (.long (Int64.ofNat t0)), .second, .val (.long (Int64.ofNat t1)), .second, .val (.long (Int64.ofNat t2)), .second, .val (.ref a1), .unset, .unset]) (S' := [.long (Int64.ofNat N), .ref a2, .ref a2]) rfl ?_
    refine wp_init C (M0 hw) d0_190 (M3 hw) rfl (w11 hw) (w12 hw) (by decide) (S' := [.ref a2]) a2 [.long (Int64.ofNat N)] (lenOf pd3 rfl) rfl (L' := [.val (.ref a2), .val (.long (Int64.ofNat N)), .second]) rfl rfl (Rm.law (d := 1) (w := 14) hr hx (Nat.le_of_ble_eq_true rfl) (Nat.le_of_ble_eq_true rfl)) ?_
    refine c_init C hw (m := (N + 63) / 64) (fun q => by rw [Int64.lt_iff_toInt_lt, toInt_ofNat64 (by omega)] at q; have q2 : (137438952896 : Int) < N := q; omega) (m_spec hN1 hN2) (by omega) (Meth.caller (M0 hw) d0_190) (Rm.law (d := 2) (w := 26) hr hx (Nat.le_of_ble_eq_true rfl) (Nat.le_of_ble_eq_true rfl)) (rc hr (Nat.le_of_ble_eq_true rfl)) (rs hr (by show 0 + 3 + 3 + (N + 63) / 64 ≤ 128; omega)) fun w => ?_
    rw [show List.replicate ((N + 63) / 64) (Value.long 0) = (List.replicate ((N + 63) / 64) 0).map Value.long from by simp]
    have s0 := says_none hN2
    generalize List.replicate ((N + 63) / 64) (0 : Int64) = ws0 at s0
    refine wp_seg C (M0 hw) [(.astore 24, 2), (.aload 24, 2), (.lload 8, 2)] (by decide +kernel) (pc' := 199) (L' := [.val (.int a), .val (.int c), .val (.int s), .val (.long g), .second, .val (.int f), .val (.long (Int64.ofNat N)), .second, .val (.long (Int64.ofNat j0)), .second, .val (.long (Int64.ofNat j1)), .second, .val (.int sb), .val (.int (Int32.ofNat q)), .val (.int fv), .val (.long (((1 : Int64) <<< ((Int32.toInt64 (Int32.ofNat q)) &&& 63)) - (1 : Int64))), .second, .val (.long (Int64.ofNat t0)), .second, .val (.long (Int64.ofNat t1)), .second, .val (.long (Int64.ofNat t2)), .second, .val (.ref a1), .val (.ref a2), .unset]) (S' := [.long (Int64.ofNat j0), .ref a2]) rfl ?_
    refine wp_invokevirtual C (M0 hw) d0_199 (M4 hw) (Cl := "com/example/limber_sieve/limbersieve/BitArray") (w23 hw) (w24 hw) (w26 hw) (w25 hw) (Or.inl ⟨_, (w26 hw)⟩) (by decide) (b := a2) (List.mem_of_getElem? (i := 1) rfl) (S' := []) [.long (Int64.ofNat j0)] (lenOf pd4 rfl) rfl (L' := [.val (.ref a2), .val (.long (Int64.ofNat j0)), .second, .unset, .unset, .unset]) rfl rfl (Rm.law (d := 1) (w := 17) hr hx (Nat.le_of_ble_eq_true rfl) (Nat.le_of_ble_eq_true rfl)) ?_
    refine c_set C hw (fun q => by rw [Int64.lt_iff_toInt_lt, toInt_ofNat64 (by omega)] at q; have q2 : (j0 : Int) < 0 := q; omega) (by rw [Int64.lt_iff_toInt_lt, toInt_ofNat64 (by omega), toInt_ofNat64 (by omega)]; omega) (ix_spec (by omega)) (by rw [s0.1]; omega) (one_spec (by omega)) (Meth.caller (M0 hw) d0_199) (Rm.law (d := 3) (w := 50) hr hx (Nat.le_of_ble_eq_true rfl) (Nat.le_of_ble_eq_true rfl)) fun c1 => ?_
    have s1 := says_set hN2 hj0 s0
    generalize ws0.set (j0 / 64) (ws0.getD (j0 / 64) 0 ||| ((1 : Int64) <<< ((Int32.toInt64 (Int64.toInt32 (Int64.ofNat j0))) &&& 63))) = ws1 at s1
    refine wp_seg C (M0 hw) [(.iload 12, 2)] (by decide +kernel) (pc' := 204) (L' := [.val (.int a), .val (.int c), .val (.int s), .val (.long g), .second, .val (.int f), .val (.long (Int64.ofNat N)), .second, .val (.long (Int64.ofNat j0)), .second, .val (.long (Int64.ofNat j1)), .second, .val (.int sb), .val (.int (Int32.ofNat q)), .val (.int fv), .val (.long (((1 : Int64) <<< ((Int32.toInt64 (Int32.ofNat q)) &&& 63)) - (1 : Int64))), .second, .val (.long (Int64.ofNat t0)), .second, .val (.long (Int64.ofNat t1)), .second, .val (.long (Int64.ofNat t2)), .second, .val (.ref a1), .val (.ref a2), .unset]) (S' := [.int sb]) rfl ?_
    have J2 : ∀ (ws : List Int64) (cn : Int64), Says ws N (fun t => (Int64.ofNat t = Int64.ofNat j0 ∨ (¬ sb = 0 ∧ Int64.ofNat t = Int64.ofNat j1))) → WP κ y0 214 [.val (.int a), .val (.int c), .val (.int s), .val (.long g), .second, .val (.int f), .val (.long (Int64.ofNat N)), .second, .val (.long (Int64.ofNat j0)), .second, .val (.long (Int64.ofNat j1)), .second, .val (.int sb), .val (.int (Int32.ofNat q)), .val (.int fv), .val (.long (((1 : Int64) <<< ((Int32.toInt64 (Int32.ofNat q)) &&& 63)) - (1 : Int64))), .second, .val (.long (Int64.ofNat t0)), .second, .val (.long (Int64.ofNat t1)), .second, .val (.long (Int64.ofNat t2)), .second, .val (.ref a1), .val (.ref a2), .unset] [] [] [(w, true, .inr (.long, ws.map Value.long)), (a2, true, .inl ("com/example/limber_sieve/limbersieve/BitArray", [("com/example/limber_sieve/limbersieve/BitArray", "length", "J", .long (Int64.ofNat N)), ("com/example/limber_sieve/limbersieve/BitArray", "words", "[J", .ref w), ("com/example/limber_sieve/limbersieve/BitArray", "setCount", "J", .long cn)])), (a1, true, .inr (.long, [.long v0, .long v1, .long v2]))] 3 (0 + 3 + 3 + (N + 63) / 64) := by
      intro ws cn sp
      have sp0 := sp.2 t0 ht0
      have sp1 := sp.2 t1 ht1
      have sp2 := sp.2 t2 ht2
      have lq0 : t0 / 64 < ws.length := by rw [sp.1]; omega
      have lq1 : t1 / 64 < ws.length := by rw [sp.1]; omega
      have lq2 : t2 / 64 < ws.length := by rw [sp.1]; omega
      rcases and3 f with hf | hf | hf | hf <;> rw [hfr] at hf <;> subst hf
      · refine wp_seg C (M0 hw) [(.iload 14, 2)] (by decide +kernel) (pc' := 216) (L' := [.val (.int a), .val (.int c), .val (.int s), .val (.long g), .second, .val (.int f), .val (.long (Int64.ofNat N)), .second, .val (.long (Int64.ofNat j0)), .second, .val (.long (Int64.ofNat j1)), .second, .val (.int sb), .val (.int (Int32.ofNat q)), .val (.int 0), .val (.long (((1 : Int64) <<< ((Int32.toInt64 (Int32.ofNat q)) &&& 63)) - (1 : Int64))), .second, .val (.long (Int64.ofNat t0)), .second, .val (.long (Int64.ofNat t1)), .second, .val (.long (Int64.ofNat t2)), .second, .val (.ref a1), .val (.ref a2), .unset]) (S' := [.int 0]) rfl ?_
        refine wp_iff C (M0 hw) d0_216 (XT.i0_gt_f (by decide)) ?_
        refine wp_seg C (M0 hw) [(.lload 17, 2), (.lload 8, 2), (.lload 10, 2), (.iload 12, 2)] (by decide +kernel) (pc' := 227) (L' := [.val (.int a), .val (.int c), .val (.int s), .val (.long g), .second, .val (.int f), .val (.long (Int64.ofNat N)), .second, .val (.long (Int64.ofNat j0)), .second, .val (.long (Int64.ofNat j1)), .second, .val (.int sb), .val (.int (Int32.ofNat q)), .val (.int 0), .val (.long (((1 : Int64) <<< ((Int32.toInt64 (Int32.ofNat q)) &&& 63)) - (1 : Int64))), .second, .val (.long (Int64.ofNat t0)), .second, .val (.long (Int64.ofNat t1)), .second, .val (.long (Int64.ofNat t2)), .second, .val (.ref a1), .val (.ref a2), .unset]) (S' := [.int sb, .long (Int64.ofNat j1), .long (Int64.ofNat j0), .long (Int64.ofNat t0)]) rfl ?_
        refine wp_invokestatic C (M0 hw) d0_227 (M2 hw) (w38 hw) (w39 hw) (w4 hw) (by decide) (S' := []) [.long (Int64.ofNat t0), .long (Int64.ofNat j0), .long (Int64.ofNat j1), .int sb] (lenOf pd2 rfl) rfl (L' := [.val (.long (Int64.ofNat t0)), .second, .val (.long (Int64.ofNat j0)), .second, .val (.long (Int64.ofNat j1)), .second, .val (.int sb)]) rfl rfl (Rm.law (d := 1) (w := 18) hr hx (Nat.le_of_ble_eq_true rfl) (Nat.le_of_ble_eq_true rfl)) ?_
        refine c_hit C hw (Meth.caller (M0 hw) d0_227) ?_
        by_cases h0 : Int64.ofNat t0 = Int64.ofNat j0 ∨ ¬sb = 0 ∧ Int64.ofNat t0 = Int64.ofNat j1
        · rw [bi_t h0]
          refine wp_iff C (M0 hw) d0_230 (XT.i0_eq_f (by decide)) ?_
          refine wp_seg C (M0 hw) [(.iload 14, 2), (.iconst 1, 1)] (by decide +kernel) (pc' := 236) (L' := [.val (.int a), .val (.int c), .val (.int s), .val (.long g), .second, .val (.int f), .val (.long (Int64.ofNat N)), .second, .val (.long (Int64.ofNat j0)), .second, .val (.long (Int64.ofNat j1)), .second, .val (.int sb), .val (.int (Int32.ofNat q)), .val (.int 0), .val (.long (((1 : Int64) <<< ((Int32.toInt64 (Int32.ofNat q)) &&& 63)) - (1 : Int64))), .second, .val (.long (Int64.ofNat t0)), .second, .val (.long (Int64.ofNat t1)), .second, .val (.long (Int64.ofNat t2)), .second, .val (.ref a1), .val (.ref a2), .unset]) (S' := [.int 1, .int 0]) rfl ?_
          refine wp_icf C (M0 hw) d0_236 (XT.ii_gt_f (by decide)) ?_
          refine wp_seg C (M0 hw) [(.lload 19, 2), (.lload 8, 2), (.lload 10, 2), (.iload 12, 2)] (by decide +kernel) (pc' := 247) (L' := [.val (.int a), .val (.int c), .val (.int s), .val (.long g), .second, .val (.int f), .val (.long (Int64.ofNat N)), .second, .val (.long (Int64.ofNat j0)), .second, .val (.long (Int64.ofNat j1)), .second, .val (.int sb), .val (.int (Int32.ofNat q)), .val (.int 0), .val (.long (((1 : Int64) <<< ((Int32.toInt64 (Int32.ofNat q)) &&& 63)) - (1 : Int64))), .second, .val (.long (Int64.ofNat t0)), .second, .val (.long (Int64.ofNat t1)), .second, .val (.long (Int64.ofNat t2)), .second, .val (.ref a1), .val (.ref a2), .unset]) (S' := [.int sb, .long (Int64.ofNat j1), .long (Int64.ofNat j0), .long (Int64.ofNat t1)]) rfl ?_
          refine wp_invokestatic C (M0 hw) d0_247 (M2 hw) (w38 hw) (w39 hw) (w4 hw) (by decide) (S' := []) [.long (Int64.ofNat t1), .long (Int64.ofNat j0), .long (Int64.ofNat j1), .int sb] (lenOf pd2 rfl) rfl (L' := [.val (.long (Int64.ofNat t1)), .second, .val (.long (Int64.ofNat j0)), .second, .val (.long (Int64.ofNat j1)), .second, .val (.int sb)]) rfl rfl (Rm.law (d := 1) (w := 18) hr hx (Nat.le_of_ble_eq_true rfl) (Nat.le_of_ble_eq_true rfl)) ?_
          refine c_hit C hw (Meth.caller (M0 hw) d0_247) ?_
          by_cases h1 : Int64.ofNat t1 = Int64.ofNat j0 ∨ ¬sb = 0 ∧ Int64.ofNat t1 = Int64.ofNat j1
          · rw [bi_t h1]
            refine wp_iff C (M0 hw) d0_250 (XT.i0_eq_f (by decide)) ?_
            refine wp_seg C (M0 hw) [(.iload 14, 2), (.iconst 2, 1)] (by decide +kernel) (pc' := 256) (L' := [.val (.int a), .val (.int c), .val (.int s), .val (.long g), .second, .val (.int f), .val (.long (Int64.ofNat N)), .second, .val (.long (Int64.ofNat j0)), .second, .val (.long (Int64.ofNat j1)), .second, .val (.int sb), .val (.int (Int32.ofNat q)), .val (.int 0), .val (.long (((1 : Int64) <<< ((Int32.toInt64 (Int32.ofNat q)) &&& 63)) - (1 : Int64))), .second, .val (.long (Int64.ofNat t0)), .second, .val (.long (Int64.ofNat t1)), .second, .val (.long (Int64.ofNat t2)), .second, .val (.ref a1), .val (.ref a2), .unset]) (S' := [.int 2, .int 0]) rfl ?_
            refine wp_icf C (M0 hw) d0_256 (XT.ii_gt_f (by decide)) ?_
            refine wp_seg C (M0 hw) [(.lload 21, 2), (.lload 8, 2), (.lload 10, 2), (.iload 12, 2)] (by decide +kernel) (pc' := 267) (L' := [.val (.int a), .val (.int c), .val (.int s), .val (.long g), .second, .val (.int f), .val (.long (Int64.ofNat N)), .second, .val (.long (Int64.ofNat j0)), .second, .val (.long (Int64.ofNat j1)), .second, .val (.int sb), .val (.int (Int32.ofNat q)), .val (.int 0), .val (.long (((1 : Int64) <<< ((Int32.toInt64 (Int32.ofNat q)) &&& 63)) - (1 : Int64))), .second, .val (.long (Int64.ofNat t0)), .second, .val (.long (Int64.ofNat t1)), .second, .val (.long (Int64.ofNat t2)), .second, .val (.ref a1), .val (.ref a2), .unset]) (S' := [.int sb, .long (Int64.ofNat j1), .long (Int64.ofNat j0), .long (Int64.ofNat t2)]) rfl ?_
            refine wp_invokestatic C (M0 hw) d0_267 (M2 hw) (w38 hw) (w39 hw) (w4 hw) (by decide) (S' := []) [.long (Int64.ofNat t2), .long (Int64.ofNat j0), .long (Int64.ofNat j1), .int sb] (lenOf pd2 rfl) rfl (L' := [.val (.long (Int64.ofNat t2)), .second, .val (.long (Int64.ofNat j0)), .second, .val (.long (Int64.ofNat j1)), .second, .val (.int sb)]) rfl rfl (Rm.law (d := 1) (w := 18) hr hx (Nat.le_of_ble_eq_true rfl) (Nat.le_of_ble_eq_true rfl)) ?_
            refine c_hit C hw (Meth.caller (M0 hw) d0_267) ?_
            by_cases h2 : Int64.ofNat t2 = Int64.ofNat j0 ∨ ¬sb = 0 ∧ Int64.ofNat t2 = Int64.ofNat j1
            · rw [bi_t h2]
              refine wp_iff C (M0 hw) d0_270 (XT.i0_eq_f (by decide)) ?_
              refine wp_seg C (M0 hw) [(.iconst 1, 1), (.goto 4, 3), (.istore 25, 2)] (by decide +kernel) (pc' := 280) (L' := [.val (.int a), .val (.int c), .val (.int s), .val (.long g), .second, .val (.int f), .val (.long (Int64.ofNat N)), .second, .val (.long (Int64.ofNat j0)), .second, .val (.long (Int64.ofNat j1)), .second, .val (.int sb), .val (.int (Int32.ofNat q)), .val (.int 0), .val (.long (((1 : Int64) <<< ((Int32.toInt64 (Int32.ofNat q)) &&& 63)) - (1 : Int64))), .second, .val (.long (Int64.ofNat t0)), .second, .val (.long (Int64.ofNat t1)), .second, .val (.long (Int64.ofNat t2)), .second, .val (.ref a1), .val (.ref a2), .val (.int 1)]) (S' := []) rfl ?_
              refine wp_seg C (M0 hw) [(.aload 24, 2), (.aload 23, 2), (.iload 14, 2), (.iload 13, 2)] (by decide +kernel) (pc' := 288) (L' := [.val (.int a), .val (.int c), .val (.int s), .val (.long g), .second, .val (.int f), .val (.long (Int64.ofNat N)), .second, .val (.long (Int64.ofNat j0)), .second, .val (.long (Int64.ofNat j1)), .second, .val (.int sb), .val (.int (Int32.ofNat q)), .val (.int 0), .val (.long (((1 : Int64) <<< ((Int32.toInt64 (Int32.ofNat q)) &&& 63)) - (1 : Int64))), .second, .val (.long (Int64.ofNat t0)), .second, .val (.long (Int64.ofNat t1)), .second, .val (.long (Int64.ofNat t2)), .second, .val (.ref a1), .val (.ref a2), .val (.int 1)]) (S' := [.int (Int32.ofNat q), .int 0, .ref a1, .ref a2]) rfl ?_
              refine wp_invokevirtual C (M0 hw) d0_288 (M5 hw) (Cl := "com/example/limber_sieve/limbersieve/BitArray") (w41 hw) (w42 hw) (w44 hw) (w43 hw) (Or.inl ⟨_, (w44 hw)⟩) (by decide) (b := a2) (List.mem_of_getElem? (i := 1) rfl) (S' := []) [.ref a1, .int 0, .int (Int32.ofNat q)] (lenOf pd5 rfl) rfl (L' := [.val (.ref a2), .val (.ref a1), .val (.int 0), .val (.int (Int32.ofNat q)), .unset, .unset, .unset]) rfl rfl (Rm.law (d := 1) (w := 18) hr hx (Nat.le_of_ble_eq_true rfl) (Nat.le_of_ble_eq_true rfl)) ?_
              refine c_all0 C hw ev0 ev1 ev2 (ix_spec (by omega)) lq0 (ix_spec (by omega)) lq1 (ix_spec (by omega)) lq2 (Meth.caller (M0 hw) d0_288) (List.mem_of_getElem? (i := 1) rfl) (List.mem_of_getElem? (i := 1) rfl) (List.mem_of_getElem? (i := 0) rfl) (List.mem_of_getElem? (i := 2) rfl) ?_
              rw [bi_t ⟨sp0.mpr h0, sp1.mpr h1, sp2.mpr h2⟩]
              refine wp_seg C (M0 hw) [(.iload 25, 2)] (by decide +kernel) (pc' := 293) (L' := [.val (.int a), .val (.int c), .val (.int s), .val (.long g), .second, .val (.int f), .val (.long (Int64.ofNat N)), .second, .val (.long (Int64.ofNat j0)), .second, .val (.long (Int64.ofNat j1)), .second, .val (.int sb), .val (.int (Int32.ofNat q)), .val (.int 0), .val (.long (((1 : Int64) <<< ((Int32.toInt64 (Int32.ofNat q)) &&& 63)) - (1 : Int64))), .second, .val (.long (Int64.ofNat t0)), .second, .val (.long (Int64.ofNat t1)), .second, .val (.long (Int64.ofNat t2)), .second, .val (.ref a1), .val (.ref a2), .val (.int 1)]) (S' := [.int 1, .int 1]) rfl ?_
              refine wp_icf C (M0 hw) d0_293 (XT.ii_ne_f (by decide)) ?_
              refine wp_seg C (M0 hw) [(.iconst 1, 1), (.goto 4, 3)] (by decide +kernel) (pc' := 301) (L' := [.val (.int a), .val (.int c), .val (.int s), .val (.long g), .second, .val (.int f), .val (.long (Int64.ofNat N)), .second, .val (.long (Int64.ofNat j0)), .second, .val (.long (Int64.ofNat j1)), .second, .val (.int sb), .val (.int (Int32.ofNat q)), .val (.int 0), .val (.long (((1 : Int64) <<< ((Int32.toInt64 (Int32.ofNat q)) &&& 63)) - (1 : Int64))), .second, .val (.long (Int64.ofNat t0)), .second, .val (.long (Int64.ofNat t1)), .second, .val (.long (Int64.ofNat t2)), .second, .val (.ref a1), .val (.ref a2), .val (.int 1)]) (S' := [.int 1]) rfl ?_
              exact wp_end C (M0 hw) d0_301
            · rw [bi_f h2]
              refine wp_ift C (M0 hw) d0_270 (XT.i0_eq_t (by decide)) (pc' := 277) (by decide) ?_
              refine wp_seg C (M0 hw) [(.iconst 0, 1), (.istore 25, 2)] (by decide +kernel) (pc' := 280) (L' := [.val (.int a), .val (.int c), .val (.int s), .val (.long g), .second, .val (.int f), .val (.long (Int64.ofNat N)), .second, .val (.long (Int64.ofNat j0)), .second, .val (.long (Int64.ofNat j1)), .second, .val (.int sb), .val (.int (Int32.ofNat q)), .val (.int 0), .val (.long (((1 : Int64) <<< ((Int32.toInt64 (Int32.ofNat q)) &&& 63)) - (1 : Int64))), .second, .val (.long (Int64.ofNat t0)), .second, .val (.long (Int64.ofNat t1)), .second, .val (.long (Int64.ofNat t2)), .second, .val (.ref a1), .val (.ref a2), .val (.int 0)]) (S' := []) rfl ?_
              refine wp_seg C (M0 hw) [(.aload 24, 2), (.aload 23, 2), (.iload 14, 2), (.iload 13, 2)] (by decide +kernel) (pc' := 288) (L' := [.val (.int a), .val (.int c), .val (.int s), .val (.long g), .second, .val (.int f), .val (.long (Int64.ofNat N)), .second, .val (.long (Int64.ofNat j0)), .second, .val (.long (Int64.ofNat j1)), .second, .val (.int sb), .val (.int (Int32.ofNat q)), .val (.int 0), .val (.long (((1 : Int64) <<< ((Int32.toInt64 (Int32.ofNat q)) &&& 63)) - (1 : Int64))), .second, .val (.long (Int64.ofNat t0)), .second, .val (.long (Int64.ofNat t1)), .second, .val (.long (Int64.ofNat t2)), .second, .val (.ref a1), .val (.ref a2), .val (.int 0)]) (S' := [.int (Int32.ofNat q), .int 0, .ref a1, .ref a2]) rfl ?_
              refine wp_invokevirtual C (M0 hw) d0_288 (M5 hw) (Cl := "com/example/limber_sieve/limbersieve/BitArray") (w41 hw) (w42 hw) (w44 hw) (w43 hw) (Or.inl ⟨_, (w44 hw)⟩) (by decide) (b := a2) (List.mem_of_getElem? (i := 1) rfl) (S' := []) [.ref a1, .int 0, .int (Int32.ofNat q)] (lenOf pd5 rfl) rfl (L' := [.val (.ref a2), .val (.ref a1), .val (.int 0), .val (.int (Int32.ofNat q)), .unset, .unset, .unset]) rfl rfl (Rm.law (d := 1) (w := 18) hr hx (Nat.le_of_ble_eq_true rfl) (Nat.le_of_ble_eq_true rfl)) ?_
              refine c_all0 C hw ev0 ev1 ev2 (ix_spec (by omega)) lq0 (ix_spec (by omega)) lq1 (ix_spec (by omega)) lq2 (Meth.caller (M0 hw) d0_288) (List.mem_of_getElem? (i := 1) rfl) (List.mem_of_getElem? (i := 1) rfl) (List.mem_of_getElem? (i := 0) rfl) (List.mem_of_getElem? (i := 2) rfl) ?_
              rw [bi_f (fun q => h2 (sp2.mp q.2.2))]
              refine wp_seg C (M0 hw) [(.iload 25, 2)] (by decide +kernel) (pc' := 293) (L' := [.val (.int a), .val (.int c), .val (.int s), .val (.long g), .second, .val (.int f), .val (.long (Int64.ofNat N)), .second, .val (.long (Int64.ofNat j0)), .second, .val (.long (Int64.ofNat j1)), .second, .val (.int sb), .val (.int (Int32.ofNat q)), .val (.int 0), .val (.long (((1 : Int64) <<< ((Int32.toInt64 (Int32.ofNat q)) &&& 63)) - (1 : Int64))), .second, .val (.long (Int64.ofNat t0)), .second, .val (.long (Int64.ofNat t1)), .second, .val (.long (Int64.ofNat t2)), .second, .val (.ref a1), .val (.ref a2), .val (.int 0)]) (S' := [.int 0, .int 0]) rfl ?_
              refine wp_icf C (M0 hw) d0_293 (XT.ii_ne_f (by decide)) ?_
              refine wp_seg C (M0 hw) [(.iconst 1, 1), (.goto 4, 3)] (by decide +kernel) (pc' := 301) (L' := [.val (.int a), .val (.int c), .val (.int s), .val (.long g), .second, .val (.int f), .val (.long (Int64.ofNat N)), .second, .val (.long (Int64.ofNat j0)), .second, .val (.long (Int64.ofNat j1)), .second, .val (.int sb), .val (.int (Int32.ofNat q)), .val (.int 0), .val (.long (((1 : Int64) <<< ((Int32.toInt64 (Int32.ofNat q)) &&& 63)) - (1 : Int64))), .second, .val (.long (Int64.ofNat t0)), .second, .val (.long (Int64.ofNat t1)), .second, .val (.long (Int64.ofNat t2)), .second, .val (.ref a1), .val (.ref a2), .val (.int 0)]) (S' := [.int 1]) rfl ?_
              exact wp_end C (M0 hw) d0_301
          · rw [bi_f h1]
            refine wp_ift C (M0 hw) d0_250 (XT.i0_eq_t (by decide)) (pc' := 277) (by decide) ?_
            refine wp_seg C (M0 hw) [(.iconst 0, 1), (.istore 25, 2)] (by decide +kernel) (pc' := 280) (L' := [.val (.int a), .val (.int c), .val (.int s), .val (.long g), .second, .val (.int f), .val (.long (Int64.ofNat N)), .second, .val (.long (Int64.ofNat j0)), .second, .val (.long (Int64.ofNat j1)), .second, .val (.int sb), .val (.int (Int32.ofNat q)), .val (.int 0), .val (.long (((1 : Int64) <<< ((Int32.toInt64 (Int32.ofNat q)) &&& 63)) - (1 : Int64))), .second, .val (.long (Int64.ofNat t0)), .second, .val (.long (Int64.ofNat t1)), .second, .val (.long (Int64.ofNat t2)), .second, .val (.ref a1), .val (.ref a2), .val (.int 0)]) (S' := []) rfl ?_
            refine wp_seg C (M0 hw) [(.aload 24, 2), (.aload 23, 2), (.iload 14, 2), (.iload 13, 2)] (by decide +kernel) (pc' := 288) (L' := [.val (.int a), .val (.int c), .val (.int s), .val (.long g), .second, .val (.int f), .val (.long (Int64.ofNat N)), .second, .val (.long (Int64.ofNat j0)), .second, .val (.long (Int64.ofNat j1)), .second, .val (.int sb), .val (.int (Int32.ofNat q)), .val (.int 0), .val (.long (((1 : Int64) <<< ((Int32.toInt64 (Int32.ofNat q)) &&& 63)) - (1 : Int64))), .second, .val (.long (Int64.ofNat t0)), .second, .val (.long (Int64.ofNat t1)), .second, .val (.long (Int64.ofNat t2)), .second, .val (.ref a1), .val (.ref a2), .val (.int 0)]) (S' := [.int (Int32.ofNat q), .int 0, .ref a1, .ref a2]) rfl ?_
            refine wp_invokevirtual C (M0 hw) d0_288 (M5 hw) (Cl := "com/example/limber_sieve/limbersieve/BitArray") (w41 hw) (w42 hw) (w44 hw) (w43 hw) (Or.inl ⟨_, (w44 hw)⟩) (by decide) (b := a2) (List.mem_of_getElem? (i := 1) rfl) (S' := []) [.ref a1, .int 0, .int (Int32.ofNat q)] (lenOf pd5 rfl) rfl (L' := [.val (.ref a2), .val (.ref a1), .val (.int 0), .val (.int (Int32.ofNat q)), .unset, .unset, .unset]) rfl rfl (Rm.law (d := 1) (w := 18) hr hx (Nat.le_of_ble_eq_true rfl) (Nat.le_of_ble_eq_true rfl)) ?_
            refine c_all0 C hw ev0 ev1 ev2 (ix_spec (by omega)) lq0 (ix_spec (by omega)) lq1 (ix_spec (by omega)) lq2 (Meth.caller (M0 hw) d0_288) (List.mem_of_getElem? (i := 1) rfl) (List.mem_of_getElem? (i := 1) rfl) (List.mem_of_getElem? (i := 0) rfl) (List.mem_of_getElem? (i := 2) rfl) ?_
            rw [bi_f (fun q => h1 (sp1.mp q.2.1))]
            refine wp_seg C (M0 hw) [(.iload 25, 2)] (by decide +kernel) (pc' := 293) (L' := [.val (.int a), .val (.int c), .val (.int s), .val (.long g), .second, .val (.int f), .val (.long (Int64.ofNat N)), .second, .val (.long (Int64.ofNat j0)), .second, .val (.long (Int64.ofNat j1)), .second, .val (.int sb), .val (.int (Int32.ofNat q)), .val (.int 0), .val (.long (((1 : Int64) <<< ((Int32.toInt64 (Int32.ofNat q)) &&& 63)) - (1 : Int64))), .second, .val (.long (Int64.ofNat t0)), .second, .val (.long (Int64.ofNat t1)), .second, .val (.long (Int64.ofNat t2)), .second, .val (.ref a1), .val (.ref a2), .val (.int 0)]) (S' := [.int 0, .int 0]) rfl ?_
            refine wp_icf C (M0 hw) d0_293 (XT.ii_ne_f (by decide)) ?_
            refine wp_seg C (M0 hw) [(.iconst 1, 1), (.goto 4, 3)] (by decide +kernel) (pc' := 301) (L' := [.val (.int a), .val (.int c), .val (.int s), .val (.long g), .second, .val (.int f), .val (.long (Int64.ofNat N)), .second, .val (.long (Int64.ofNat j0)), .second, .val (.long (Int64.ofNat j1)), .second, .val (.int sb), .val (.int (Int32.ofNat q)), .val (.int 0), .val (.long (((1 : Int64) <<< ((Int32.toInt64 (Int32.ofNat q)) &&& 63)) - (1 : Int64))), .second, .val (.long (Int64.ofNat t0)), .second, .val (.long (Int64.ofNat t1)), .second, .val (.long (Int64.ofNat t2)), .second, .val (.ref a1), .val (.ref a2), .val (.int 0)]) (S' := [.int 1]) rfl ?_
            exact wp_end C (M0 hw) d0_301
        · rw [bi_f h0]
          refine wp_ift C (M0 hw) d0_230 (XT.i0_eq_t (by decide)) (pc' := 277) (by decide) ?_
          refine wp_seg C (M0 hw) [(.iconst 0, 1), (.istore 25, 2)] (by decide +kernel) (pc' := 280) (L' := [.val (.int a), .val (.int c), .val (.int s), .val (.long g), .second, .val (.int f), .val (.long (Int64.ofNat N)), .second, .val (.long (Int64.ofNat j0)), .second, .val (.long (Int64.ofNat j1)), .second, .val (.int sb), .val (.int (Int32.ofNat q)), .val (.int 0), .val (.long (((1 : Int64) <<< ((Int32.toInt64 (Int32.ofNat q)) &&& 63)) - (1 : Int64))), .second, .val (.long (Int64.ofNat t0)), .second, .val (.long (Int64.ofNat t1)), .second, .val (.long (Int64.ofNat t2)), .second, .val (.ref a1), .val (.ref a2), .val (.int 0)]) (S' := []) rfl ?_
          refine wp_seg C (M0 hw) [(.aload 24, 2), (.aload 23, 2), (.iload 14, 2), (.iload 13, 2)] (by decide +kernel) (pc' := 288) (L' := [.val (.int a), .val (.int c), .val (.int s), .val (.long g), .second, .val (.int f), .val (.long (Int64.ofNat N)), .second, .val (.long (Int64.ofNat j0)), .second, .val (.long (Int64.ofNat j1)), .second, .val (.int sb), .val (.int (Int32.ofNat q)), .val (.int 0), .val (.long (((1 : Int64) <<< ((Int32.toInt64 (Int32.ofNat q)) &&& 63)) - (1 : Int64))), .second, .val (.long (Int64.ofNat t0)), .second, .val (.long (Int64.ofNat t1)), .second, .val (.long (Int64.ofNat t2)), .second, .val (.ref a1), .val (.ref a2), .val (.int 0)]) (S' := [.int (Int32.ofNat q), .int 0, .ref a1, .ref a2]) rfl ?_
          refine wp_invokevirtual C (M0 hw) d0_288 (M5 hw) (Cl := "com/example/limber_sieve/limbersieve/BitArray") (w41 hw) (w42 hw) (w44 hw) (w43 hw) (Or.inl ⟨_, (w44 hw)⟩) (by decide) (b := a2) (List.mem_of_getElem? (i := 1) rfl) (S' := []) [.ref a1, .int 0, .int (Int32.ofNat q)] (lenOf pd5 rfl) rfl (L' := [.val (.ref a2), .val (.ref a1), .val (.int 0), .val (.int (Int32.ofNat q)), .unset, .unset, .unset]) rfl rfl (Rm.law (d := 1) (w := 18) hr hx (Nat.le_of_ble_eq_true rfl) (Nat.le_of_ble_eq_true rfl)) ?_
          refine c_all0 C hw ev0 ev1 ev2 (ix_spec (by omega)) lq0 (ix_spec (by omega)) lq1 (ix_spec (by omega)) lq2 (Meth.caller (M0 hw) d0_288) (List.mem_of_getElem? (i := 1) rfl) (List.mem_of_getElem? (i := 1) rfl) (List.mem_of_getElem? (i := 0) rfl) (List.mem_of_getElem? (i := 2) rfl) ?_
          rw [bi_f (fun q => h0 (sp0.mp q.1))]
          refine wp_seg C (M0 hw) [(.iload 25, 2)] (by decide +kernel) (pc' := 293) (L' := [.val (.int a), .val (.int c), .val (.int s), .val (.long g), .second, .val (.int f), .val (.long (Int64.ofNat N)), .second, .val (.long (Int64.ofNat j0)), .second, .val (.long (Int64.ofNat j1)), .second, .val (.int sb), .val (.int (Int32.ofNat q)), .val (.int 0), .val (.long (((1 : Int64) <<< ((Int32.toInt64 (Int32.ofNat q)) &&& 63)) - (1 : Int64))), .second, .val (.long (Int64.ofNat t0)), .second, .val (.long (Int64.ofNat t1)), .second, .val (.long (Int64.ofNat t2)), .second, .val (.ref a1), .val (.ref a2), .val (.int 0)]) (S' := [.int 0, .int 0]) rfl ?_
          refine wp_icf C (M0 hw) d0_293 (XT.ii_ne_f (by decide)) ?_
          refine wp_seg C (M0 hw) [(.iconst 1, 1), (.goto 4, 3)] (by decide +kernel) (pc' := 301) (L' := [.val (.int a), .val (.int c), .val (.int s), .val (.long g), .second, .val (.int f), .val (.long (Int64.ofNat N)), .second, .val (.long (Int64.ofNat j0)), .second, .val (.long (Int64.ofNat j1)), .second, .val (.int sb), .val (.int (Int32.ofNat q)), .val (.int 0), .val (.long (((1 : Int64) <<< ((Int32.toInt64 (Int32.ofNat q)) &&& 63)) - (1 : Int64))), .second, .val (.long (Int64.ofNat t0)), .second, .val (.long (Int64.ofNat t1)), .second, .val (.long (Int64.ofNat t2)), .second, .val (.ref a1), .val (.ref a2), .val (.int 0)]) (S' := [.int 1]) rfl ?_
          exact wp_end C (M0 hw) d0_301
      · refine wp_seg C (M0 hw) [(.iload 14, 2)] (by decide +kernel) (pc' := 216) (L' := [.val (.int a), .val (.int c), .val (.int s), .val (.long g), .second, .val (.int f), .val (.long (Int64.ofNat N)), .second, .val (.long (Int64.ofNat j0)), .second, .val (.long (Int64.ofNat j1)), .second, .val (.int sb), .val (.int (Int32.ofNat q)), .val (.int 1), .val (.long (((1 : Int64) <<< ((Int32.toInt64 (Int32.ofNat q)) &&& 63)) - (1 : Int64))), .second, .val (.long (Int64.ofNat t0)), .second, .val (.long (Int64.ofNat t1)), .second, .val (.long (Int64.ofNat t2)), .second, .val (.ref a1), .val (.ref a2), .unset]) (S' := [.int 1]) rfl ?_
        refine wp_ift C (M0 hw) d0_216 (XT.i0_gt_t (by decide)) (pc' := 233) (by decide) ?_
        refine wp_seg C (M0 hw) [(.iload 14, 2), (.iconst 1, 1)] (by decide +kernel) (pc' := 236) (L' := [.val (.int a), .val (.int c), .val (.int s), .val (.long g), .second, .val (.int f), .val (.long (Int64.ofNat N)), .second, .val (.long (Int64.ofNat j0)), .second, .val (.long (Int64.ofNat j1)), .second, .val (.int sb), .val (.int (Int32.ofNat q)), .val (.int 1), .val (.long (((1 : Int64) <<< ((Int32.toInt64 (Int32.ofNat q)) &&& 63)) - (1 : Int64))), .second, .val (.long (Int64.ofNat t0)), .second, .val (.long (Int64.ofNat t1)), .second, .val (.long (Int64.ofNat t2)), .second, .val (.ref a1), .val (.ref a2), .unset]) (S' := [.int 1, .int 1]) rfl ?_
        refine wp_icf C (M0 hw) d0_236 (XT.ii_gt_f (by decide)) ?_
        refine wp_seg C (M0 hw) [(.lload 19, 2), (.lload 8, 2), (.lload 10, 2), (.iload 12, 2)] (by decide +kernel) (pc' := 247) (L' := [.val (.int a), .val (.int c), .val (.int s), .val (.long g), .second, .val (.int f), .val (.long (Int64.ofNat N)), .second, .val (.long (Int64.ofNat j0)), .second, .val (.long (Int64.ofNat j1)), .second, .val (.int sb), .val (.int (Int32.ofNat q)), .val (.int 1), .val (.long (((1 : Int64) <<< ((Int32.toInt64 (Int32.ofNat q)) &&& 63)) - (1 : Int64))), .second, .val (.long (Int64.ofNat t0)), .second, .val (.long (Int64.ofNat t1)), .second, .val (.long (Int64.ofNat t2)), .second, .val (.ref a1), .val (.ref a2), .unset]) (S' := [.int sb, .long (Int64.ofNat j1), .long (Int64.ofNat j0), .long (Int64.ofNat t1)]) rfl ?_
        refine wp_invokestatic C (M0 hw) d0_247 (M2 hw) (w38 hw) (w39 hw) (w4 hw) (by decide) (S' := []) [.long (Int64.ofNat t1), .long (Int64.ofNat j0), .long (Int64.ofNat j1), .int sb] (lenOf pd2 rfl) rfl (L' := [.val (.long (Int64.ofNat t1)), .second, .val (.long (Int64.ofNat j0)), .second, .val (.long (Int64.ofNat j1)), .second, .val (.int sb)]) rfl rfl (Rm.law (d := 1) (w := 18) hr hx (Nat.le_of_ble_eq_true rfl) (Nat.le_of_ble_eq_true rfl)) ?_
        refine c_hit C hw (Meth.caller (M0 hw) d0_247) ?_
        by_cases h1 : Int64.ofNat t1 = Int64.ofNat j0 ∨ ¬sb = 0 ∧ Int64.ofNat t1 = Int64.ofNat j1
        · rw [bi_t h1]
          refine wp_iff C (M0 hw) d0_250 (XT.i0_eq_f (by decide)) ?_
          refine wp_seg C (M0 hw) [(.iload 14, 2), (.iconst 2, 1)] (by decide +kernel) (pc' := 256) (L' := [.val (.int a), .val (.int c), .val (.int s), .val (.long g), .second, .val (.int f), .val (.long (Int64.ofNat N)), .second, .val (.long (Int64.ofNat j0)), .second, .val (.long (Int64.ofNat j1)), .second, .val (.int sb), .val (.int (Int32.ofNat q)), .val (.int 1), .val (.long (((1 : Int64) <<< ((Int32.toInt64 (Int32.ofNat q)) &&& 63)) - (1 : Int64))), .second, .val (.long (Int64.ofNat t0)), .second, .val (.long (Int64.ofNat t1)), .second, .val (.long (Int64.ofNat t2)), .second, .val (.ref a1), .val (.ref a2), .unset]) (S' := [.int 2, .int 1]) rfl ?_
          refine wp_icf C (M0 hw) d0_256 (XT.ii_gt_f (by decide)) ?_
          refine wp_seg C (M0 hw) [(.lload 21, 2), (.lload 8, 2), (.lload 10, 2), (.iload 12, 2)] (by decide +kernel) (pc' := 267) (L' := [.val (.int a), .val (.int c), .val (.int s), .val (.long g), .second, .val (.int f), .val (.long (Int64.ofNat N)), .second, .val (.long (Int64.ofNat j0)), .second, .val (.long (Int64.ofNat j1)), .second, .val (.int sb), .val (.int (Int32.ofNat q)), .val (.int 1), .val (.long (((1 : Int64) <<< ((Int32.toInt64 (Int32.ofNat q)) &&& 63)) - (1 : Int64))), .second, .val (.long (Int64.ofNat t0)), .second, .val (.long (Int64.ofNat t1)), .second, .val (.long (Int64.ofNat t2)), .second, .val (.ref a1), .val (.ref a2), .unset]) (S' := [.int sb, .long (Int64.ofNat j1), .long (Int64.ofNat j0), .long (Int64.ofNat t2)]) rfl ?_
          refine wp_invokestatic C (M0 hw) d0_267 (M2 hw) (w38 hw) (w39 hw) (w4 hw) (by decide) (S' := []) [.long (Int64.ofNat t2), .long (Int64.ofNat j0), .long (Int64.ofNat j1), .int sb] (lenOf pd2 rfl) rfl (L' := [.val (.long (Int64.ofNat t2)), .second, .val (.long (Int64.ofNat j0)), .second, .val (.long (Int64.ofNat j1)), .second, .val (.int sb)]) rfl rfl (Rm.law (d := 1) (w := 18) hr hx (Nat.le_of_ble_eq_true rfl) (Nat.le_of_ble_eq_true rfl)) ?_
          refine c_hit C hw (Meth.caller (M0 hw) d0_267) ?_
          by_cases h2 : Int64.ofNat t2 = Int64.ofNat j0 ∨ ¬sb = 0 ∧ Int64.ofNat t2 = Int64.ofNat j1
          · rw [bi_t h2]
            refine wp_iff C (M0 hw) d0_270 (XT.i0_eq_f (by decide)) ?_
            refine wp_seg C (M0 hw) [(.iconst 1, 1), (.goto 4, 3), (.istore 25, 2)] (by decide +kernel) (pc' := 280) (L' := [.val (.int a), .val (.int c), .val (.int s), .val (.long g), .second, .val (.int f), .val (.long (Int64.ofNat N)), .second, .val (.long (Int64.ofNat j0)), .second, .val (.long (Int64.ofNat j1)), .second, .val (.int sb), .val (.int (Int32.ofNat q)), .val (.int 1), .val (.long (((1 : Int64) <<< ((Int32.toInt64 (Int32.ofNat q)) &&& 63)) - (1 : Int64))), .second, .val (.long (Int64.ofNat t0)), .second, .val (.long (Int64.ofNat t1)), .second, .val (.long (Int64.ofNat t2)), .second, .val (.ref a1), .val (.ref a2), .val (.int 1)]) (S' := []) rfl ?_
            refine wp_seg C (M0 hw) [(.aload 24, 2), (.aload 23, 2), (.iload 14, 2), (.iload 13, 2)] (by decide +kernel) (pc' := 288) (L' := [.val (.int a), .val (.int c), .val (.int s), .val (.long g), .second, .val (.int f), .val (.long (Int64.ofNat N)), .second, .val (.long (Int64.ofNat j0)), .second, .val (.long (Int64.ofNat j1)), .second, .val (.int sb), .val (.int (Int32.ofNat q)), .val (.int 1), .val (.long (((1 : Int64) <<< ((Int32.toInt64 (Int32.ofNat q)) &&& 63)) - (1 : Int64))), .second, .val (.long (Int64.ofNat t0)), .second, .val (.long (Int64.ofNat t1)), .second, .val (.long (Int64.ofNat t2)), .second, .val (.ref a1), .val (.ref a2), .val (.int 1)]) (S' := [.int (Int32.ofNat q), .int 1, .ref a1, .ref a2]) rfl ?_
            refine wp_invokevirtual C (M0 hw) d0_288 (M5 hw) (Cl := "com/example/limber_sieve/limbersieve/BitArray") (w41 hw) (w42 hw) (w44 hw) (w43 hw) (Or.inl ⟨_, (w44 hw)⟩) (by decide) (b := a2) (List.mem_of_getElem? (i := 1) rfl) (S' := []) [.ref a1, .int 1, .int (Int32.ofNat q)] (lenOf pd5 rfl) rfl (L' := [.val (.ref a2), .val (.ref a1), .val (.int 1), .val (.int (Int32.ofNat q)), .unset, .unset, .unset]) rfl rfl (Rm.law (d := 1) (w := 18) hr hx (Nat.le_of_ble_eq_true rfl) (Nat.le_of_ble_eq_true rfl)) ?_
            refine c_all1 C hw ev0 ev1 ev2 (ix_spec (by omega)) lq0 (ix_spec (by omega)) lq1 (ix_spec (by omega)) lq2 (Meth.caller (M0 hw) d0_288) (List.mem_of_getElem? (i := 1) rfl) (List.mem_of_getElem? (i := 1) rfl) (List.mem_of_getElem? (i := 0) rfl) (List.mem_of_getElem? (i := 2) rfl) ?_
            rw [bi_t ⟨sp1.mpr h1, sp2.mpr h2⟩]
            refine wp_seg C (M0 hw) [(.iload 25, 2)] (by decide +kernel) (pc' := 293) (L' := [.val (.int a), .val (.int c), .val (.int s), .val (.long g), .second, .val (.int f), .val (.long (Int64.ofNat N)), .second, .val (.long (Int64.ofNat j0)), .second, .val (.long (Int64.ofNat j1)), .second, .val (.int sb), .val (.int (Int32.ofNat q)), .val (.int 1), .val (.long (((1 : Int64) <<< ((Int32.toInt64 (Int32.ofNat q)) &&& 63)) - (1 : Int64))), .second, .val (.long (Int64.ofNat t0)), .second, .val (.long (Int64.ofNat t1)), .second, .val (.long (Int64.ofNat t2)), .second, .val (.ref a1), .val (.ref a2), .val (.int 1)]) (S' := [.int 1, .int 1]) rfl ?_
            refine wp_icf C (M0 hw) d0_293 (XT.ii_ne_f (by decide)) ?_
            refine wp_seg C (M0 hw) [(.iconst 1, 1), (.goto 4, 3)] (by decide +kernel) (pc' := 301) (L' := [.val (.int a), .val (.int c), .val (.int s), .val (.long g), .second, .val (.int f), .val (.long (Int64.ofNat N)), .second, .val (.long (Int64.ofNat j0)), .second, .val (.long (Int64.ofNat j1)), .second, .val (.int sb), .val (.int (Int32.ofNat q)), .val (.int 1), .val (.long (((1 : Int64) <<< ((Int32.toInt64 (Int32.ofNat q)) &&& 63)) - (1 : Int64))), .second, .val (.long (Int64.ofNat t0)), .second, .val (.long (Int64.ofNat t1)), .second, .val (.long (Int64.ofNat t2)), .second, .val (.ref a1), .val (.ref a2), .val (.int 1)]) (S' := [.int 1]) rfl ?_
            exact wp_end C (M0 hw) d0_301
          · rw [bi_f h2]
            refine wp_ift C (M0 hw) d0_270 (XT.i0_eq_t (by decide)) (pc' := 277) (by decide) ?_
            refine wp_seg C (M0 hw) [(.iconst 0, 1), (.istore 25, 2)] (by decide +kernel) (pc' := 280) (L' := [.val (.int a), .val (.int c), .val (.int s), .val (.long g), .second, .val (.int f), .val (.long (Int64.ofNat N)), .second, .val (.long (Int64.ofNat j0)), .second, .val (.long (Int64.ofNat j1)), .second, .val (.int sb), .val (.int (Int32.ofNat q)), .val (.int 1), .val (.long (((1 : Int64) <<< ((Int32.toInt64 (Int32.ofNat q)) &&& 63)) - (1 : Int64))), .second, .val (.long (Int64.ofNat t0)), .second, .val (.long (Int64.ofNat t1)), .second, .val (.long (Int64.ofNat t2)), .second, .val (.ref a1), .val (.ref a2), .val (.int 0)]) (S' := []) rfl ?_
            refine wp_seg C (M0 hw) [(.aload 24, 2), (.aload 23, 2), (.iload 14, 2), (.iload 13, 2)] (by decide +kernel) (pc' := 288) (L' := [.val (.int a), .val (.int c), .val (.int s), .val (.long g), .second, .val (.int f), .val (.long (Int64.ofNat N)), .second, .val (.long (Int64.ofNat j0)), .second, .val (.long (Int64.ofNat j1)), .second, .val (.int sb), .val (.int (Int32.ofNat q)), .val (.int 1), .val (.long (((1 : Int64) <<< ((Int32.toInt64 (Int32.ofNat q)) &&& 63)) - (1 : Int64))), .second, .val (.long (Int64.ofNat t0)), .second, .val (.long (Int64.ofNat t1)), .second, .val (.long (Int64.ofNat t2)), .second, .val (.ref a1), .val (.ref a2), .val (.int 0)]) (S' := [.int (Int32.ofNat q), .int 1, .ref a1, .ref a2]) rfl ?_
            refine wp_invokevirtual C (M0 hw) d0_288 (M5 hw) (Cl := "com/example/limber_sieve/limbersieve/BitArray") (w41 hw) (w42 hw) (w44 hw) (w43 hw) (Or.inl ⟨_, (w44 hw)⟩) (by decide) (b := a2) (List.mem_of_getElem? (i := 1) rfl) (S' := []) [.ref a1, .int 1, .int (Int32.ofNat q)] (lenOf pd5 rfl) rfl (L' := [.val (.ref a2), .val (.ref a1), .val (.int 1), .val (.int (Int32.ofNat q)), .unset, .unset, .unset]) rfl rfl (Rm.law (d := 1) (w := 18) hr hx (Nat.le_of_ble_eq_true rfl) (Nat.le_of_ble_eq_true rfl)) ?_
            refine c_all1 C hw ev0 ev1 ev2 (ix_spec (by omega)) lq0 (ix_spec (by omega)) lq1 (ix_spec (by omega)) lq2 (Meth.caller (M0 hw) d0_288) (List.mem_of_getElem? (i := 1) rfl) (List.mem_of_getElem? (i := 1) rfl) (List.mem_of_getElem? (i := 0) rfl) (List.mem_of_getElem? (i := 2) rfl) ?_
            rw [bi_f (fun q => h2 (sp2.mp q.2))]
            refine wp_seg C (M0 hw) [(.iload 25, 2)] (by decide +kernel) (pc' := 293) (L' := [.val (.int a), .val (.int c), .val (.int s), .val (.long g), .second, .val (.int f), .val (.long (Int64.ofNat N)), .second, .val (.long (Int64.ofNat j0)), .second, .val (.long (Int64.ofNat j1)), .second, .val (.int sb), .val (.int (Int32.ofNat q)), .val (.int 1), .val (.long (((1 : Int64) <<< ((Int32.toInt64 (Int32.ofNat q)) &&& 63)) - (1 : Int64))), .second, .val (.long (Int64.ofNat t0)), .second, .val (.long (Int64.ofNat t1)), .second, .val (.long (Int64.ofNat t2)), .second, .val (.ref a1), .val (.ref a2), .val (.int 0)]) (S' := [.int 0, .int 0]) rfl ?_
            refine wp_icf C (M0 hw) d0_293 (XT.ii_ne_f (by decide)) ?_
            refine wp_seg C (M0 hw) [(.iconst 1, 1), (.goto 4, 3)] (by decide +kernel) (pc' := 301) (L' := [.val (.int a), .val (.int c), .val (.int s), .val (.long g), .second, .val (.int f), .val (.long (Int64.ofNat N)), .second, .val (.long (Int64.ofNat j0)), .second, .val (.long (Int64.ofNat j1)), .second, .val (.int sb), .val (.int (Int32.ofNat q)), .val (.int 1), .val (.long (((1 : Int64) <<< ((Int32.toInt64 (Int32.ofNat q)) &&& 63)) - (1 : Int64))), .second, .val (.long (Int64.ofNat t0)), .second, .val (.long (Int64.ofNat t1)), .second, .val (.long (Int64.ofNat t2)), .second, .val (.ref a1), .val (.ref a2), .val (.int 0)]) (S' := [.int 1]) rfl ?_
            exact wp_end C (M0 hw) d0_301
        · rw [bi_f h1]
          refine wp_ift C (M0 hw) d0_250 (XT.i0_eq_t (by decide)) (pc' := 277) (by decide) ?_
          refine wp_seg C (M0 hw) [(.iconst 0, 1), (.istore 25, 2)] (by decide +kernel) (pc' := 280) (L' := [.val (.int a), .val (.int c), .val (.int s), .val (.long g), .second, .val (.int f), .val (.long (Int64.ofNat N)), .second, .val (.long (Int64.ofNat j0)), .second, .val (.long (Int64.ofNat j1)), .second, .val (.int sb), .val (.int (Int32.ofNat q)), .val (.int 1), .val (.long (((1 : Int64) <<< ((Int32.toInt64 (Int32.ofNat q)) &&& 63)) - (1 : Int64))), .second, .val (.long (Int64.ofNat t0)), .second, .val (.long (Int64.ofNat t1)), .second, .val (.long (Int64.ofNat t2)), .second, .val (.ref a1), .val (.ref a2), .val (.int 0)]) (S' := []) rfl ?_
          refine wp_seg C (M0 hw) [(.aload 24, 2), (.aload 23, 2), (.iload 14, 2), (.iload 13, 2)] (by decide +kernel) (pc' := 288) (L' := [.val (.int a), .val (.int c), .val (.int s), .val (.long g), .second, .val (.int f), .val (.long (Int64.ofNat N)), .second, .val (.long (Int64.ofNat j0)), .second, .val (.long (Int64.ofNat j1)), .second, .val (.int sb), .val (.int (Int32.ofNat q)), .val (.int 1), .val (.long (((1 : Int64) <<< ((Int32.toInt64 (Int32.ofNat q)) &&& 63)) - (1 : Int64))), .second, .val (.long (Int64.ofNat t0)), .second, .val (.long (Int64.ofNat t1)), .second, .val (.long (Int64.ofNat t2)), .second, .val (.ref a1), .val (.ref a2), .val (.int 0)]) (S' := [.int (Int32.ofNat q), .int 1, .ref a1, .ref a2]) rfl ?_
          refine wp_invokevirtual C (M0 hw) d0_288 (M5 hw) (Cl := "com/example/limber_sieve/limbersieve/BitArray") (w41 hw) (w42 hw) (w44 hw) (w43 hw) (Or.inl ⟨_, (w44 hw)⟩) (by decide) (b := a2) (List.mem_of_getElem? (i := 1) rfl) (S' := []) [.ref a1, .int 1, .int (Int32.ofNat q)] (lenOf pd5 rfl) rfl (L' := [.val (.ref a2), .val (.ref a1), .val (.int 1), .val (.int (Int32.ofNat q)), .unset, .unset, .unset]) rfl rfl (Rm.law (d := 1) (w := 18) hr hx (Nat.le_of_ble_eq_true rfl) (Nat.le_of_ble_eq_true rfl)) ?_
          refine c_all1 C hw ev0 ev1 ev2 (ix_spec (by omega)) lq0 (ix_spec (by omega)) lq1 (ix_spec (by omega)) lq2 (Meth.caller (M0 hw) d0_288) (List.mem_of_getElem? (i := 1) rfl) (List.mem_of_getElem? (i := 1) rfl) (List.mem_of_getElem? (i := 0) rfl) (List.mem_of_getElem? (i := 2) rfl) ?_
          rw [bi_f (fun q => h1 (sp1.mp q.1))]
          refine wp_seg C (M0 hw) [(.iload 25, 2)] (by decide +kernel) (pc' := 293) (L' := [.val (.int a), .val (.int c), .val (.int s), .val (.long g), .second, .val (.int f), .val (.long (Int64.ofNat N)), .second, .val (.long (Int64.ofNat j0)), .second, .val (.long (Int64.ofNat j1)), .second, .val (.int sb), .val (.int (Int32.ofNat q)), .val (.int 1), .val (.long (((1 : Int64) <<< ((Int32.toInt64 (Int32.ofNat q)) &&& 63)) - (1 : Int64))), .second, .val (.long (Int64.ofNat t0)), .second, .val (.long (Int64.ofNat t1)), .second, .val (.long (Int64.ofNat t2)), .second, .val (.ref a1), .val (.ref a2), .val (.int 0)]) (S' := [.int 0, .int 0]) rfl ?_
          refine wp_icf C (M0 hw) d0_293 (XT.ii_ne_f (by decide)) ?_
          refine wp_seg C (M0 hw) [(.iconst 1, 1), (.goto 4, 3)] (by decide +kernel) (pc' := 301) (L' := [.val (.int a), .val (.int c), .val (.int s), .val (.long g), .second, .val (.int f), .val (.long (Int64.ofNat N)), .second, .val (.long (Int64.ofNat j0)), .second, .val (.long (Int64.ofNat j1)), .second, .val (.int sb), .val (.int (Int32.ofNat q)), .val (.int 1), .val (.long (((1 : Int64) <<< ((Int32.toInt64 (Int32.ofNat q)) &&& 63)) - (1 : Int64))), .second, .val (.long (Int64.ofNat t0)), .second, .val (.long (Int64.ofNat t1)), .second, .val (.long (Int64.ofNat t2)), .second, .val (.ref a1), .val (.ref a2), .val (.int 0)]) (S' := [.int 1]) rfl ?_
          exact wp_end C (M0 hw) d0_301
      · refine wp_seg C (M0 hw) [(.iload 14, 2)] (by decide +kernel) (pc' := 216) (L' := [.val (.int a), .val (.int c), .val (.int s), .val (.long g), .second, .val (.int f), .val (.long (Int64.ofNat N)), .second, .val (.long (Int64.ofNat j0)), .second, .val (.long (Int64.ofNat j1)), .second, .val (.int sb), .val (.int (Int32.ofNat q)), .val (.int 2), .val (.long (((1 : Int64) <<< ((Int32.toInt64 (Int32.ofNat q)) &&& 63)) - (1 : Int64))), .second, .val (.long (Int64.ofNat t0)), .second, .val (.long (Int64.ofNat t1)), .second, .val (.long (Int64.ofNat t2)), .second, .val (.ref a1), .val (.ref a2), .unset]) (S' := [.int 2]) rfl ?_
        refine wp_ift C (M0 hw) d0_216 (XT.i0_gt_t (by decide)) (pc' := 233) (by decide) ?_
        refine wp_seg C (M0 hw) [(.iload 14, 2), (.iconst 1, 1)] (by decide +kernel) (pc' := 236) (L' := [.val (.int a), .val (.int c), .val (.int s), .val (.long g), .second, .val (.int f), .val (.long (Int64.ofNat N)), .second, .val (.long (Int64.ofNat j0)), .second, .val (.long (Int64.ofNat j1)), .second, .val (.int sb), .val (.int (Int32.ofNat q)), .val (.int 2), .val (.long (((1 : Int64) <<< ((Int32.toInt64 (Int32.ofNat q)) &&& 63)) - (1 : Int64))), .second, .val (.long (Int64.ofNat t0)), .second, .val (.long (Int64.ofNat t1)), .second, .val (.long (Int64.ofNat t2)), .second, .val (.ref a1), .val (.ref a2), .unset]) (S' := [.int 1, .int 2]) rfl ?_
        refine wp_ict C (M0 hw) d0_236 (XT.ii_gt_t (by decide)) (pc' := 253) (by decide) ?_
        refine wp_seg C (M0 hw) [(.iload 14, 2), (.iconst 2, 1)] (by decide +kernel) (pc' := 256) (L' := [.val (.int a), .val (.int c), .val (.int s), .val (.long g), .second, .val (.int f), .val (.long (Int64.ofNat N)), .second, .val (.long (Int64.ofNat j0)), .second, .val (.long (Int64.ofNat j1)), .second, .val (.int sb), .val (.int (Int32.ofNat q)), .val (.int 2), .val (.long (((1 : Int64) <<< ((Int32.toInt64 (Int32.ofNat q)) &&& 63)) - (1 : Int64))), .second, .val (.long (Int64.ofNat t0)), .second, .val (.long (Int64.ofNat t1)), .second, .val (.long (Int64.ofNat t2)), .second, .val (.ref a1), .val (.ref a2), .unset]) (S' := [.int 2, .int 2]) rfl ?_
        refine wp_icf C (M0 hw) d0_256 (XT.ii_gt_f (by decide)) ?_
        refine wp_seg C (M0 hw) [(.lload 21, 2), (.lload 8, 2), (.lload 10, 2), (.iload 12, 2)] (by decide +kernel) (pc' := 267) (L' := [.val (.int a), .val (.int c), .val (.int s), .val (.long g), .second, .val (.int f), .val (.long (Int64.ofNat N)), .second, .val (.long (Int64.ofNat j0)), .second, .val (.long (Int64.ofNat j1)), .second, .val (.int sb), .val (.int (Int32.ofNat q)), .val (.int 2), .val (.long (((1 : Int64) <<< ((Int32.toInt64 (Int32.ofNat q)) &&& 63)) - (1 : Int64))), .second, .val (.long (Int64.ofNat t0)), .second, .val (.long (Int64.ofNat t1)), .second, .val (.long (Int64.ofNat t2)), .second, .val (.ref a1), .val (.ref a2), .unset]) (S' := [.int sb, .long (Int64.ofNat j1), .long (Int64.ofNat j0), .long (Int64.ofNat t2)]) rfl ?_
        refine wp_invokestatic C (M0 hw) d0_267 (M2 hw) (w38 hw) (w39 hw) (w4 hw) (by decide) (S' := []) [.long (Int64.ofNat t2), .long (Int64.ofNat j0), .long (Int64.ofNat j1), .int sb] (lenOf pd2 rfl) rfl (L' := [.val (.long (Int64.ofNat t2)), .second, .val (.long (Int64.ofNat j0)), .second, .val (.long (Int64.ofNat j1)), .second, .val (.int sb)]) rfl rfl (Rm.law (d := 1) (w := 18) hr hx (Nat.le_of_ble_eq_true rfl) (Nat.le_of_ble_eq_true rfl)) ?_
        refine c_hit C hw (Meth.caller (M0 hw) d0_267) ?_
        by_cases h2 : Int64.ofNat t2 = Int64.ofNat j0 ∨ ¬sb = 0 ∧ Int64.ofNat t2 = Int64.ofNat j1
        · rw [bi_t h2]
          refine wp_iff C (M0 hw) d0_270 (XT.i0_eq_f (by decide)) ?_
          refine wp_seg C (M0 hw) [(.iconst 1, 1), (.goto 4, 3), (.istore 25, 2)] (by decide +kernel) (pc' := 280) (L' := [.val (.int a), .val (.int c), .val (.int s), .val (.long g), .second, .val (.int f), .val (.long (Int64.ofNat N)), .second, .val (.long (Int64.ofNat j0)), .second, .val (.long (Int64.ofNat j1)), .second, .val (.int sb), .val (.int (Int32.ofNat q)), .val (.int 2), .val (.long (((1 : Int64) <<< ((Int32.toInt64 (Int32.ofNat q)) &&& 63)) - (1 : Int64))), .second, .val (.long (Int64.ofNat t0)), .second, .val (.long (Int64.ofNat t1)), .second, .val (.long (Int64.ofNat t2)), .second, .val (.ref a1), .val (.ref a2), .val (.int 1)]) (S' := []) rfl ?_
          refine wp_seg C (M0 hw) [(.aload 24, 2), (.aload 23, 2), (.iload 14, 2), (.iload 13, 2)] (by decide +kernel) (pc' := 288) (L' := [.val (.int a), .val (.int c), .val (.int s), .val (.long g), .second, .val (.int f), .val (.long (Int64.ofNat N)), .second, .val (.long (Int64.ofNat j0)), .second, .val (.long (Int64.ofNat j1)), .second, .val (.int sb), .val (.int (Int32.ofNat q)), .val (.int 2), .val (.long (((1 : Int64) <<< ((Int32.toInt64 (Int32.ofNat q)) &&& 63)) - (1 : Int64))), .second, .val (.long (Int64.ofNat t0)), .second, .val (.long (Int64.ofNat t1)), .second, .val (.long (Int64.ofNat t2)), .second, .val (.ref a1), .val (.ref a2), .val (.int 1)]) (S' := [.int (Int32.ofNat q), .int 2, .ref a1, .ref a2]) rfl ?_
          refine wp_invokevirtual C (M0 hw) d0_288 (M5 hw) (Cl := "com/example/limber_sieve/limbersieve/BitArray") (w41 hw) (w42 hw) (w44 hw) (w43 hw) (Or.inl ⟨_, (w44 hw)⟩) (by decide) (b := a2) (List.mem_of_getElem? (i := 1) rfl) (S' := []) [.ref a1, .int 2, .int (Int32.ofNat q)] (lenOf pd5 rfl) rfl (L' := [.val (.ref a2), .val (.ref a1), .val (.int 2), .val (.int (Int32.ofNat q)), .unset, .unset, .unset]) rfl rfl (Rm.law (d := 1) (w := 18) hr hx (Nat.le_of_ble_eq_true rfl) (Nat.le_of_ble_eq_true rfl)) ?_
          refine c_all2 C hw ev0 ev1 ev2 (ix_spec (by omega)) lq0 (ix_spec (by omega)) lq1 (ix_spec (by omega)) lq2 (Meth.caller (M0 hw) d0_288) (List.mem_of_getElem? (i := 1) rfl) (List.mem_of_getElem? (i := 1) rfl) (List.mem_of_getElem? (i := 0) rfl) (List.mem_of_getElem? (i := 2) rfl) ?_
          rw [bi_t (sp2.mpr h2)]
          refine wp_seg C (M0 hw) [(.iload 25, 2)] (by decide +kernel) (pc' := 293) (L' := [.val (.int a), .val (.int c), .val (.int s), .val (.long g), .second, .val (.int f), .val (.long (Int64.ofNat N)), .second, .val (.long (Int64.ofNat j0)), .second, .val (.long (Int64.ofNat j1)), .second, .val (.int sb), .val (.int (Int32.ofNat q)), .val (.int 2), .val (.long (((1 : Int64) <<< ((Int32.toInt64 (Int32.ofNat q)) &&& 63)) - (1 : Int64))), .second, .val (.long (Int64.ofNat t0)), .second, .val (.long (Int64.ofNat t1)), .second, .val (.long (Int64.ofNat t2)), .second, .val (.ref a1), .val (.ref a2), .val (.int 1)]) (S' := [.int 1, .int 1]) rfl ?_
          refine wp_icf C (M0 hw) d0_293 (XT.ii_ne_f (by decide)) ?_
          refine wp_seg C (M0 hw) [(.iconst 1, 1), (.goto 4, 3)] (by decide +kernel) (pc' := 301) (L' := [.val (.int a), .val (.int c), .val (.int s), .val (.long g), .second, .val (.int f), .val (.long (Int64.ofNat N)), .second, .val (.long (Int64.ofNat j0)), .second, .val (.long (Int64.ofNat j1)), .second, .val (.int sb), .val (.int (Int32.ofNat q)), .val (.int 2), .val (.long (((1 : Int64) <<< ((Int32.toInt64 (Int32.ofNat q)) &&& 63)) - (1 : Int64))), .second, .val (.long (Int64.ofNat t0)), .second, .val (.long (Int64.ofNat t1)), .second, .val (.long (Int64.ofNat t2)), .second, .val (.ref a1), .val (.ref a2), .val (.int 1)]) (S' := [.int 1]) rfl ?_
          exact wp_end C (M0 hw) d0_301
        · rw [bi_f h2]
          refine wp_ift C (M0 hw) d0_270 (XT.i0_eq_t (by decide)) (pc' := 277) (by decide) ?_
          refine wp_seg C (M0 hw) [(.iconst 0, 1), (.istore 25, 2)] (by decide +kernel) (pc' := 280) (L' := [.val (.int a), .val (.int c), .val (.int s), .val (.long g), .second, .val (.int f), .val (.long (Int64.ofNat N)), .second, .val (.long (Int64.ofNat j0)), .second, .val (.long (Int64.ofNat j1)), .second, .val (.int sb), .val (.int (Int32.ofNat q)), .val (.int 2), .val (.long (((1 : Int64) <<< ((Int32.toInt64 (Int32.ofNat q)) &&& 63)) - (1 : Int64))), .second, .val (.long (Int64.ofNat t0)), .second, .val (.long (Int64.ofNat t1)), .second, .val (.long (Int64.ofNat t2)), .second, .val (.ref a1), .val (.ref a2), .val (.int 0)]) (S' := []) rfl ?_
          refine wp_seg C (M0 hw) [(.aload 24, 2), (.aload 23, 2), (.iload 14, 2), (.iload 13, 2)] (by decide +kernel) (pc' := 288) (L' := [.val (.int a), .val (.int c), .val (.int s), .val (.long g), .second, .val (.int f), .val (.long (Int64.ofNat N)), .second, .val (.long (Int64.ofNat j0)), .second, .val (.long (Int64.ofNat j1)), .second, .val (.int sb), .val (.int (Int32.ofNat q)), .val (.int 2), .val (.long (((1 : Int64) <<< ((Int32.toInt64 (Int32.ofNat q)) &&& 63)) - (1 : Int64))), .second, .val (.long (Int64.ofNat t0)), .second, .val (.long (Int64.ofNat t1)), .second, .val (.long (Int64.ofNat t2)), .second, .val (.ref a1), .val (.ref a2), .val (.int 0)]) (S' := [.int (Int32.ofNat q), .int 2, .ref a1, .ref a2]) rfl ?_
          refine wp_invokevirtual C (M0 hw) d0_288 (M5 hw) (Cl := "com/example/limber_sieve/limbersieve/BitArray") (w41 hw) (w42 hw) (w44 hw) (w43 hw) (Or.inl ⟨_, (w44 hw)⟩) (by decide) (b := a2) (List.mem_of_getElem? (i := 1) rfl) (S' := []) [.ref a1, .int 2, .int (Int32.ofNat q)] (lenOf pd5 rfl) rfl (L' := [.val (.ref a2), .val (.ref a1), .val (.int 2), .val (.int (Int32.ofNat q)), .unset, .unset, .unset]) rfl rfl (Rm.law (d := 1) (w := 18) hr hx (Nat.le_of_ble_eq_true rfl) (Nat.le_of_ble_eq_true rfl)) ?_
          refine c_all2 C hw ev0 ev1 ev2 (ix_spec (by omega)) lq0 (ix_spec (by omega)) lq1 (ix_spec (by omega)) lq2 (Meth.caller (M0 hw) d0_288) (List.mem_of_getElem? (i := 1) rfl) (List.mem_of_getElem? (i := 1) rfl) (List.mem_of_getElem? (i := 0) rfl) (List.mem_of_getElem? (i := 2) rfl) ?_
          rw [bi_f (fun q => h2 (sp2.mp q))]
          refine wp_seg C (M0 hw) [(.iload 25, 2)] (by decide +kernel) (pc' := 293) (L' := [.val (.int a), .val (.int c), .val (.int s), .val (.long g), .second, .val (.int f), .val (.long (Int64.ofNat N)), .second, .val (.long (Int64.ofNat j0)), .second, .val (.long (Int64.ofNat j1)), .second, .val (.int sb), .val (.int (Int32.ofNat q)), .val (.int 2), .val (.long (((1 : Int64) <<< ((Int32.toInt64 (Int32.ofNat q)) &&& 63)) - (1 : Int64))), .second, .val (.long (Int64.ofNat t0)), .second, .val (.long (Int64.ofNat t1)), .second, .val (.long (Int64.ofNat t2)), .second, .val (.ref a1), .val (.ref a2), .val (.int 0)]) (S' := [.int 0, .int 0]) rfl ?_
          refine wp_icf C (M0 hw) d0_293 (XT.ii_ne_f (by decide)) ?_
          refine wp_seg C (M0 hw) [(.iconst 1, 1), (.goto 4, 3)] (by decide +kernel) (pc' := 301) (L' := [.val (.int a), .val (.int c), .val (.int s), .val (.long g), .second, .val (.int f), .val (.long (Int64.ofNat N)), .second, .val (.long (Int64.ofNat j0)), .second, .val (.long (Int64.ofNat j1)), .second, .val (.int sb), .val (.int (Int32.ofNat q)), .val (.int 2), .val (.long (((1 : Int64) <<< ((Int32.toInt64 (Int32.ofNat q)) &&& 63)) - (1 : Int64))), .second, .val (.long (Int64.ofNat t0)), .second, .val (.long (Int64.ofNat t1)), .second, .val (.long (Int64.ofNat t2)), .second, .val (.ref a1), .val (.ref a2), .val (.int 0)]) (S' := [.int 1]) rfl ?_
          exact wp_end C (M0 hw) d0_301
      · refine wp_seg C (M0 hw) [(.iload 14, 2)] (by decide +kernel) (pc' := 216) (L' := [.val (.int a), .val (.int c), .val (.int s), .val (.long g), .second, .val (.int f), .val (.long (Int64.ofNat N)), .second, .val (.long (Int64.ofNat j0)), .second, .val (.long (Int64.ofNat j1)), .second, .val (.int sb), .val (.int (Int32.ofNat q)), .val (.int 3), .val (.long (((1 : Int64) <<< ((Int32.toInt64 (Int32.ofNat q)) &&& 63)) - (1 : Int64))), .second, .val (.long (Int64.ofNat t0)), .second, .val (.long (Int64.ofNat t1)), .second, .val (.long (Int64.ofNat t2)), .second, .val (.ref a1), .val (.ref a2), .unset]) (S' := [.int 3]) rfl ?_
        refine wp_ift C (M0 hw) d0_216 (XT.i0_gt_t (by decide)) (pc' := 233) (by decide) ?_
        refine wp_seg C (M0 hw) [(.iload 14, 2), (.iconst 1, 1)] (by decide +kernel) (pc' := 236) (L' := [.val (.int a), .val (.int c), .val (.int s), .val (.long g), .second, .val (.int f), .val (.long (Int64.ofNat N)), .second, .val (.long (Int64.ofNat j0)), .second, .val (.long (Int64.ofNat j1)), .second, .val (.int sb), .val (.int (Int32.ofNat q)), .val (.int 3), .val (.long (((1 : Int64) <<< ((Int32.toInt64 (Int32.ofNat q)) &&& 63)) - (1 : Int64))), .second, .val (.long (Int64.ofNat t0)), .second, .val (.long (Int64.ofNat t1)), .second, .val (.long (Int64.ofNat t2)), .second, .val (.ref a1), .val (.ref a2), .unset]) (S' := [.int 1, .int 3]) rfl ?_
        refine wp_ict C (M0 hw) d0_236 (XT.ii_gt_t (by decide)) (pc' := 253) (by decide) ?_
        refine wp_seg C (M0 hw) [(.iload 14, 2), (.iconst 2, 1)] (by decide +kernel) (pc' := 256) (L' := [.val (.int a), .val (.int c), .val (.int s), .val (.long g), .second, .val (.int f), .val (.long (Int64.ofNat N)), .second, .val (.long (Int64.ofNat j0)), .second, .val (.long (Int64.ofNat j1)), .second, .val (.int sb), .val (.int (Int32.ofNat q)), .val (.int 3), .val (.long (((1 : Int64) <<< ((Int32.toInt64 (Int32.ofNat q)) &&& 63)) - (1 : Int64))), .second, .val (.long (Int64.ofNat t0)), .second, .val (.long (Int64.ofNat t1)), .second, .val (.long (Int64.ofNat t2)), .second, .val (.ref a1), .val (.ref a2), .unset]) (S' := [.int 2, .int 3]) rfl ?_
        refine wp_ict C (M0 hw) d0_256 (XT.ii_gt_t (by decide)) (pc' := 273) (by decide) ?_
        refine wp_seg C (M0 hw) [(.iconst 1, 1), (.goto 4, 3), (.istore 25, 2)] (by decide +kernel) (pc' := 280) (L' := [.val (.int a), .val (.int c), .val (.int s), .val (.long g), .second, .val (.int f), .val (.long (Int64.ofNat N)), .second, .val (.long (Int64.ofNat j0)), .second, .val (.long (Int64.ofNat j1)), .second, .val (.int sb), .val (.int (Int32.ofNat q)), .val (.int 3), .val (.long (((1 : Int64) <<< ((Int32.toInt64 (Int32.ofNat q)) &&& 63)) - (1 : Int64))), .second, .val (.long (Int64.ofNat t0)), .second, .val (.long (Int64.ofNat t1)), .second, .val (.long (Int64.ofNat t2)), .second, .val (.ref a1), .val (.ref a2), .val (.int 1)]) (S' := []) rfl ?_
        refine wp_seg C (M0 hw) [(.aload 24, 2), (.aload 23, 2), (.iload 14, 2), (.iload 13, 2)] (by decide +kernel) (pc' := 288) (L' := [.val (.int a), .val (.int c), .val (.int s), .val (.long g), .second, .val (.int f), .val (.long (Int64.ofNat N)), .second, .val (.long (Int64.ofNat j0)), .second, .val (.long (Int64.ofNat j1)), .second, .val (.int sb), .val (.int (Int32.ofNat q)), .val (.int 3), .val (.long (((1 : Int64) <<< ((Int32.toInt64 (Int32.ofNat q)) &&& 63)) - (1 : Int64))), .second, .val (.long (Int64.ofNat t0)), .second, .val (.long (Int64.ofNat t1)), .second, .val (.long (Int64.ofNat t2)), .second, .val (.ref a1), .val (.ref a2), .val (.int 1)]) (S' := [.int (Int32.ofNat q), .int 3, .ref a1, .ref a2]) rfl ?_
        refine wp_invokevirtual C (M0 hw) d0_288 (M5 hw) (Cl := "com/example/limber_sieve/limbersieve/BitArray") (w41 hw) (w42 hw) (w44 hw) (w43 hw) (Or.inl ⟨_, (w44 hw)⟩) (by decide) (b := a2) (List.mem_of_getElem? (i := 1) rfl) (S' := []) [.ref a1, .int 3, .int (Int32.ofNat q)] (lenOf pd5 rfl) rfl (L' := [.val (.ref a2), .val (.ref a1), .val (.int 3), .val (.int (Int32.ofNat q)), .unset, .unset, .unset]) rfl rfl (Rm.law (d := 1) (w := 18) hr hx (Nat.le_of_ble_eq_true rfl) (Nat.le_of_ble_eq_true rfl)) ?_
        refine c_all3 C hw ev0 ev1 ev2 (ix_spec (by omega)) lq0 (ix_spec (by omega)) lq1 (ix_spec (by omega)) lq2 (Meth.caller (M0 hw) d0_288) (List.mem_of_getElem? (i := 1) rfl) (List.mem_of_getElem? (i := 1) rfl) (List.mem_of_getElem? (i := 0) rfl) (List.mem_of_getElem? (i := 2) rfl) ?_
        rw [bi_t trivial]
        refine wp_seg C (M0 hw) [(.iload 25, 2)] (by decide +kernel) (pc' := 293) (L' := [.val (.int a), .val (.int c), .val (.int s), .val (.long g), .second, .val (.int f), .val (.long (Int64.ofNat N)), .second, .val (.long (Int64.ofNat j0)), .second, .val (.long (Int64.ofNat j1)), .second, .val (.int sb), .val (.int (Int32.ofNat q)), .val (.int 3), .val (.long (((1 : Int64) <<< ((Int32.toInt64 (Int32.ofNat q)) &&& 63)) - (1 : Int64))), .second, .val (.long (Int64.ofNat t0)), .second, .val (.long (Int64.ofNat t1)), .second, .val (.long (Int64.ofNat t2)), .second, .val (.ref a1), .val (.ref a2), .val (.int 1)]) (S' := [.int 1, .int 1]) rfl ?_
        refine wp_icf C (M0 hw) d0_293 (XT.ii_ne_f (by decide)) ?_
        refine wp_seg C (M0 hw) [(.iconst 1, 1), (.goto 4, 3)] (by decide +kernel) (pc' := 301) (L' := [.val (.int a), .val (.int c), .val (.int s), .val (.long g), .second, .val (.int f), .val (.long (Int64.ofNat N)), .second, .val (.long (Int64.ofNat j0)), .second, .val (.long (Int64.ofNat j1)), .second, .val (.int sb), .val (.int (Int32.ofNat q)), .val (.int 3), .val (.long (((1 : Int64) <<< ((Int32.toInt64 (Int32.ofNat q)) &&& 63)) - (1 : Int64))), .second, .val (.long (Int64.ofNat t0)), .second, .val (.long (Int64.ofNat t1)), .second, .val (.long (Int64.ofNat t2)), .second, .val (.ref a1), .val (.ref a2), .val (.int 1)]) (S' := [.int 1]) rfl ?_
        exact wp_end C (M0 hw) d0_301
    by_cases hsb : sb = 0
    · refine wp_ift C (M0 hw) d0_204 (XT.i0_eq_t hsb) (pc' := 214) (by decide) ?_
      refine J2 ws1 c1 ⟨s1.1, fun t ht => (s1.2 t ht).trans ?_⟩
      have i0 := ofNat64_inj (a := t) (b := j0) (by omega) (by omega)
      simp [i0, hsb]
    · refine wp_iff C (M0 hw) d0_204 (XT.i0_eq_f hsb) ?_
      refine wp_seg C (M0 hw) [(.aload 24, 2), (.lload 10, 2)] (by decide +kernel) (pc' := 211) (L' := [.val (.int a), .val (.int c), .val (.int s), .val (.long g), .second, .val (.int f), .val (.long (Int64.ofNat N)), .second, .val (.long (Int64.ofNat j0)), .second, .val (.long (Int64.ofNat j1)), .second, .val (.int sb), .val (.int (Int32.ofNat q)), .val (.int fv), .val (.long (((1 : Int64) <<< ((Int32.toInt64 (Int32.ofNat q)) &&& 63)) - (1 : Int64))), .second, .val (.long (Int64.ofNat t0)), .second, .val (.long (Int64.ofNat t1)), .second, .val (.long (Int64.ofNat t2)), .second, .val (.ref a1), .val (.ref a2), .unset]) (S' := [.long (Int64.ofNat j1), .ref a2]) rfl ?_
      refine wp_invokevirtual C (M0 hw) d0_211 (M4 hw) (Cl := "com/example/limber_sieve/limbersieve/BitArray") (w23 hw) (w24 hw) (w26 hw) (w25 hw) (Or.inl ⟨_, (w26 hw)⟩) (by decide) (b := a2) (List.mem_of_getElem? (i := 1) rfl) (S' := []) [.long (Int64.ofNat j1)] (lenOf pd4 rfl) rfl (L' := [.val (.ref a2), .val (.long (Int64.ofNat j1)), .second, .unset, .unset, .unset]) rfl rfl (Rm.law (d := 1) (w := 17) hr hx (Nat.le_of_ble_eq_true rfl) (Nat.le_of_ble_eq_true rfl)) ?_
      refine c_set C hw (fun q => by rw [Int64.lt_iff_toInt_lt, toInt_ofNat64 (by omega)] at q; have q2 : (j1 : Int) < 0 := q; omega) (by rw [Int64.lt_iff_toInt_lt, toInt_ofNat64 (by omega), toInt_ofNat64 (by omega)]; omega) (ix_spec (by omega)) (by rw [s1.1]; omega) (one_spec (by omega)) (Meth.caller (M0 hw) d0_211) (Rm.law (d := 3) (w := 50) hr hx (Nat.le_of_ble_eq_true rfl) (Nat.le_of_ble_eq_true rfl)) fun c2 => ?_
      have s2 := says_set hN2 hj1 s1
      generalize ws1.set (j1 / 64) (ws1.getD (j1 / 64) 0 ||| ((1 : Int64) <<< ((Int32.toInt64 (Int64.toInt32 (Int64.ofNat j1))) &&& 63))) = ws2 at s2
      refine J2 ws2 c2 ⟨s2.1, fun t ht => (s2.2 t ht).trans ?_⟩
      have i0 := ofNat64_inj (a := t) (b := j0) (by omega) (by omega)
      have i1 := ofNat64_inj (a := t) (b := j1) (by omega) (by omega)
      simp [i0, i1, hsb]
  by_cases hb1 : ((XT.ushr a (24 : Int32)) &&& (1 : Int32)) = 0
  · refine wp_ift C (M0 hw) d0_44 (XT.i0_eq_t hb1) (pc' := 51) (by decide) ?_
    refine wp_seg C (M0 hw) [(.iconst 0, 1)] (by decide +kernel) (pc' := 52) (L' := [.val (.int a), .val (.int c), .val (.int s), .val (.long g), .second, .val (.int f), .val (.long (Int64.ofNat N)), .second, .val (.long (Int64.ofNat j0)), .second, .val (.long (Int64.ofNat j1)), .second, .unset, .unset, .unset, .unset, .unset, .unset, .unset, .unset, .unset, .unset, .unset, .unset, .unset, .unset]) (S' := [.int 0]) rfl ?_
    exact J1 _
  · refine wp_iff C (M0 hw) d0_44 (XT.i0_eq_f hb1) ?_
    refine wp_seg C (M0 hw) [(.iconst 1, 1), (.goto 4, 3)] (by decide +kernel) (pc' := 52) (L' := [.val (.int a), .val (.int c), .val (.int s), .val (.long g), .second, .val (.int f), .val (.long (Int64.ofNat N)), .second, .val (.long (Int64.ofNat j0)), .second, .val (.long (Int64.ofNat j1)), .second, .unset, .unset, .unset, .unset, .unset, .unset, .unset, .unset, .unset, .unset, .unset, .unset, .unset, .unset]) (S' := [.int 1]) rfl ?_
    exact J1 _
def Pst (av : Array Value) (U : State) : Prop := ∃ (a : Int32) (c : Int32) (s : Int32) (g : Int64) (f : Int32), av = #[.int a, .int c, .int s, .long g, .int f]
theorem met_1 (l : Launch) : MetFree l x (head1 (Jvm.Cond.code x code maxLocals ret :: tables_1) room_1) Pst (fun _ _ _ _ _ => True) (fun _ U o U' => Left true room_1 U o U') :=
  start_wp (EL := []) (strict := true) (by decide +kernel) Pst (fun _ _ _ => EW.nil) (fun a s _ p hp => nomatch hp) fun κ C hr _ _ hx hw hP => by
    obtain ⟨a, c, s, g, f, ha⟩ := hP
    refine ⟨[.val (.int a), .val (.int c), .val (.int s), .val (.long g), .second, .val (.int f), .unset, .unset, .unset, .unset, .unset, .unset, .unset, .unset, .unset, .unset, .unset, .unset, .unset, .unset, .unset, .unset, .unset, .unset, .unset, .unset], ?_, rfl, law_wp C hw hr hx a c s g f⟩
    rw [ha]; rfl
set_option maxRecDepth 65536 in
set_option maxHeartbeats 40000000 in
theorem comes_1 {Post : Tables → Env → Array Value → State → Outcome → State → Prop} (hpost : ∀ tb e args s v u, (limb_1_1.after args s (.returned v) u = true ∧ limb_1_2.after args s (.returned v) u = true ∧ True) → Jvm.D.Framed s (.returned v) u (Jvm.fieldLocs frame_1_writes args s ++ Jvm.arrayLocs frame_1_arrays args s ++ Jvm.staticLocs frame_1_statics s) 16 128 → Post tb e args s (.returned v) u) :
    Jvm.D.ArmFor flags0 classFile x code maxLocals ret World_1 tables_1 room_1 Calls_1 rest_1 Pre_1 Post := by
  intro l hfl _ _ p e ha hc hk s m args below hf hA hF happ hP
  obtain ⟨hcalls, hrest, hpre⟩ := hP
  obtain ⟨-, -, -, hnamed, -, -, -, hat⟩ := (Spec.applies_iff hf).mp happ
  obtain ⟨hg, hn⟩ := and_e (Cond.before_iff.mp (show (Jvm.Cond.and given_1 narrow_1).before args s = true from hpre))
  obtain ⟨g0, h1⟩ := and_e hg
  obtain ⟨g1, h2⟩ := and_e h1
  obtain ⟨g2, h3⟩ := and_e h2
  obtain ⟨g3, h4⟩ := and_e h3
  obtain ⟨g4, h5⟩ := and_e h4
  obtain ⟨w0_, w1_, w2_, w3_, w4_, rfl⟩ : ∃ w0_ w1_ w2_ w3_ w4_ : Value, args = #[w0_, w1_, w2_, w3_, w4_] := by
    have hs : args.size = 5 := by simpa [Cond.value, given_1] using g0
    obtain ⟨L⟩ := args
    match L, hs with
    | [w0_, w1_, w2_, w3_, w4_], _ => exact ⟨w0_, w1_, w2_, w3_, w4_, rfl⟩
  obtain ⟨i0_, e0_⟩ := is_v g1
  obtain rfl : w0_ = (.int i0_) := Option.some.inj e0_
  obtain ⟨i1_, e1_⟩ := is_v g2
  obtain rfl : w1_ = (.int i1_) := Option.some.inj e1_
  obtain ⟨i2_, e2_⟩ := is_v g3
  obtain rfl : w2_ = (.int i2_) := Option.some.inj e2_
  obtain ⟨i3_, e3_⟩ := isL_v g4
  obtain rfl : w3_ = (.long i3_) := Option.some.inj e3_
  obtain ⟨i4_, e4_⟩ := is_v h5
  obtain rfl : w4_ = (.int i4_) := Option.some.inj e4_
  obtain ⟨n, o, h1, h2, h3, rfl, q1, q2, q3⟩ := met_1 l p e ha hc hk s m _ below hf ((Spec.applies_iff_loose hf).mp happ).1 ⟨i0_, i1_, i2_, i3_, i4_, rfl⟩ trivial
  refine ⟨n, _, h1, h2, h3, hpost _ _ _ _ _ _ ⟨Cond.after_iff.mpr rfl, Cond.after_iff.mpr (eq_i res_at (Term.int_eval (1)) rfl), trivial⟩ ⟨⟨_, rfl⟩, q2 rfl, q3⟩⟩
theorem main_1_1 : Claimed_1_1 := comes_1 fun _ _ _ _ _ _ h hF => ⟨h.1, hF⟩
theorem main_1_2 : Claimed_1_2 := comes_1 fun _ _ _ _ _ _ h hF => ⟨h.2.1, hF⟩
end Jvm.Pilot.@@N@@
namespace Jvm.Pilot.@@N@@
open Jvm Jvm.ClassFile Sem Op Lib Jvm.Free Jvm.Stand Jvm.Pilot.@@N@@.Jvm.D
/-! MADE BY PROGRAM (witnessworld.py) out of the Statement's table words and the real class files: 14 classes; the members and pool entries that the words name. The judged class is class 1, her method 1. -/
namespace start1
open Jvm.ClassFile
def u (s : String) : CpInfo := .utf8 (stringToUtf16 s)
/-- a pool by its gaps: so many unusable entries, then the entry; so many at the end -/
def gap : Nat → List CpInfo → List CpInfo
  | 0, r => r
  | n + 1, r => .unusable :: gap n r
def poolList (es : List (Nat × CpInfo)) (last : Nat) : List CpInfo := es.foldr (fun e r => gap e.1 (e.2 :: r)) (gap last [])
def pool (es : List (Nat × CpInfo)) (last : Nat) : Array CpInfo := ⟨poolList es last⟩
def fileOf (pool : Array CpInfo) (this : Nat) (attrs : Array Attribute := #[]) (ms : Array MethodInfo := #[]) (fl : Nat := 33) (sup : Nat := 0) (ifs : Array Nat := #[]) (fds : Array FieldInfo := #[]) : ClassFile where
  minorVersion := 0
  majorVersion := 65
  constantPool := pool
  accessFlags := fl
  thisClass := this
  superClass := sup
  interfaces := ifs
  fields := fds
  methods := ms
  attributes := attrs
def plain (name : String) (sup : Option ClassId) : Class where
  name := name
  kind := .ordinary
  loader := none
  accessFlags := 33
  super := sup
  interfaces := #[]
  cf := none
  fields := #[]
  methods := #[]
  instanceTypes := #[]
  staticTypes := #[]
  resolved := #[]
  callSites := []
  init := .initialized
  statics := none
  mirror := none

def pool0 : Array CpInfo := pool [(5, u "<init>"), (0, u "()V"), (1, .class_ 10), (1, u "java/lang/Object")] 113

def k0c0 : Code := { maxStack := 0, maxLocals := 1, code := object_method_1_code, exceptionTable := #[], attributes := #[] }
def k0m0 : Method := { name := "<init>", desc := "()V", sig := { parameters := [], returnType := none }, accessFlags := 1, code := some k0c0 }
/-- java/lang/Object -/
def k0 : Class := { plain "java/lang/Object" none with
  accessFlags := 33
  interfaces := #[]
  cf := some (fileOf pool0 8 #[] #[{ accessFlags := 1, nameIndex := 5, descriptorIndex := 6, attributes := #[] }] 33 0 #[] #[])
  fields := #[]
  methods := #[k0m0]
  instanceTypes := #[]
  staticTypes := #[]
  resolved := Array.replicate 124 none
  statics := none }

def pool1 : Array CpInfo := pool [(2, .class_ 4), (1, u "java/lang/Object"), (0, u "<init>"), (0, u "()V"), (0, .integer 2147483647), (0, .methodref 9 10), (0, .class_ 11), (0, .nameAndType 12 13), (0, u "com/example/limber_sieve/limbersieve/BitArrayAllSetPinLaw"), (0, u "pick"), (0, u "(IJJJ)J"), (0, .long 18446744073709551615), (1, .class_ 17), (0, u "com/example/limber_sieve/limbersieve/BitArray"), (0, .methodref 16 19), (0, .nameAndType 5 20), (0, u "(J)V"), (0, .methodref 16 22), (0, .nameAndType 23 20), (0, u "set"), (0, .methodref 9 25), (0, .nameAndType 26 27), (0, u "hit"), (0, u "(JJJZ)Z"), (0, .methodref 16 29), (0, .nameAndType 30 31), (0, u "allSet"), (0, u "([JII)Z"), (2, u "law"), (0, u "(IIIJI)Z")] 5

def k1m0 : Method := { name := "<init>", desc := "()V", sig := { parameters := [], returnType := none }, accessFlags := 1, code := none }
def k1c1 : Code := { maxStack := 8, maxLocals := 26, code := code, exceptionTable := #[], attributes := #[] }
def k1m1 : Method := { name := "law", desc := "(IIIJI)Z", sig := { parameters := [.int, .int, .int, .long, .int], returnType := some .boolean }, accessFlags := 9, code := some k1c1 }
def k1c2 : Code := { maxStack := 4, maxLocals := 8, code := method_3_code, exceptionTable := #[], attributes := #[] }
def k1m2 : Method := { name := "pick", desc := "(IJJJ)J", sig := { parameters := [.int, .long, .long, .long], returnType := some .long }, accessFlags := 10, code := some k1c2 }
def k1c3 : Code := { maxStack := 4, maxLocals := 7, code := method_4_code, exceptionTable := #[], attributes := #[] }
def k1m3 : Method := { name := "hit", desc := "(JJJZ)Z", sig := { parameters := [.long, .long, .long, .boolean], returnType := some .boolean }, accessFlags := 10, code := some k1c3 }
/-- com/example/limber_sieve/limbersieve/BitArrayAllSetPinLaw -/
def k1 : Class := { plain "com/example/limber_sieve/limbersieve/BitArrayAllSetPinLaw" (some 0) with
  accessFlags := 49
  interfaces := #[]
  cf := some (fileOf pool1 9 #[] #[{ accessFlags := 1, nameIndex := 5, descriptorIndex := 6, attributes := #[] }, { accessFlags := 9, nameIndex := 34, descriptorIndex := 35, attributes := #[] }, { accessFlags := 10, nameIndex := 12, descriptorIndex := 13, attributes := #[] }, { accessFlags := 10, nameIndex := 26, descriptorIndex := 27, attributes := #[] }] 49 2 #[] #[])
  fields := #[]
  methods := #[k1m0, k1m1, k1m2, k1m3]
  instanceTypes := #[]
  staticTypes := #[]
  resolved := Array.replicate 41 none
  statics := none }

def pool2 : Array CpInfo := pool [(1, .class_ 2), (0, u "com/example/limber_sieve/limbersieve/Cells"), (0, .class_ 4), (0, u "java/lang/Object")] 20

/-- com/example/limber_sieve/limbersieve/Cells -/
def k2 : Class := { plain "com/example/limber_sieve/limbersieve/Cells" (some 0) with
  accessFlags := 1536
  interfaces := #[]
  cf := some (fileOf pool2 1 #[] #[] 1536 3 #[] #[])
  fields := #[]
  methods := #[]
  instanceTypes := #[]
  staticTypes := #[]
  resolved := Array.replicate 25 none
  statics := none }

def pool3 : Array CpInfo := pool [(3, .class_ 4), (0, u "com/example/limber_sieve/limbersieve/BitArray"), (0, .methodref 6 7), (0, .class_ 8), (0, .nameAndType 9 10), (0, u "java/lang/Object"), (0, u "<init>"), (0, u "()V"), (0, .long 137438952896), (10, .fieldref 3 23), (0, .nameAndType 24 25), (0, u "length"), (0, u "J"), (0, .long 63), (1, .fieldref 3 29), (0, .nameAndType 30 31), (0, u "words"), (0, u "[J"), (0, .fieldref 3 33), (0, .nameAndType 34 25), (0, u "setCount"), (30, .methodref 66 67), (0, .class_ 68), (0, .nameAndType 69 70), (0, u "java/util/Objects"), (0, u "checkIndex"), (0, u "(JJ)J"), (25, .class_ 97), (0, u "com/example/limber_sieve/limbersieve/Cells"), (0, u "MAX_WORDS"), (0, u "I"), (2, u "MAX_LENGTH"), (0, u "(J)V"), (14, u "allSet"), (0, u "([JII)Z"), (2, u "set")] 35

def k3c0 : Code := { maxStack := 5, maxLocals := 3, code := prog_2_method_1_code, exceptionTable := #[], attributes := #[] }
def k3m0 : Method := { name := "<init>", desc := "(J)V", sig := { parameters := [.long], returnType := none }, accessFlags := 0, code := some k3c0 }
def k3c1 : Code := { maxStack := 6, maxLocals := 7, code := prog_2_method_9_code, exceptionTable := #[], attributes := #[] }
def k3m1 : Method := { name := "allSet", desc := "([JII)Z", sig := { parameters := [(.array .long), .int, .int], returnType := some .boolean }, accessFlags := 1, code := some k3c1 }
def k3c2 : Code := { maxStack := 6, maxLocals := 6, code := prog_2_method_11_code, exceptionTable := #[], attributes := #[] }
def k3m2 : Method := { name := "set", desc := "(J)V", sig := { parameters := [.long], returnType := none }, accessFlags := 1, code := some k3c2 }
/-- com/example/limber_sieve/limbersieve/BitArray -/
def k3 : Class := { plain "com/example/limber_sieve/limbersieve/BitArray" (some 0) with
  accessFlags := 32
  interfaces := #[2]
  cf := some (fileOf pool3 3 #[] #[{ accessFlags := 0, nameIndex := 9, descriptorIndex := 103, attributes := #[] }, { accessFlags := 1, nameIndex := 118, descriptorIndex := 119, attributes := #[] }, { accessFlags := 1, nameIndex := 122, descriptorIndex := 103, attributes := #[] }] 32 6 #[96] #[{ accessFlags := 24, nameIndex := 98, descriptorIndex := 99, attributes := #[] }, { accessFlags := 24, nameIndex := 102, descriptorIndex := 25, attributes := #[] }, { accessFlags := 18, nameIndex := 24, descriptorIndex := 25, attributes := #[] }, { accessFlags := 18, nameIndex := 30, descriptorIndex := 31, attributes := #[] }, { accessFlags := 2, nameIndex := 34, descriptorIndex := 25, attributes := #[] }])
  fields := #[{ name := "MAX_WORDS", type := .int, accessFlags := 24, slot := 0, constantValue := 0 }, { name := "MAX_LENGTH", type := .long, accessFlags := 24, slot := 1, constantValue := 0 }, { name := "length", type := .long, accessFlags := 18, slot := 0, constantValue := 0 }, { name := "words", type := (.array .long), accessFlags := 18, slot := 1, constantValue := 0 }, { name := "setCount", type := .long, accessFlags := 2, slot := 2, constantValue := 0 }]
  methods := #[k3m0, k3m1, k3m2]
  instanceTypes := #[.long, (.array .long), .long]
  staticTypes := #[.int, .long]
  resolved := Array.replicate 158 none
  statics := none }

def pool4 : Array CpInfo := pool [(2, .class_ 4), (1, u "java/lang/Object"), (0, u "<init>"), (0, u "()V"), (35, .class_ 44), (1, u "java/util/Objects"), (61, .class_ 108), (1, u "jdk/internal/util/Preconditions"), (0, u "checkIndex"), (8, .methodref 106 119), (0, .nameAndType 109 120), (0, u "(JJLjava/util/function/BiFunction;)J"), (58, u "(JJ)J")] 4

def k4m0 : Method := { name := "<init>", desc := "()V", sig := { parameters := [], returnType := none }, accessFlags := 2, code := none }
def k4c1 : Code := { maxStack := 5, maxLocals := 4, code := jdk_31_method_20_code, exceptionTable := #[], attributes := #[] }
def k4m1 : Method := { name := "checkIndex", desc := "(JJ)J", sig := { parameters := [.long, .long], returnType := some .long }, accessFlags := 9, code := some k4c1 }
/-- java/util/Objects -/
def k4 : Class := { plain "java/util/Objects" (some 0) with
  accessFlags := 49
  interfaces := #[]
  cf := some (fileOf pool4 42 #[] #[{ accessFlags := 2, nameIndex := 5, descriptorIndex := 6, attributes := #[] }, { accessFlags := 9, nameIndex := 109, descriptorIndex := 179, attributes := #[] }] 49 2 #[] #[])
  fields := #[]
  methods := #[k4m0, k4m1]
  instanceTypes := #[]
  staticTypes := #[]
  resolved := Array.replicate 184 none
  statics := none }

def pool5 : Array CpInfo := pool [(2, .class_ 4), (1, u "java/lang/Object"), (0, u "<init>"), (0, u "()V"), (17, .class_ 26), (1, u "jdk/internal/util/Preconditions"), (6, u "checkIndex"), (21, .class_ 56), (0, u "jdk/internal/util/Preconditions$4"), (57, .class_ 115), (0, u "jdk/internal/util/Preconditions$1"), (7, u "SIOOBE_FORMATTER"), (0, u "Ljava/util/function/BiFunction;"), (0, .class_ 126), (0, u "jdk/internal/util/Preconditions$2"), (3, u "AIOOBE_FORMATTER"), (0, .class_ 132), (0, u "jdk/internal/util/Preconditions$3"), (3, u "IOOBE_FORMATTER"), (48, u "(JJLjava/util/function/BiFunction;)J")] 8

def k5m0 : Method := { name := "<init>", desc := "()V", sig := { parameters := [], returnType := none }, accessFlags := 1, code := none }
def k5c1 : Code := { maxStack := 5, maxLocals := 5, code := jdk_41_method_14_code, exceptionTable := #[], attributes := #[] }
def k5m1 : Method := { name := "checkIndex", desc := "(JJLjava/util/function/BiFunction;)J", sig := { parameters := [.long, .long, (.object "java/util/function/BiFunction")], returnType := some .long }, accessFlags := 9, code := some k5c1 }
/-- jdk/internal/util/Preconditions -/
def k5 : Class := { plain "jdk/internal/util/Preconditions" (some 0) with
  accessFlags := 33
  interfaces := #[]
  cf := some (fileOf pool5 24 #[.nestMembers #[55, 131, 125, 114]] #[{ accessFlags := 1, nameIndex := 5, descriptorIndex := 6, attributes := #[] }, { accessFlags := 9, nameIndex := 33, descriptorIndex := 185, attributes := #[] }] 33 2 #[] #[{ accessFlags := 25, nameIndex := 123, descriptorIndex := 124, attributes := #[] }, { accessFlags := 25, nameIndex := 130, descriptorIndex := 124, attributes := #[] }, { accessFlags := 25, nameIndex := 136, descriptorIndex := 124, attributes := #[] }])
  fields := #[{ name := "SIOOBE_FORMATTER", type := (.object "java/util/function/BiFunction"), accessFlags := 25, slot := 0, constantValue := 0 }, { name := "AIOOBE_FORMATTER", type := (.object "java/util/function/BiFunction"), accessFlags := 25, slot := 1, constantValue := 0 }, { name := "IOOBE_FORMATTER", type := (.object "java/util/function/BiFunction"), accessFlags := 25, slot := 2, constantValue := 0 }]
  methods := #[k5m0, k5m1]
  instanceTypes := #[]
  staticTypes := #[(.object "java/util/function/BiFunction"), (.object "java/util/function/BiFunction"), (.object "java/util/function/BiFunction")]
  resolved := Array.replicate 194 none
  statics := none }

def pool6 : Array CpInfo := pool [(1, u "java/lang/Cloneable"), (0, .class_ 1), (0, u "java/lang/Object"), (0, .class_ 3)] 3

/-- java/lang/Cloneable -/
def k6 : Class := { plain "java/lang/Cloneable" (some 0) with
  accessFlags := 1537
  interfaces := #[]
  cf := some (fileOf pool6 2 #[] #[] 1537 4 #[] #[])
  fields := #[]
  methods := #[]
  instanceTypes := #[]
  staticTypes := #[]
  resolved := Array.replicate 8 none
  statics := none }

def pool7 : Array CpInfo := pool [(1, u "java/io/Serializable"), (0, .class_ 1), (0, u "java/lang/Object"), (0, .class_ 3)] 3

/-- java/io/Serializable -/
def k7 : Class := { plain "java/io/Serializable" (some 0) with
  accessFlags := 1537
  interfaces := #[]
  cf := some (fileOf pool7 2 #[] #[] 1537 4 #[] #[])
  fields := #[]
  methods := #[]
  instanceTypes := #[]
  staticTypes := #[]
  resolved := Array.replicate 8 none
  statics := none }

/-- the primitive byte -/
def k8 : Class := { plain "byte" none with kind := .primitive 'B', accessFlags := 0x411 }
/-- [B -/
def k9 : Class := { plain "[B" (some 0) with kind := .array 8 .byte, interfaces := #[6, 7], accessFlags := 1041 }

/-- the primitive int -/
def k10 : Class := { plain "int" none with kind := .primitive 'I', accessFlags := 0x411 }
/-- [I -/
def k11 : Class := { plain "[I" (some 0) with kind := .array 10 .int, interfaces := #[6, 7], accessFlags := 1041 }

/-- the primitive long -/
def k12 : Class := { plain "long" none with kind := .primitive 'J', accessFlags := 0x411 }
/-- [J -/
def k13 : Class := { plain "[J" (some 0) with kind := .array 12 .long, interfaces := #[6, 7], accessFlags := 1041 }

def heap : Heap := #[]
def classes : Array Class := #[k0, k1, k2, k3, k4, k5, k6, k7, k8, k9, k10, k11, k12, k13]
def interned : List (Array UInt16 × Addr) := []
def slotsUsed : Nat := 0
def theMethod : MethodId := ⟨1, 1⟩
def args0 : Array Value := #[.int 5, .int 6, .int 7, .long 8, .int 1]
def aboutOver (below : List Frame) : State where
  vm := { classes := classes, interned := interned.toArray }
  heap := heap
  slotsUsed := slotsUsed
  threads := #[{ frames := .invoking theMethod args0 :: below }]
def below0 : List Frame := [.native { method := ⟨0, 0⟩, args := #[] }]
def about1 : State := aboutOver below0
def p0 : Program := .bare "" "" ""
def e0 : Env := launch0.env 0 0 0
theorem w_frames : about1.frames = Frame.invoking theMethod args0 :: below0 := rfl
set_option maxRecDepth 65536 in
theorem w_args : argsFit about1.vm theMethod args0 = true := by decide +kernel
set_option maxRecDepth 65536 in
theorem w_heap : heapFits about1 = true := by decide +kernel
set_option maxRecDepth 65536 in
theorem w_runnable : about1.curStatus? = some .runnable := by decide +kernel
set_option maxRecDepth 65536 in
theorem w_alone : about1.alone = true := by decide +kernel
set_option maxRecDepth 65536 in
theorem w_named : about1.methodNamed? x = some theMethod := by decide +kernel
set_option maxRecDepth 65536 in
theorem w_hears : about1.hears theMethod below0 = true := by decide +kernel
set_option maxRecDepth 65536 in
theorem w_ripe : about1.ripe theMethod args0 below0 = true := by decide +kernel
theorem w_running : about1.status = .running := rfl
set_option maxRecDepth 65536 in
theorem w_room : about1.hasRoom e0.platform room_1 = true :=
  launch0.hasRoom_least _ room_1 (by decide +kernel) (by decide +kernel) (by decide +kernel) (by decide +kernel) (by decide +kernel) (by decide +kernel)
theorem allAtoms_all (ts : List Jvm.Cond) (a : Array Jvm.Value) (st : Jvm.State) : (allAtoms ts).before a st = ts.all (fun c => c.before a st) := by
  induction ts with
  | nil => rfl
  | cons c t ih =>
    show (Jvm.Cond.and c (allAtoms t)).before a st = _
    rw [Jvm.Cond.before_and, ih, List.all_cons]
def words1 : List Jvm.Cond := Jvm.Cond.code x code maxLocals ret :: tables_1
/-- a 'code' word, met by the world's own term for the bytes: nothing is compared byte by byte -/
theorem code_word {y : MethodName} {bytes : ByteArray} {mx : Nat} {rt : Option FieldType} {a : Array Value} {s : State} {m : MethodId} {meth : Method} {c : Code} (h1 : s.methodNamed? y = some m) (h2 : s.vm.method? m = some meth) (h3 : meth.code = some c) (h4 : c.code = bytes)
    (h5 : (c.maxLocals == mx && c.exceptionTable.isEmpty && decide (c.maxStack ≤ mostOperands) && decide (meth.sig.returnType = rt) && !meth.locks && decide (parseMethodDescriptor y.desc = some meth.sig)) = true) : (Jvm.Cond.code y bytes mx rt).before a s = true := by
  simp only [Bool.and_eq_true, beq_iff_eq, Bool.not_eq_true', decide_eq_true_eq] at h5
  obtain ⟨⟨⟨⟨⟨g1, g2⟩, g3⟩, g4⟩, g5⟩, g6⟩ := h5
  simp [Cond.before, Cond.holds, Cond.value, h1, h2, h3, h4, g1, g2, g3, g4, g5, g6]
def isCode : Jvm.Cond → Bool
  | .code _ _ _ _ => true
  | _ => false
theorem all_split {L : List Jvm.Cond} {P : Jvm.Cond → Bool} (h1 : L.all (fun c => isCode c || P c) = true) (h2 : ∀ c ∈ L.filter isCode, P c = true) : L.all P = true := by
  refine List.all_eq_true.mpr fun c hc => ?_
  have h := List.all_eq_true.mp h1 c hc
  rcases Bool.eq_false_or_eq_true (isCode c) with hi | hi
  · exact h2 c (List.mem_filter.mpr ⟨hc, hi⟩)
  · simpa [hi] using h
set_option maxRecDepth 65536 in
theorem w_c0 : (Jvm.Cond.code x code maxLocals ret).before args0 about1 = true := code_word (m := ⟨1, 1⟩) (meth := k1m1) (c := k1c1) (by decide +kernel) rfl rfl rfl (by decide +kernel)
set_option maxRecDepth 65536 in
theorem w_c1 : (Jvm.Cond.code ({ cls := "com/example/limber_sieve/limbersieve/BitArrayAllSetPinLaw", name := "pick", desc := "(IJJJ)J" } : Jvm.MethodName) method_3_code (8 : Nat) (Option.some Jvm.ClassFile.FieldType.long)).before args0 about1 = true := code_word (m := ⟨1, 2⟩) (meth := k1m2) (c := k1c2) (by decide +kernel) rfl rfl rfl (by decide +kernel)
set_option maxRecDepth 65536 in
theorem w_c2 : (Jvm.Cond.code ({ cls := "com/example/limber_sieve/limbersieve/BitArray", name := "<init>", desc := "(J)V" } : Jvm.MethodName) prog_2_method_1_code (3 : Nat) (Option.none : Option Jvm.ClassFile.FieldType)).before args0 about1 = true := code_word (m := ⟨3, 0⟩) (meth := k3m0) (c := k3c0) (by decide +kernel) rfl rfl rfl (by decide +kernel)
set_option maxRecDepth 65536 in
theorem w_c3 : (Jvm.Cond.code ({ cls := "java/lang/Object", name := "<init>", desc := "()V" } : Jvm.MethodName) object_method_1_code (1 : Nat) (Option.none : Option Jvm.ClassFile.FieldType)).before args0 about1 = true := code_word (m := ⟨0, 0⟩) (meth := k0m0) (c := k0c0) (by decide +kernel) rfl rfl rfl (by decide +kernel)
set_option maxRecDepth 65536 in
theorem w_c4 : (Jvm.Cond.code ({ cls := "com/example/limber_sieve/limbersieve/BitArray", name := "set", desc := "(J)V" } : Jvm.MethodName) prog_2_method_11_code (6 : Nat) (Option.none : Option Jvm.ClassFile.FieldType)).before args0 about1 = true := code_word (m := ⟨3, 2⟩) (meth := k3m2) (c := k3c2) (by decide +kernel) rfl rfl rfl (by decide +kernel)
set_option maxRecDepth 65536 in
theorem w_c5 : (Jvm.Cond.code ({ cls := "java/util/Objects", name := "checkIndex", desc := "(JJ)J" } : Jvm.MethodName) jdk_31_method_20_code (4 : Nat) (Option.some Jvm.ClassFile.FieldType.long)).before args0 about1 = true := code_word (m := ⟨4, 1⟩) (meth := k4m1) (c := k4c1) (by decide +kernel) rfl rfl rfl (by decide +kernel)
set_option maxRecDepth 65536 in
theorem w_c6 : (Jvm.Cond.code ({ cls := "jdk/internal/util/Preconditions", name := "checkIndex", desc := "(JJLjava/util/function/BiFunction;)J" } : Jvm.MethodName) jdk_41_method_14_code (5 : Nat) (Option.some Jvm.ClassFile.FieldType.long)).before args0 about1 = true := code_word (m := ⟨5, 1⟩) (meth := k5m1) (c := k5c1) (by decide +kernel) rfl rfl rfl (by decide +kernel)
set_option maxRecDepth 65536 in
theorem w_c7 : (Jvm.Cond.code ({ cls := "com/example/limber_sieve/limbersieve/BitArrayAllSetPinLaw", name := "hit", desc := "(JJJZ)Z" } : Jvm.MethodName) method_4_code (7 : Nat) (Option.some Jvm.ClassFile.FieldType.boolean)).before args0 about1 = true := code_word (m := ⟨1, 3⟩) (meth := k1m3) (c := k1c3) (by decide +kernel) rfl rfl rfl (by decide +kernel)
set_option maxRecDepth 65536 in
theorem w_c8 : (Jvm.Cond.code ({ cls := "com/example/limber_sieve/limbersieve/BitArray", name := "allSet", desc := "([JII)Z" } : Jvm.MethodName) prog_2_method_9_code (7 : Nat) (Option.some Jvm.ClassFile.FieldType.boolean)).before args0 about1 = true := code_word (m := ⟨3, 1⟩) (meth := k3m1) (c := k3c1) (by decide +kernel) rfl rfl rfl (by decide +kernel)
def codes1 : List Jvm.Cond := [Jvm.Cond.code x code maxLocals ret, Jvm.Cond.code ({ cls := "com/example/limber_sieve/limbersieve/BitArrayAllSetPinLaw", name := "pick", desc := "(IJJJ)J" } : Jvm.MethodName) method_3_code (8 : Nat) (Option.some Jvm.ClassFile.FieldType.long), Jvm.Cond.code ({ cls := "com/example/limber_sieve/limbersieve/BitArray", name := "<init>", desc := "(J)V" } : Jvm.MethodName) prog_2_method_1_code (3 : Nat) (Option.none : Option Jvm.ClassFile.FieldType), Jvm.Cond.code ({ cls := "java/lang/Object", name := "<init>", desc := "()V" } : Jvm.MethodName) object_method_1_code (1 : Nat) (Option.none : Option Jvm.ClassFile.FieldType), Jvm.Cond.code ({ cls := "com/example/limber_sieve/limbersieve/BitArray", name := "set", desc := "(J)V" } : Jvm.MethodName) prog_2_method_11_code (6 : Nat) (Option.none : Option Jvm.ClassFile.FieldType), Jvm.Cond.code ({ cls := "java/util/Objects", name := "checkIndex", desc := "(JJ)J" } : Jvm.MethodName) jdk_31_method_20_code (4 : Nat) (Option.some Jvm.ClassFile.FieldType.long), Jvm.Cond.code ({ cls := "jdk/internal/util/Preconditions", name := "checkIndex", desc := "(JJLjava/util/function/BiFunction;)J" } : Jvm.MethodName) jdk_41_method_14_code (5 : Nat) (Option.some Jvm.ClassFile.FieldType.long), Jvm.Cond.code ({ cls := "com/example/limber_sieve/limbersieve/BitArrayAllSetPinLaw", name := "hit", desc := "(JJJZ)Z" } : Jvm.MethodName) method_4_code (7 : Nat) (Option.some Jvm.ClassFile.FieldType.boolean), Jvm.Cond.code ({ cls := "com/example/limber_sieve/limbersieve/BitArray", name := "allSet", desc := "([JII)Z" } : Jvm.MethodName) prog_2_method_9_code (7 : Nat) (Option.some Jvm.ClassFile.FieldType.boolean)]
set_option maxRecDepth 65536 in
theorem codes_eq : words1.filter isCode = codes1 := rfl
theorem w_codes : ∀ c ∈ words1.filter isCode, c.before args0 about1 = true := by
  rw [codes_eq]
  intro c hc
  simp only [codes1, List.mem_cons, List.not_mem_nil, or_false] at hc
  rcases hc with rfl | rfl | rfl | rfl | rfl | rfl | rfl | rfl | rfl
  · exact w_c0
  · exact w_c1
  · exact w_c2
  · exact w_c3
  · exact w_c4
  · exact w_c5
  · exact w_c6
  · exact w_c7
  · exact w_c8
set_option maxRecDepth 65536 in
theorem w_t1 : (words1.take 24).all (fun c => isCode c || c.before args0 about1) = true := by decide +kernel
set_option maxRecDepth 65536 in
theorem w_t2 : (words1.drop 24).all (fun c => isCode c || c.before args0 about1) = true := by decide +kernel
theorem w_tables : (allAtoms (Jvm.Cond.code x code maxLocals ret :: tables_1)).before args0 about1 = true := by
  rw [allAtoms_all]
  show words1.all (fun c => c.before args0 about1) = true
  refine all_split ?_ w_codes
  rw [← List.take_append_drop 24 words1, List.all_append, w_t1, w_t2]
  rfl
set_option maxRecDepth 65536 in
theorem w_case : (Jvm.Cond.and given_1 narrow_1).before args0 about1 = true := by decide +kernel
theorem w_applies : (headSpec (Jvm.Cond.code x code maxLocals ret :: tables_1) room_1).applies x e0.platform about1 = true :=
  (Spec.applies_iff w_frames).mpr ⟨w_running, w_runnable, w_alone, w_named, w_hears, w_ripe, w_room, w_tables⟩
theorem atStart : AtStart classFile x code maxLocals ret World_1 tables_1 room_1 Calls_1 rest_1 Pre_1 launch0 p0 e0 about1 theMethod args0 below0 :=
  ⟨lists_1, trivial, launch0.admits_env _ _ _, launch0.least_env, fairChoices_fair.cas, fairChoices_fair.clock, w_frames, w_args, w_heap, w_applies, trivial, trivial, w_case⟩
end start1
theorem witness_1 : WitnessClaimed_1 := ⟨start1.p0, start1.e0, start1.about1, start1.theMethod, start1.args0, start1.below0, start1.atStart⟩
end Jvm.Pilot.@@N@@
