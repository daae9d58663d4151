import JvmDerived
import JvmDerived.Pilot.@@N@@Statement
import JvmDerived.Pilot.@@N@@Code
set_option linter.unusedVariables false
set_option linter.unusedSimpArgs false
@@BLOCK:NumsL.lean.txt@@
namespace Jvm.Pilot.@@N@@
open Jvm Jvm.ClassFile Sem Op Lib Jvm.Free Jvm.Stand Jvm.LawKit Jvm.RoadKit Bundle Jvm.Pilot.@@N@@.Jvm.D
/-! A. runs that leave the heap as it is, from frame to frame -/
section OwnGo
variable {p : Program} {l : Launch} {e : Env} {R : Room} {s : State} {m : MethodId} {args : Array Value} {below : List Frame} {meth : Method} {c : Code} {locs : List Loc} {cells slots : Nat} {h : Heap}
def own_Go (p : Program) (l : Launch) (e : Env) (R : Room) (s : State) (m : MethodId) (args : Array Value) (below : List Frame) (meth : Method) (c : Code) (locs : List Loc) (cells slots : Nat) (h : Heap) (g g' : JFrame) : Prop :=
  ∀ T : State, Stand p l e R s m args below meth c T locs cells slots → T.heap = h → ∃ T' : State, Stand p l e R s m args below meth c T' locs cells slots ∧ T'.heap = h ∧ ∀ t, Steps p.tables e below (T'.setTop g') t → Steps p.tables e below (T.setTop g) t
theorem own_refl (g : JFrame) : own_Go p l e R s m args below meth c locs cells slots h g g := fun T X eT => ⟨T, X, eT, fun _ k => k⟩
theorem own_trans {g g' g'' : JFrame} (A : own_Go p l e R s m args below meth c locs cells slots h g g') (B : own_Go p l e R s m args below meth c locs cells slots h g' g'') : own_Go p l e R s m args below meth c locs cells slots h g g'' := fun T X eT => by
  obtain ⟨T1, X1, e1, k1⟩ := A T X eT
  obtain ⟨T2, X2, e2, k2⟩ := B T1 X1 e1
  exact ⟨T2, X2, e2, fun t k => k1 t (k2 t k)⟩
theorem own_of {g g' : JFrame} (H : ∀ T : State, Stand p l e R s m args below meth c T locs cells slots → ∀ t, Steps p.tables e below (T.setTop g') t → Steps p.tables e below (T.setTop g) t) : own_Go p l e R s m args below meth c locs cells slots h g g' := fun T X eT => ⟨T, X, eT, H T X⟩

/-! B. frames whose references are numbers of a list of addresses -/
abbrev own_F := Nat × List Slot × List Value
/-- the addresses, and the ints that aren't known: '.retAddr k' stands for the k-th of these -/
abbrev own_N := (Nat → Addr) × (Nat → Int32)
def own_v (σ : own_N) : Value → Value
  | .ref k => .ref (σ.1 k)
  | .int v => .int v
  | .long v => .long v
  | .float v => .float v
  | .double v => .double v
  | .null => .null
  | .retAddr k => .int (σ.2 k)
def own_s (σ : own_N) : Slot → Slot
  | .val v => .val (own_v σ v)
  | .unset => .unset
  | .second => .second
def own_f (σ : own_N) (m : MethodId) (F : own_F) : JFrame := mkF m F.1 (F.2.1.map (own_s σ)).toArray (F.2.2.map (own_v σ))
theorem own_v_cat (σ : own_N) (v : Value) : (own_v σ v).category = v.category := by cases v <;> rfl
theorem own_v_ref (σ : own_N) (v : Value) : (own_v σ v).isRef = v.isRef := by cases v <;> rfl
theorem own_at_l (σ : own_N) (m : MethodId) (F : own_F) (k : Nat) {x : Slot} (hk : F.2.1[k]? = some x) : (own_f σ m F).locals[k]? = some (own_s σ x) := by
  show (F.2.1.map (own_s σ)).toArray[k]? = _
  rw [List.getElem?_toArray, List.getElem?_map, hk]; rfl
theorem own_set_l (σ : own_N) (L : List Slot) (k : Nat) (v : Value) : (L.map (own_s σ)).toArray.setIfInBounds k (.val (own_v σ v)) = ((L.set k (.val v)).map (own_s σ)).toArray := by
  rw [List.setIfInBounds_toArray, List.map_set]; rfl

def own_isI : Value → Bool
  | .int _ => true
  | .retAddr _ => true
  | _ => false
theorem own_isI_spec (σ : own_N) {v : Value} (h : own_isI v = true) : ∃ z, own_v σ v = .int z := by
  cases v <;> first | exact ⟨_, rfl⟩ | cases h
def own_geti (L : List Slot) (k : Nat) : Option Value := match L[k]? with
  | some (.val v) => if own_isI v = true then some v else none
  | _ => none
theorem own_geti_spec {L : List Slot} {k : Nat} {v : Value} (h : own_geti L k = some v) : L[k]? = some (.val v) ∧ own_isI v = true := by
  unfold own_geti at h
  split at h
  · rename_i hq
    split at h
    · rename_i hr; cases h; exact ⟨hq, hr⟩
    · cases h
  · cases h
def own_getr (L : List Slot) (k : Nat) : Option Value := match L[k]? with
  | some (.val v) => if v.isRef = true then some v else none
  | _ => none
theorem own_getr_spec {L : List Slot} {k : Nat} {v : Value} (h : own_getr L k = some v) : L[k]? = some (.val v) ∧ v.isRef = true := by
  unfold own_getr at h
  split at h
  · rename_i hq
    split at h
    · rename_i hr; cases h; exact ⟨hq, hr⟩
    · cases h
  · cases h
def own_one : Slot → Bool
  | .unset => true
  | .val w => w.category == 1
  | .second => false
def own_put (L : List Slot) (k : Nat) (v : Value) : Option (List Slot) := match L[k]? with
  | some x => if own_one x = true then some (L.set k (.val v)) else none
  | none => none
theorem own_put_spec {L L' : List Slot} {k : Nat} {v : Value} (h : own_put L k v = some L') : L' = L.set k (.val v) ∧ ∃ x, L[k]? = some x ∧ own_one x = true := by
  unfold own_put at h
  split at h
  · rename_i x hq
    split at h
    · rename_i hr; cases h; exact ⟨rfl, x, hq, hr⟩
    · cases h
  · cases h
theorem own_one_spec (σ : own_N) {x : Slot} (h : own_one x = true) : own_s σ x = .unset ∨ ∃ w, own_s σ x = .val w ∧ w.category = 1 := by
  cases x with
  | unset => exact Or.inl rfl
  | second => cases h
  | val w => exact Or.inr ⟨own_v σ w, rfl, (own_v_cat σ w).trans (beq_iff_eq.mp h)⟩
def own_p1 : List Value → Option (Int32 × List Value)
  | .int x :: r => some (x, r)
  | _ => none
theorem own_p1_spec {S : List Value} {q : Int32 × List Value} (h : own_p1 S = some q) : S = .int q.1 :: q.2 := by
  unfold own_p1 at h
  split at h
  · cases h; rfl
  · cases h
def own_pi : List Value → Option (Value × List Value)
  | x :: r => if own_isI x = true then some (x, r) else none
  | [] => none
theorem own_pi_spec {S : List Value} {q : Value × List Value} (h : own_pi S = some q) : S = q.1 :: q.2 ∧ own_isI q.1 = true := by
  unfold own_pi at h
  split at h
  · split at h
    · rename_i hr; cases h; exact ⟨rfl, hr⟩
    · cases h
  · cases h
def own_pd : List Value → Option (Value × List Value)
  | x :: r => if x.category = 1 then some (x, r) else none
  | [] => none
theorem own_pd_spec {S : List Value} {q : Value × List Value} (h : own_pd S = some q) : S = q.1 :: q.2 ∧ q.1.category = 1 := by
  unfold own_pd at h
  split at h
  · split at h
    · rename_i hr; cases h; exact ⟨rfl, hr⟩
    · cases h
  · cases h
def own_p2 : List Value → Option (Int32 × Int32 × List Value)
  | .int y :: .int x :: r => some (x, y, r)
  | _ => none
theorem own_p2_spec {S : List Value} {q : Int32 × Int32 × List Value} (h : own_p2 S = some q) : S = .int q.2.1 :: .int q.1 :: q.2.2 := by
  unfold own_p2 at h
  split at h
  · cases h; rfl
  · cases h
def own_pr : List Value → Option (Value × List Value)
  | x :: r => if x.isRef = true then some (x, r) else none
  | [] => none
theorem own_pr_spec {S : List Value} {q : Value × List Value} (h : own_pr S = some q) : S = q.1 :: q.2 ∧ q.1.isRef = true := by
  unfold own_pr at h
  split at h
  · split at h
    · rename_i hr; cases h; exact ⟨rfl, hr⟩
    · cases h
  · cases h
def own_same (n : Nat) : Value → Value → Option Bool
  | .null, .null => some true
  | .null, .ref _ => some false
  | .ref _, .null => some false
  | .ref a, .ref b => if a = b then some true else if a < n ∧ b < n then some false else none
  | _, _ => none
def own_inj (σ : own_N) (n : Nat) : Prop := ∀ a b, a < n → b < n → σ.1 a = σ.1 b → a = b
theorem own_same_spec {σ : own_N} {n : Nat} (hi : own_inj σ n) {x y : Value} {b : Bool} (h : own_same n x y = some b) : x.isRef = true ∧ y.isRef = true ∧ decide (own_v σ x = own_v σ y) = b := by
  unfold own_same at h
  split at h
  · cases h; exact ⟨rfl, rfl, by simp [own_v]⟩
  · cases h; exact ⟨rfl, rfl, by simp [own_v]⟩
  · cases h; exact ⟨rfl, rfl, by simp [own_v]⟩
  · split at h
    · rename_i hq; cases h; subst hq; exact ⟨rfl, rfl, by simp⟩
    · split at h
      · rename_i hq hr
        cases h
        exact ⟨rfl, rfl, decide_eq_false fun q => hq (hi _ _ hr.1 hr.2 (Value.ref.inj q))⟩
      · cases h
  · cases h
def own_popq (n : Nat) : List Value → Option (Bool × List Value)
  | y :: x :: r => (own_same n x y).map fun b => (b, r)
  | _ => none
theorem own_popq_spec {σ : own_N} {n : Nat} (hi : own_inj σ n) {S : List Value} {q : Bool × List Value} (h : own_popq n S = some q) : ∃ x y, S = y :: x :: q.2 ∧ x.isRef = true ∧ y.isRef = true ∧ decide (own_v σ x = own_v σ y) = q.1 := by
  unfold own_popq at h
  split at h
  · obtain ⟨b, hb, rfl⟩ := Option.map_eq_some_iff.mp h
    obtain ⟨h1, h2, h3⟩ := own_same_spec hi hb
    exact ⟨_, _, rfl, h1, h2, h3⟩
  · cases h
def own_nul : List Value → Option (Bool × List Value)
  | .null :: r => some (true, r)
  | .ref _ :: r => some (false, r)
  | _ => none
def own_jump (pc : Nat) (o : Int) (L : List Slot) (S : List Value) : Option own_F := if 0 ≤ (pc : Int) + o then some (((pc : Int) + o).toNat, L, S) else none
theorem own_jump_spec {pc : Nat} {o : Int} {L : List Slot} {S : List Value} {F : own_F} (h : own_jump pc o L S = some F) : 0 ≤ (pc : Int) + o ∧ F = (((pc : Int) + o).toNat, L, S) := by
  unfold own_jump at h
  split at h
  · rename_i hq; cases h; exact ⟨hq, rfl⟩
  · cases h

/-! C. one step of the plain instructions -/
def own_step (n pc : Nat) (L : List Slot) (S : List Value) : Instr × Nat → Option own_F
  | (.iload_n k, 1) => (own_geti L k.val).map fun v => (pc + 1, L, v :: S)
  | (.iload k, 2) => (own_geti L k).map fun v => (pc + 2, L, v :: S)
  | (.aload_n k, 1) => (own_getr L k.val).map fun v => (pc + 1, L, v :: S)
  | (.aload k, 2) => (own_getr L k).map fun v => (pc + 2, L, v :: S)
  | (.istore_n k, 1) => (own_pi S).bind fun q => (own_put L k.val q.1).map fun L' => (pc + 1, L', q.2)
  | (.istore k, 2) => (own_pi S).bind fun q => (own_put L k q.1).map fun L' => (pc + 2, L', q.2)
  | (.astore_n k, 1) => (own_pr S).bind fun q => (own_put L k.val q.1).map fun L' => (pc + 1, L', q.2)
  | (.astore k, 2) => (own_pr S).bind fun q => (own_put L k q.1).map fun L' => (pc + 2, L', q.2)
  | (.iconst i, 1) => some (pc + 1, L, .int (Int32.ofInt i) :: S)
  | (.bipush i, 2) => some (pc + 2, L, .int (Int8.ofInt i).toInt32 :: S)
  | (.sipush i, 3) => some (pc + 3, L, .int (Int16.ofInt i).toInt32 :: S)
  | (.aconst_null, 1) => some (pc + 1, L, .null :: S)
  | (.iadd, 1) => (own_p2 S).map fun q => (pc + 1, L, .int (q.1 + q.2.1) :: q.2.2)
  | (.isub, 1) => (own_p2 S).map fun q => (pc + 1, L, .int (q.1 - q.2.1) :: q.2.2)
  | (.imul, 1) => (own_p2 S).map fun q => (pc + 1, L, .int (q.1 * q.2.1) :: q.2.2)
  | (.iand, 1) => (own_p2 S).map fun q => (pc + 1, L, .int (q.1 &&& q.2.1) :: q.2.2)
  | (.irem, 1) => (own_p2 S).bind fun q => if q.2.1 = 0 then none else some (pc + 1, L, .int (q.1 % q.2.1) :: q.2.2)
  | (.ior, 1) => (own_p2 S).map fun q => (pc + 1, L, .int (q.1 ||| q.2.1) :: q.2.2)
  | (.ishl, 1) => (own_p2 S).map fun q => (pc + 1, L, .int ((q.1 : Int32) <<< ((q.2.1 : Int32) &&& (31 : Int32))) :: q.2.2)
  | (.dup, 1) => (own_pd S).map fun q => (pc + 1, L, q.1 :: q.1 :: q.2)
  | (.i2s, 1) => (own_p1 S).map fun q => (pc + 1, L, .int q.1.toInt16.toInt32 :: q.2)
  | (.iinc k i, 3) => (own_geti L k).bind fun w => (own_p1 [w]).bind fun v => (own_put L k (.int (v.1 + Int32.ofInt i))).map fun L' => (pc + 3, L', S)
  | (.goto o, 3) => own_jump pc o L S
  | (.ifCond cd o, 3) => (own_p1 S).bind fun q => if ifCond.holds cd q.1 = true then own_jump pc o L q.2 else some (pc + 3, L, q.2)
  | (.if_icmp cd o, 3) => (own_p2 S).bind fun q => if if_icmp.holds cd q.1 q.2.1 = true then own_jump pc o L q.2.2 else some (pc + 3, L, q.2.2)
  | (.if_acmp cd o, 3) => (own_popq n S).bind fun q => if 0 ≤ (pc : Int) + o then some ((if acV cd q.1 = true then ((pc : Int) + o).toNat else pc + 3), L, q.2) else none
  | (.tableswitch df lo hi offs, _) => (own_p1 S).bind fun q => if q.1.toInt < lo ∨ q.1.toInt > hi then own_jump pc df L q.2 else (offs[(q.1.toInt - lo).toNat]?).bind fun o => own_jump pc o L q.2
  | (.ifnull o, 3) => (own_nul S).bind fun q => if q.1 = true then own_jump pc o L q.2 else some (pc + 3, L, q.2)
  | (.ifnonnull o, 3) => (own_nul S).bind fun q => if q.1 = true then some (pc + 3, L, q.2) else own_jump pc o L q.2
  | _ => none
theorem own_step_ok {σ : own_N} {n pc : Nat} {L : List Slot} {S : List Value} {q : Instr × Nat} {F : own_F} (hx : p.tables.exec = Jvm.exec) (hi : own_inj σ n) (hd : decode c.code pc = .ok q) (H : own_step n pc L S q = some F) :
    own_Go p l e R s m args below meth c locs cells slots h (own_f σ m (pc, L, S)) (own_f σ m F) := by
  refine own_of fun T X t kt => ?_
  have hX := X.here
  unfold own_step at H
  split at H
  · obtain ⟨v, hv, rfl⟩ := Option.map_eq_some_iff.mp H
    obtain ⟨hv1, hv2⟩ := own_geti_spec hv
    obtain ⟨z, hz⟩ := own_isI_spec σ hv2
    exact XS.iloadN hX hx rfl hd ((own_at_l σ m (pc, L, S) _ hv1).trans (congrArg (fun w => some (Slot.val w)) hz)) ((congrArg (fun w => Steps p.tables e below (T.setTop (mkF m (pc + 1) (L.map (own_s σ)).toArray (w :: S.map (own_v σ)))) t) hz).mp kt)
  · obtain ⟨v, hv, rfl⟩ := Option.map_eq_some_iff.mp H
    obtain ⟨hv1, hv2⟩ := own_geti_spec hv
    obtain ⟨z, hz⟩ := own_isI_spec σ hv2
    exact XS.iload hX hx rfl hd ((own_at_l σ m (pc, L, S) _ hv1).trans (congrArg (fun w => some (Slot.val w)) hz)) ((congrArg (fun w => Steps p.tables e below (T.setTop (mkF m (pc + 2) (L.map (own_s σ)).toArray (w :: S.map (own_v σ)))) t) hz).mp kt)
  · obtain ⟨v, hv, rfl⟩ := Option.map_eq_some_iff.mp H
    exact XS.aloadN hX hx rfl hd (own_at_l σ m (pc, L, S) _ (own_getr_spec hv).1) ((own_v_ref σ v).trans (own_getr_spec hv).2) kt
  · obtain ⟨v, hv, rfl⟩ := Option.map_eq_some_iff.mp H
    exact XS.aload hX hx rfl hd (own_at_l σ m (pc, L, S) _ (own_getr_spec hv).1) ((own_v_ref σ v).trans (own_getr_spec hv).2) kt
  · replace H := Option.bind_eq_some_iff.mp H
    obtain ⟨q, hq, H⟩ := H
    obtain ⟨L', hL, rfl⟩ := Option.map_eq_some_iff.mp H
    obtain ⟨rfl, x, hx1, hx2⟩ := own_put_spec hL
    obtain ⟨rfl, hr⟩ := own_pi_spec hq
    obtain ⟨z, hz⟩ := own_isI_spec σ hr
    exact XS.istoreN hX hx rfl hd (congrArg (fun w => w :: q.2.map (own_v σ)) hz) (XS.store1 (own_at_l σ m (pc, L, _) _ hx1) (own_one_spec σ hx2) rfl) ((congrArg (fun A => Steps p.tables e below (T.setTop (mkF m (pc + 1) A (q.2.map (own_v σ)))) t) ((congrArg (fun w => (L.map (own_s σ)).toArray.setIfInBounds _ (.val w)) hz.symm).trans (own_set_l σ L _ q.1))).mpr kt)
  · replace H := Option.bind_eq_some_iff.mp H
    obtain ⟨q, hq, H⟩ := H
    obtain ⟨L', hL, rfl⟩ := Option.map_eq_some_iff.mp H
    obtain ⟨rfl, x, hx1, hx2⟩ := own_put_spec hL
    obtain ⟨rfl, hr⟩ := own_pi_spec hq
    obtain ⟨z, hz⟩ := own_isI_spec σ hr
    exact XS.istore hX hx rfl hd (congrArg (fun w => w :: q.2.map (own_v σ)) hz) (XS.store1 (own_at_l σ m (pc, L, _) _ hx1) (own_one_spec σ hx2) rfl) ((congrArg (fun A => Steps p.tables e below (T.setTop (mkF m (pc + 2) A (q.2.map (own_v σ)))) t) ((congrArg (fun w => (L.map (own_s σ)).toArray.setIfInBounds _ (.val w)) hz.symm).trans (own_set_l σ L _ q.1))).mpr kt)
  · replace H := Option.bind_eq_some_iff.mp H
    obtain ⟨q, hq, H⟩ := H
    obtain ⟨L', hL, rfl⟩ := Option.map_eq_some_iff.mp H
    obtain ⟨rfl, x, hx1, hx2⟩ := own_put_spec hL
    obtain ⟨rfl, hr⟩ := own_pr_spec hq
    have hc1 : q.1.category = 1 := by rcases ref_cases hr with hz | ⟨z, hz⟩ <;> rw [hz] <;> rfl
    exact XS.astoreN hX hx rfl hd rfl ((own_v_ref σ q.1).trans hr) (XS.store1 (own_at_l σ m (pc, L, _) _ hx1) (own_one_spec σ hx2) ((own_v_cat σ q.1).trans hc1)) ((congrArg (fun A => Steps p.tables e below (T.setTop (mkF m (pc + 1) A (q.2.map (own_v σ)))) t) (own_set_l σ L _ q.1)).mpr kt)
  · replace H := Option.bind_eq_some_iff.mp H
    obtain ⟨q, hq, H⟩ := H
    obtain ⟨L', hL, rfl⟩ := Option.map_eq_some_iff.mp H
    obtain ⟨rfl, x, hx1, hx2⟩ := own_put_spec hL
    obtain ⟨rfl, hr⟩ := own_pr_spec hq
    have hc1 : q.1.category = 1 := by rcases ref_cases hr with hz | ⟨z, hz⟩ <;> rw [hz] <;> rfl
    exact XS.astore hX hx rfl hd rfl ((own_v_ref σ q.1).trans hr) (XS.store1 (own_at_l σ m (pc, L, _) _ hx1) (own_one_spec σ hx2) ((own_v_cat σ q.1).trans hc1)) ((congrArg (fun A => Steps p.tables e below (T.setTop (mkF m (pc + 2) A (q.2.map (own_v σ)))) t) (own_set_l σ L _ q.1)).mpr kt)
  · cases H; exact XS.iconst hX hx rfl hd kt
  · cases H; exact XS.bipush hX hx rfl hd kt
  · cases H; exact XS.sipush hX hx rfl hd kt
  · cases H; exact XS.aconstNull hX hx rfl hd kt
  · obtain ⟨q, hq, rfl⟩ := Option.map_eq_some_iff.mp H
    obtain rfl := own_p2_spec hq
    exact XS.iadd hX hx rfl hd rfl kt
  · obtain ⟨q, hq, rfl⟩ := Option.map_eq_some_iff.mp H
    obtain rfl := own_p2_spec hq
    exact XS.isub hX hx rfl hd rfl kt
  · obtain ⟨q, hq, rfl⟩ := Option.map_eq_some_iff.mp H
    obtain rfl := own_p2_spec hq
    exact XS.imul hX hx rfl hd rfl kt
  · obtain ⟨q, hq, rfl⟩ := Option.map_eq_some_iff.mp H
    obtain rfl := own_p2_spec hq
    exact XS.iand hX hx rfl hd rfl kt
  · replace H := Option.bind_eq_some_iff.mp H
    obtain ⟨q, hq, H⟩ := H
    obtain rfl := own_p2_spec hq
    split at H
    · cases H
    · rename_i hz; cases H; exact iremM X hx rfl hd rfl hz kt
  · obtain ⟨q, hq, rfl⟩ := Option.map_eq_some_iff.mp H
    obtain rfl := own_p2_spec hq
    exact XS.ior hX hx rfl hd rfl kt
  · obtain ⟨q, hq, rfl⟩ := Option.map_eq_some_iff.mp H
    obtain rfl := own_p2_spec hq
    exact XS.ishl hX hx rfl hd rfl kt
  · obtain ⟨q, hq, rfl⟩ := Option.map_eq_some_iff.mp H
    obtain ⟨rfl, hc1⟩ := own_pd_spec hq
    exact XS.dup hX hx rfl hd rfl ((own_v_cat σ q.1).trans hc1) kt
  · obtain ⟨q, hq, rfl⟩ := Option.map_eq_some_iff.mp H
    obtain rfl := own_p1_spec hq
    exact XS.i2s hX hx rfl hd rfl kt
  · replace H := Option.bind_eq_some_iff.mp H
    obtain ⟨w, hw, H⟩ := H
    replace H := Option.bind_eq_some_iff.mp H
    obtain ⟨v, hv, H⟩ := H
    obtain ⟨L', hL, rfl⟩ := Option.map_eq_some_iff.mp H
    obtain ⟨rfl, x, hx1, hx2⟩ := own_put_spec hL
    obtain ⟨hw1, -⟩ := own_geti_spec hw
    have hwv : w = .int v.1 := (List.cons.inj (own_p1_spec hv)).1
    subst hwv
    exact XS.iinc hX hx rfl hd (own_at_l σ m (pc, L, S) _ hw1) (XS.store1 (own_at_l σ m (pc, L, S) _ hx1) (own_one_spec σ hx2) rfl) ((congrArg (fun A => Steps p.tables e below (T.setTop (mkF m (pc + 3) A (S.map (own_v σ)))) t) (own_set_l σ L _ (.int (v.1 + _)))).mpr kt)
  · obtain ⟨ho, rfl⟩ := own_jump_spec H
    exact XS.goto hX hx rfl (pc0 := pc) rfl hd ho rfl kt
  · replace H := Option.bind_eq_some_iff.mp H
    obtain ⟨q, hq, H⟩ := H
    obtain rfl := own_p1_spec hq
    split at H
    · rename_i hz; obtain ⟨ho, rfl⟩ := own_jump_spec H
      exact XS.ifYes hX hx rfl (pc0 := pc) rfl hd rfl hz ho rfl kt
    · rename_i hz; cases H
      exact XS.ifNo hX hx rfl hd rfl (Bool.eq_false_iff.mpr hz) kt
  · replace H := Option.bind_eq_some_iff.mp H
    obtain ⟨q, hq, H⟩ := H
    obtain rfl := own_p2_spec hq
    split at H
    · rename_i hz; obtain ⟨ho, rfl⟩ := own_jump_spec H
      exact XS.icmpYes hX hx rfl (pc0 := pc) rfl hd rfl hz ho rfl kt
    · rename_i hz; cases H
      exact XS.icmpNo hX hx rfl hd rfl (Bool.eq_false_iff.mpr hz) kt
  · replace H := Option.bind_eq_some_iff.mp H
    obtain ⟨q, hq, H⟩ := H
    obtain ⟨x, y, rfl, h1, h2, h3⟩ := own_popq_spec hi hq
    split at H
    · rename_i ho; cases H
      exact Jvm.RoadKit.acmp X hx rfl ((own_v_ref σ x).trans h1) ((own_v_ref σ y).trans h2) (pc0 := pc) rfl hd rfl h3 ho rfl kt
    · cases H
  · replace H := Option.bind_eq_some_iff.mp H
    obtain ⟨q, hq, H⟩ := H
    obtain rfl := own_p1_spec hq
    split at H
    · rename_i hz; obtain ⟨ho, rfl⟩ := own_jump_spec H
      exact XS.tswOut hX hx rfl (pc0 := pc) rfl hd rfl hz ho rfl kt
    · rename_i hz
      replace H := Option.bind_eq_some_iff.mp H
      obtain ⟨o, hoff, H⟩ := H
      obtain ⟨ho, rfl⟩ := own_jump_spec H
      exact XS.tswIn hX hx rfl (pc0 := pc) rfl hd rfl hz hoff ho rfl kt
  · replace H := Option.bind_eq_some_iff.mp H
    obtain ⟨q, hq, H⟩ := H
    unfold own_nul at hq
    split at hq
    · cases hq
      obtain ⟨ho, rfl⟩ := own_jump_spec H
      exact XS.ifnullYes hX hx rfl (pc0 := pc) rfl hd rfl ho rfl kt
    · cases hq; cases H
      exact XS.ifnullNo hX hx rfl hd rfl kt
    · cases hq
  · replace H := Option.bind_eq_some_iff.mp H
    obtain ⟨q, hq, H⟩ := H
    unfold own_nul at hq
    split at hq
    · cases hq; cases H
      exact XS.ifnonnullNo hX hx rfl hd rfl kt
    · cases hq
      obtain ⟨ho, rfl⟩ := own_jump_spec H
      exact XS.ifnonnullYes hX hx rfl (pc0 := pc) rfl hd rfl ho rfl kt
    · cases hq
  · cases H

/-! D. the run: what touches the tables or the heap stands in a table by its pc -/
abbrev own_E := Nat × Nat × List Value × List Value
def own_find (pc : Nat) (S : List Value) : List own_E → Option (Nat × List Value)
  | [] => none
  | q :: r => if (Nat.beq q.1 pc && (q.2.2.1.isPrefixOf S && Nat.ble S.length (q.2.2.1.length + 4))) = true then some (q.2.1, q.2.2.2 ++ S.drop q.2.2.1.length) else own_find pc S r
theorem own_find_spec {pc : Nat} {S : List Value} {tb : List own_E} {r : Nat × List Value} (h : own_find pc S tb = some r) : ∃ q ∈ tb, ∃ rest, q.1 = pc ∧ S = q.2.2.1 ++ rest ∧ rest.length ≤ 4 ∧ r = (q.2.1, q.2.2.2 ++ rest) := by
  induction tb with
  | nil => cases h
  | cons q t ih =>
    rw [own_find] at h
    split at h
    · rename_i hq
      simp only [Bool.and_eq_true] at hq
      obtain ⟨h1, h2, h3⟩ := hq
      obtain ⟨w, hw⟩ := List.isPrefixOf_iff_prefix.mp h2
      cases h
      refine ⟨q, List.mem_cons_self .., w, Nat.eq_of_beq_eq_true h1, hw.symm, ?_, ?_⟩
      · have := Nat.le_of_ble_eq_true h3
        rw [← hw, List.length_append] at this
        omega
      · rw [← hw, List.drop_left]
    · obtain ⟨q', hq', z⟩ := ih h
      exact ⟨q', List.mem_cons_of_mem _ hq', z⟩
def own_at (pc : Nat) : List (Nat × Instr × Nat) → Option (Instr × Nat)
  | [] => none
  | q :: r => if Nat.beq q.1 pc = true then some q.2 else own_at pc r
theorem own_at_spec {pc : Nat} {pr : List (Nat × Instr × Nat)} {i : Instr × Nat} (h : own_at pc pr = some i) : (pc, i) ∈ pr := by
  induction pr with
  | nil => cases h
  | cons q t ih =>
    rw [own_at] at h
    split at h
    · rename_i hq
      cases h
      rw [← Nat.eq_of_beq_eq_true hq]; exact List.mem_cons_self ..
    · exact List.mem_cons_of_mem _ (ih h)
def own_next (n ml : Nat) (pr : List (Nat × Instr × Nat)) (tb : List own_E) (F : own_F) : Option own_F :=
  match own_find F.1 F.2.2 tb with
  | some r => if Nat.beq F.2.1.length ml = true then some (r.1, F.2.1, r.2) else none
  | none => (own_at F.1 pr).bind fun q => own_step n F.1 F.2.1 F.2.2 q
def own_run (n ml : Nat) (pr : List (Nat × Instr × Nat)) (tb : List own_E) (stop : Nat) : Nat → own_F → own_F
  | 0, F => F
  | k + 1, F => if Nat.beq F.1 stop = true then F else match own_next n ml pr tb F with
    | none => F
    | some F' => own_run n ml pr tb stop k F'
def own_ok (p : Program) (l : Launch) (e : Env) (R : Room) (s : State) (m : MethodId) (args : Array Value) (below : List Frame) (meth : Method) (c : Code) (locs : List Loc) (cells slots : Nat) (h : Heap) (σ : own_N) (ml : Nat) (tb : List own_E) : Prop :=
  ∀ q ∈ tb, ∀ (L : List Slot) (rest : List Value), L.length = ml → rest.length ≤ 4 → own_Go p l e R s m args below meth c locs cells slots h (own_f σ m (q.1, L, q.2.2.1 ++ rest)) (own_f σ m (q.2.1, L, q.2.2.2 ++ rest))
theorem own_next_ok {σ : own_N} {n ml : Nat} {pr : List (Nat × Instr × Nat)} {tb : List own_E} {F F' : own_F} (hx : p.tables.exec = Jvm.exec) (hi : own_inj σ n) (hpr : ∀ q ∈ pr, decode c.code q.1 = .ok q.2) (htb : own_ok p l e R s m args below meth c locs cells slots h σ ml tb) (H : own_next n ml pr tb F = some F') :
    own_Go p l e R s m args below meth c locs cells slots h (own_f σ m F) (own_f σ m F') := by
  obtain ⟨pc, L, S⟩ := F
  unfold own_next at H
  split at H
  · rename_i r hr
    split at H
    · rename_i hl
      cases H
      obtain ⟨q, hq, rest, rfl, hS, hlen, rfl⟩ := own_find_spec hr
      have hS' : S = q.2.2.1 ++ rest := hS
      subst hS'
      exact htb q hq L rest (Nat.eq_of_beq_eq_true hl) hlen
    · cases H
  · replace H := Option.bind_eq_some_iff.mp H
    obtain ⟨q, hq, H⟩ := H
    have hq' : own_at pc pr = some q := hq
    have hd : decode c.code pc = .ok q := hpr (pc, q) (own_at_spec hq')
    have H' : own_step n pc L S q = some F' := H
    exact own_step_ok hx hi hd H'
theorem own_run_ok {σ : own_N} {n ml : Nat} {pr : List (Nat × Instr × Nat)} {tb : List own_E} (hx : p.tables.exec = Jvm.exec) (hi : own_inj σ n) (hpr : ∀ q ∈ pr, decode c.code q.1 = .ok q.2) (htb : own_ok p l e R s m args below meth c locs cells slots h σ ml tb) (stop k : Nat) (F : own_F) :
    own_Go p l e R s m args below meth c locs cells slots h (own_f σ m F) (own_f σ m (own_run n ml pr tb stop k F)) := by
  induction k generalizing F with
  | zero => exact own_refl _
  | succ k ih =>
    rw [own_run]
    split
    · exact own_refl _
    · split
      · exact own_refl _
      · rename_i F' hF
        exact own_trans (own_next_ok hx hi hpr htb hF) (ih F')
theorem own_ok_nil {σ : own_N} {ml : Nat} : own_ok p l e R s m args below meth c locs cells slots h σ ml [] := fun q hq => nomatch hq
theorem own_ok_app {σ : own_N} {ml : Nat} {a b : List own_E} (A : own_ok p l e R s m args below meth c locs cells slots h σ ml a) (B : own_ok p l e R s m args below meth c locs cells slots h σ ml b) : own_ok p l e R s m args below meth c locs cells slots h σ ml (a ++ b) := fun q hq => by
  rcases List.mem_append.mp hq with z | z
  · exact A q z
  · exact B q z
theorem own_ok_cons {σ : own_N} {ml : Nat} {a : own_E} {b : List own_E} (A : ∀ (L : List Slot) (rest : List Value), L.length = ml → rest.length ≤ 4 → own_Go p l e R s m args below meth c locs cells slots h (own_f σ m (a.1, L, a.2.2.1 ++ rest)) (own_f σ m (a.2.1, L, a.2.2.2 ++ rest))) (B : own_ok p l e R s m args below meth c locs cells slots h σ ml b) : own_ok p l e R s m args below meth c locs cells slots h σ ml (a :: b) := fun q hq => by
  rcases List.mem_cons.mp hq with rfl | z
  · exact A
  · exact B q z
theorem own_ok_range {σ : own_N} {ml n : Nat} {f : Nat → own_E} (A : ∀ k, k < n → ∀ (L : List Slot) (rest : List Value), L.length = ml → rest.length ≤ 4 → own_Go p l e R s m args below meth c locs cells slots h (own_f σ m ((f k).1, L, (f k).2.2.1 ++ rest)) (own_f σ m ((f k).2.1, L, (f k).2.2.2 ++ rest))) : own_ok p l e R s m args below meth c locs cells slots h σ ml ((List.range n).map f) := fun q hq => by
  obtain ⟨k, hk, rfl⟩ := List.mem_map.mp hq
  exact A k (List.mem_range.mp hk)
theorem own_ok_flat {σ : own_N} {ml n : Nat} {f : Nat → List own_E} (A : ∀ k, k < n → own_ok p l e R s m args below meth c locs cells slots h σ ml (f k)) : own_ok p l e R s m args below meth c locs cells slots h σ ml ((List.range n).flatMap f) := fun q hq => by
  obtain ⟨k, hk, hq'⟩ := List.mem_flatMap.mp hq
  exact A k (List.mem_range.mp hk) q hq'

/-! E. single instructions that read the tables or the heap -/
def own_Cx (p : Program) (s : State) (m : MethodId) (c : Code) (Z : State) (own : String) (bytes : ByteArray) (ml : Nat) : Prop := p.tables.exec = Jvm.exec ∧ Z.Warmed39 s.vm ∧ s.vm.findClass own = some m.cls ∧ c.code = bytes ∧ c.maxLocals = ml
theorem own_e_static {σ : own_N} {Z : State} {a0 : Array Value} {own : String} {bytes : ByteArray} {ml pc idx : Nat} {O n d : String} {v : Value} (C : own_Cx p s m c Z own bytes ml) (w : (Cond.fieldLink own idx O n d).before a0 Z = true) (F : Sta Z h O n d (own_v σ v)) (hd : decode bytes pc = .ok (.getstatic idx, 3)) (L : List Slot) (rest : List Value) :
    own_Go p l e R s m args below meth c locs cells slots h (own_f σ m (pc, L, [] ++ rest)) (own_f σ m (pc + 3, L, [v] ++ rest)) := fun T X eT => by
  obtain ⟨hx, hZ, hown, hby, -⟩ := C
  exact Jvm.RoadKit.getS2 X hx hZ hown (host := "") (Or.inl w) Via.refl eT F (g := own_f σ m (pc, L, [] ++ rest)) rfl (hb hby hd)
theorem own_e_field {σ : own_N} {Z : State} {a0 : Array Value} {own : String} {bytes : ByteArray} {ml pc idx k : Nat} {O n d : String} {v : Value} (C : own_Cx p s m c Z own bytes ml) (w : (Cond.fieldLink own idx O n d).before a0 Z = true) (F : Fld Z h (σ.1 k) O n d (own_v σ v)) (hd : decode bytes pc = .ok (.getfield idx, 3)) (L : List Slot) (rest : List Value) :
    own_Go p l e R s m args below meth c locs cells slots h (own_f σ m (pc, L, [.ref k] ++ rest)) (own_f σ m (pc + 3, L, [v] ++ rest)) := fun T X eT => by
  obtain ⟨hx, hZ, hown, hby, -⟩ := C
  exact Jvm.RoadKit.getF X hx hZ hown (host := "") (Or.inl w) Via.refl eT F (g := own_f σ m (pc, L, [Value.ref k] ++ rest)) rfl rfl (hb hby hd)
theorem own_e_ldc {σ : own_N} {Z : State} {a0 : Array Value} {own : String} {bytes : ByteArray} {ml pc idx : Nat} {v : Int32} (C : own_Cx p s m c Z own bytes ml) (w : (Cond.constant own idx v).before a0 Z = true) (hd : decode bytes pc = .ok (.ldc idx, 2)) (L : List Slot) (rest : List Value) :
    own_Go p l e R s m args below meth c locs cells slots h (own_f σ m (pc, L, [] ++ rest)) (own_f σ m (pc + 2, L, [.int v] ++ rest)) := own_of fun T X t kt => by
  obtain ⟨hx, hZ, hown, hby, -⟩ := C
  exact X.ldcInt hx hown (mvT hZ w) (g := own_f σ m (pc, L, [] ++ rest)) rfl (hb hby hd) t kt
theorem own_cats (σ : own_N) (rest : List Value) (h4 : rest.length ≤ 4) : ((rest.map (own_v σ)).map fun v => v.category).sum ≤ 8 := by
  have key : ∀ r : List Value, ((r.map (own_v σ)).map fun v => v.category).sum ≤ 2 * r.length := by
    intro r
    induction r with
    | nil => exact Nat.le_refl _
    | cons a t ih =>
      have ha : (own_v σ a).category ≤ 2 := by cases a <;> first | exact Nat.le_refl 2 | exact Nat.le_succ 1
      simp only [List.map_cons, List.sum_cons, List.length_cons]
      omega
  have := key rest
  omega
def own_Q (h0 : Heap) (v : Value) (v' : Option Value) (h : Heap) (L : List Loc) : Prop := v' = some v ∧ L = [] ∧ h = h0
def own_Met (l : Launch) (Z : State) (y : MethodName) (bytes : ByteArray) (ml : Nat) (t : FieldType) (ws : List Jvm.Cond) (rm : Room) (h0 : Heap) (as : Array Value) (v : Value) : Prop :=
  MetFree l y (head1 (Jvm.Cond.code y bytes ml (some t) :: ws) rm) (fun a U => a = as ∧ Z.Warmed39 U.vm ∧ U.heap = h0) (fun _ _ _ _ _ => True) (fun _ U o U' => ∃ v' L, o = .returned v' ∧ own_Q h0 v v' U'.heap L ∧ FrameEnd U o U' L rm.cells rm.slots)
theorem own_e_callS {σ : own_N} {Z : State} {a0 : Array Value} {own : String} {bytes yb : ByteArray} {ml yl pc idx : Nat} {y : MethodName} {t : FieldType} {rm : Room} {as : List Value} {v : Value} {ps : List FieldType} {rt : Option FieldType} (C : own_Cx p s m c Z own bytes ml) (K : own_Met l Z y yb yl t [] rm h (as.map (own_v σ)).toArray (own_v σ v))
    (w : (Cond.methodLink own idx y).before a0 Z = true) (w1 : (Cond.static y).before a0 Z = true) (w2 : (Cond.initialized y.cls).before a0 Z = true) (w3 : (Cond.code y yb yl (some t)).before a0 Z = true) (hy : y.cls ≠ "java/lang/invoke/MethodHandle" ∧ y.cls ≠ "java/lang/invoke/VarHandle") (hp : parseMethodDescriptor y.desc = some ⟨ps, rt⟩) (hps : as.length = ps.length)
    (hR : rm.frames + 1 ≤ R.frames ∧ 8 + (yl + 11) + rm.locals ≤ R.locals ∧ rm.cells = 0 ∧ rm.slots = 0 ∧ cells ≤ R.cells ∧ slots ≤ R.slots) (hd : decode bytes pc = .ok (.invokestatic idx, 3)) (L : List Slot) (rest : List Value) (hL : L.length = ml) (h4 : rest.length ≤ 4) :
    own_Go p l e R s m args below meth c locs cells slots h (own_f σ m (pc, L, as.reverse ++ rest)) (own_f σ m (pc + 3, L, [v] ++ rest)) := fun T X eT => by
  obtain ⟨hx, hZ, hown, hby, hml⟩ := C
  obtain ⟨r1, r2, r3, r4, r5, r6⟩ := hR
  obtain ⟨_, _, ⟨T1, L1, k1, n1⟩, -, X1, ⟨Lc, hQ, l1, y1, z1⟩, st⟩ := Jvm.LawKit.callS X hx hown (mvT hZ w) (mvT hZ w1) (mvT hZ w2) (mvT hZ w3) hy (backOf (W := 8) (Q := own_Q h (own_v σ v)) K hZ w3 w2 r1 r2) (g := own_f σ m (pc, L, as.reverse ++ rest)) rfl (by show (L.map (own_s σ)).toArray.size = _; rw [List.size_toArray, List.length_map, hL, hml]) (argsL := as.map (own_v σ)) (rest := rest.map (own_v σ)) (lenOf hp (by rw [List.length_map, hps])) (by show (as.reverse ++ rest).map (own_v σ) = _; rw [List.map_append, List.map_reverse]) (by show 2 * 0 + _ ≤ 8; rw [Nat.mul_zero, Nat.zero_add]; exact own_cats σ rest h4) (hb hby hd) (fun _ _ => ⟨rfl, eT, by show cells + rm.cells ≤ _; rw [r3]; exact r5, by show slots + rm.slots ≤ _; rw [r4]; exact r6⟩)
  dsimp only [Pt.U, Pt.locs, Pt.cells, Pt.slots] at X1 l1 y1 z1 st hQ
  obtain ⟨rfl, rfl, hh⟩ := hQ
  rw [List.append_nil] at l1
  rw [r3, Nat.add_zero] at y1
  rw [r4, Nat.add_zero] at z1
  subst l1 y1 z1
  exact ⟨T1, X1, hh, fun t k => st t k⟩
theorem own_e_callV {σ : own_N} {Z : State} {a0 : Array Value} {own K1 : String} {bytes yb : ByteArray} {ml yl pc idx k : Nat} {y : MethodName} {t : FieldType} {rm : Room} {as : List Value} {v : Value} {ps : List FieldType} {rt : Option FieldType} (C : own_Cx p s m c Z own bytes ml) (K : own_Met l Z y yb yl t [] rm h ((.ref k :: as).map (own_v σ)).toArray (own_v σ v)) (E : Exa Z h (σ.1 k) K1)
    (w : (Cond.methodLink own idx y).before a0 Z = true) (w1 : (Cond.declares y).before a0 Z = true) (w4 : (Cond.instanceMethod y).before a0 Z = true) (w5 : (Cond.selects K1 y y).before a0 Z = true) (w2 : (Cond.initialized y.cls).before a0 Z = true) (w3 : (Cond.code y yb yl (some t)).before a0 Z = true) (hy : y.cls ≠ "java/lang/invoke/MethodHandle" ∧ y.cls ≠ "java/lang/invoke/VarHandle") (hp : parseMethodDescriptor y.desc = some ⟨ps, rt⟩) (hps : as.length = ps.length)
    (hR : rm.frames + 1 ≤ R.frames ∧ 8 + (yl + 11) + rm.locals ≤ R.locals ∧ rm.cells = 0 ∧ rm.slots = 0 ∧ cells ≤ R.cells ∧ slots ≤ R.slots) (hd : decode bytes pc = .ok (.invokevirtual idx, 3)) (L : List Slot) (rest : List Value) (hL : L.length = ml) (h4 : rest.length ≤ 4) :
    own_Go p l e R s m args below meth c locs cells slots h (own_f σ m (pc, L, (as.reverse ++ [.ref k]) ++ rest)) (own_f σ m (pc + 3, L, [v] ++ rest)) := fun T X eT => by
  obtain ⟨hx, hZ, hown, hby, hml⟩ := C
  obtain ⟨r1, r2, r3, r4, r5, r6⟩ := hR
  obtain ⟨cq, kq, qa, qb, qc⟩ := isOf hZ eT E
  obtain ⟨_, _, ⟨T1, L1, k1, n1⟩, -, X1, ⟨Lc, hQ, l1, y1, z1⟩, st⟩ := X.virtualBack hx (y := y) (z := y) hown (mvT hZ w) (mvT hZ w1) (notFace_of_selects (args := #[]) (mvT hZ w5)) (mvT hZ w5) (mvT hZ w4) hy (backOf (W := 8) (Q := own_Q h (own_v σ v)) K hZ w3 w2 r1 r2) qa qc (g := own_f σ m (pc, L, (as.reverse ++ [Value.ref k]) ++ rest)) rfl (by show (L.map (own_s σ)).toArray.size = _; rw [List.size_toArray, List.length_map, hL, hml]) (Steps.refl _) (argsL := as.map (own_v σ)) (rest := rest.map (own_v σ)) (lenOf hp (by rw [List.length_map, hps])) (by show ((as.reverse ++ [Value.ref k]) ++ rest).map (own_v σ) = _; rw [List.map_append, List.map_append, List.map_reverse, List.append_assoc]; rfl) (by show 2 * 0 + _ ≤ 8; rw [Nat.mul_zero, Nat.zero_add]; exact own_cats σ rest h4) (hb hby hd) (fun _ _ => ⟨rfl, eT, by show cells + rm.cells ≤ _; rw [r3]; exact r5, by show slots + rm.slots ≤ _; rw [r4]; exact r6⟩)
  dsimp only [Pt.U, Pt.locs, Pt.cells, Pt.slots] at X1 l1 y1 z1 st hQ
  obtain ⟨rfl, rfl, hh⟩ := hQ
  rw [List.append_nil] at l1
  rw [r3, Nat.add_zero] at y1
  rw [r4, Nat.add_zero] at z1
  subst l1 y1 z1
  exact ⟨T1, X1, hh, fun t k => st.trans k⟩

theorem own_e_callU {σ : own_N} {Z : State} {a0 : Array Value} {own K1 : String} {bytes yb : ByteArray} {ml yl pc idx k : Nat} {y yy : MethodName} {t : FieldType} {rm : Room} {as : List Value} {v : Value} {ps : List FieldType} {rt : Option FieldType} (C : own_Cx p s m c Z own bytes ml) (K : own_Met l Z y yb yl t [] rm h ((.ref k :: as).map (own_v σ)).toArray (own_v σ v)) (E : Exa Z h (σ.1 k) K1)
    (w : (Cond.methodLink own idx yy).before a0 Z = true) (w0 : (Cond.sameMethod yy.cls y.cls yy.name yy.desc).before a0 Z = true) (w1 : (Cond.declares ⟨y.cls, yy.name, yy.desc⟩).before a0 Z = true) (w4 : (Cond.instanceMethod y).before a0 Z = true) (w5 : (Cond.selects K1 yy y).before a0 Z = true) (w2 : (Cond.initialized y.cls).before a0 Z = true) (w3 : (Cond.code y yb yl (some t)).before a0 Z = true) (hy : y.cls ≠ "java/lang/invoke/MethodHandle" ∧ y.cls ≠ "java/lang/invoke/VarHandle") (hp : parseMethodDescriptor yy.desc = some ⟨ps, rt⟩) (hps : as.length = ps.length)
    (hR : rm.frames + 1 ≤ R.frames ∧ 8 + (yl + 11) + rm.locals ≤ R.locals ∧ rm.cells = 0 ∧ rm.slots = 0 ∧ cells ≤ R.cells ∧ slots ≤ R.slots) (hd : decode bytes pc = .ok (.invokevirtual idx, 3)) (L : List Slot) (rest : List Value) (hL : L.length = ml) (h4 : rest.length ≤ 4) :
    own_Go p l e R s m args below meth c locs cells slots h (own_f σ m (pc, L, (as.reverse ++ [.ref k]) ++ rest)) (own_f σ m (pc + 3, L, [v] ++ rest)) := fun T X eT => by
  obtain ⟨hx, hZ, hown, hby, hml⟩ := C
  obtain ⟨r1, r2, r3, r4, r5, r6⟩ := hR
  obtain ⟨cq, kq, qa, qb, qc⟩ := isOf hZ eT E
  obtain ⟨_, _, ⟨T1, L1, k1, n1⟩, -, X1, ⟨Lc, hQ, l1, y1, z1⟩, st⟩ := X.virtualBackUp hx (x := yy) (y := y) (owner := y.cls) hown (mvT hZ w) (mvT hZ w0) (mvT hZ w1) hy (mvT hZ w5) (mvT hZ w4) (backOf (W := 8) (Q := own_Q h (own_v σ v)) K hZ w3 w2 r1 r2) qa qc (g := own_f σ m (pc, L, (as.reverse ++ [Value.ref k]) ++ rest)) rfl (by show (L.map (own_s σ)).toArray.size = _; rw [List.size_toArray, List.length_map, hL, hml]) (Steps.refl _) (argsL := as.map (own_v σ)) (rest := rest.map (own_v σ)) (lenOf hp (by rw [List.length_map, hps])) (by show ((as.reverse ++ [Value.ref k]) ++ rest).map (own_v σ) = _; rw [List.map_append, List.map_append, List.map_reverse, List.append_assoc]; rfl) (by show 2 * 0 + _ ≤ 8; rw [Nat.mul_zero, Nat.zero_add]; exact own_cats σ rest h4) (hb hby hd) (fun _ _ => ⟨rfl, eT, by show cells + rm.cells ≤ _; rw [r3]; exact r5, by show slots + rm.slots ≤ _; rw [r4]; exact r6⟩)
  dsimp only [Pt.U, Pt.locs, Pt.cells, Pt.slots] at X1 l1 y1 z1 st hQ
  obtain ⟨rfl, rfl, hh⟩ := hQ
  rw [List.append_nil] at l1
  rw [r3, Nat.add_zero] at y1
  rw [r4, Nat.add_zero] at z1
  subst l1 y1 z1
  exact ⟨T1, X1, hh, fun t k => st.trans k⟩

/-! F. a body whose run ends in a return -/
def own_ends (pr : List (Nat × Instr × Nat)) (t : FieldType) (v : Value) (F : own_F) : Bool := match F.2.2 with
  | w :: _ => decide (w = v) && (match own_at F.1 pr, w with
    | some (.ireturn, 1), .int z => (t == .int || t == .boolean || t == .byte || t == .char || t == .short) && decide (narrow t (.int z) = .int z)
    | some (.areturn, 1), .ref _ => t.isReference
    | some (.areturn, 1), .null => t.isReference
    | _, _ => false)
  | [] => false
theorem own_fin {T : State} {bytes : ByteArray} {t : FieldType} {v : Value} {σ : own_N} {pr : List (Nat × Instr × Nat)} (X : Stand p l e R s m args below meth c T locs cells slots) (hx : p.tables.exec = Jvm.exec) (hret : meth.sig.returnType = some t) (hby : c.code = bytes) (hpr : ∀ q ∈ pr, decode bytes q.1 = .ok q.2) (F : own_F) (hF : own_ends pr t v F = true) {fs : List Frame}
    (hr : ∀ (f : JFrame) (acts : List Action), f.method = m → f.locked = none → f.entered = [] → (doReturn e (T.setTop f) acts (some (own_v σ v))).1 = T.setFrames fs) : Steps p.tables e below (T.setTop (own_f σ m F)) (T.setFrames fs) := by
  obtain ⟨pc, L, S⟩ := F
  unfold own_ends at hF
  split at hF
  · rename_i w rest hS
    have hS' : S = w :: rest := hS
    subst hS'
    rw [Bool.and_eq_true] at hF
    obtain ⟨h1, h2⟩ := hF
    have h1' : w = v := of_decide_eq_true h1
    subst h1'
    split at h2
    · rename_i z ha
      rw [Bool.and_eq_true] at h2
      refine retOut X hx hret (of_decide_eq_true h2.2) (Or.inl ⟨rfl, ?_, z, rfl⟩) (hb hby (hpr _ (own_at_spec ha))) hr
      simpa [or_assoc] using h2.1
    · rename_i z ha
      exact retOut X hx hret (by cases t <;> rfl) (Or.inr (Or.inr (Or.inr (Or.inr ⟨rfl, h2, rfl⟩)))) (hb hby (hpr _ (own_at_spec ha))) hr
    · rename_i ha
      exact retOut X hx hret (by cases t <;> rfl) (Or.inr (Or.inr (Or.inr (Or.inr ⟨rfl, h2, rfl⟩)))) (hb hby (hpr _ (own_at_spec ha))) hr
    · cases h2
  · cases hF
theorem own_met {Z : State} {y : MethodName} {bytes : ByteArray} {ml : Nat} {t : FieldType} {ws : List Jvm.Cond} {rm : Room} {h0 : Heap} {as : Array Value} {v : Value} {σ : own_N} {pr : List (Nat × Instr × Nat)} (pn : plainFor y = true) (hpr : ∀ q ∈ pr, decode bytes q.1 = .ok q.2) (F : own_F) (hF : own_ends pr t v F = true)
    (hgo : ∀ (p : Program) (e : Env) (s : State) (m : MethodId) (below : List Frame) (meth : Method) (c : Code), own_Cx p s m c Z y.cls bytes ml → own_Go p l e rm s m as below meth c [] 0 0 h0 (entryFrame m as ml) (own_f σ m F)) :
    own_Met l Z y bytes ml t ws rm h0 as (own_v σ v) := by
  refine MetFree.of_bodySF pn hisR ?_
  intro p e s m args below meth c s₁ Bd hml0 hP hK
  obtain ⟨rfl, hZ, hh⟩ := hP
  have hx := Bd.exec
  have hby := Bd.bytes
  have hown : s.vm.findClass y.cls = some m.cls := findClass_of_methodNamed Bd.named
  have X0 : Stand p l e rm s m args below meth c s₁ [] 0 0 := Stand.of_body Bd
  have e0 : s₁.heap = h0 := by rw [← hh, Bd.state]; rfl
  obtain ⟨T, X, eT, st⟩ := hgo p e s m below meth c ⟨hx, hZ, hown, hby, hml0⟩ s₁ X0 e0
  obtain ⟨fs, hr, hrun, hended, hW, hsame⟩ := X.leave (v := some (own_v σ v)) (fun h => by rw [Bd.returns] at h; cases h)
  exact ⟨_, _, st _ (own_fin X hx Bd.returns hby hpr F hF hr), hrun, hended, _, _, rfl, ⟨rfl, rfl, eT⟩, ⟨_, rfl⟩, hW, hsame.mono (Nat.zero_le _) (Nat.zero_le _)⟩
end OwnGo

/-! G. steps over ints that aren't known -/
section OwnSym
variable {p : Program} {l : Launch} {e : Env} {R : Room} {s : State} {m : MethodId} {args : Array Value} {below : List Frame} {meth : Method} {c : Code} {locs : List Loc} {cells slots : Nat} {h : Heap} {σ : own_N} {Z : State} {own : String} {bytes : ByteArray} {ml pc : Nat}
theorem own_f1 {L : List Slot} {r v : Value} {rest : List Value} (q : own_v σ r = v) : own_f σ m (pc, L, [r] ++ rest) = mkF m pc (L.map (own_s σ)).toArray (v :: rest.map (own_v σ)) := by rw [← q]; rfl
theorem own_f2 {L : List Slot} {r1 r2 v1 v2 : Value} {rest : List Value} (q1 : own_v σ r1 = v1) (q2 : own_v σ r2 = v2) : (own_f σ m (pc, L, [r1, r2] ++ rest)).stack = v1 :: v2 :: rest.map (own_v σ) := by rw [← q1, ← q2]; rfl
theorem own_e_iadd {a b r : Value} {x y : Int32} (C : own_Cx p s m c Z own bytes ml) (ha : own_v σ a = .int x) (hb' : own_v σ b = .int y) (hr : own_v σ r = .int (x + y)) (hd : decode bytes pc = .ok (.iadd, 1)) (L : List Slot) (rest : List Value) :
    own_Go p l e R s m args below meth c locs cells slots h (own_f σ m (pc, L, [b, a] ++ rest)) (own_f σ m (pc + 1, L, [r] ++ rest)) := own_of fun T X t kt => by
  rw [own_f1 hr] at kt
  exact XS.iadd X.here C.1 rfl (hb C.2.2.2.1 hd) (own_f2 hb' ha) kt
theorem own_e_isub {a b r : Value} {x y : Int32} (C : own_Cx p s m c Z own bytes ml) (ha : own_v σ a = .int x) (hb' : own_v σ b = .int y) (hr : own_v σ r = .int (x - y)) (hd : decode bytes pc = .ok (.isub, 1)) (L : List Slot) (rest : List Value) :
    own_Go p l e R s m args below meth c locs cells slots h (own_f σ m (pc, L, [b, a] ++ rest)) (own_f σ m (pc + 1, L, [r] ++ rest)) := own_of fun T X t kt => by
  rw [own_f1 hr] at kt
  exact XS.isub X.here C.1 rfl (hb C.2.2.2.1 hd) (own_f2 hb' ha) kt
theorem own_e_imul {a b r : Value} {x y : Int32} (C : own_Cx p s m c Z own bytes ml) (ha : own_v σ a = .int x) (hb' : own_v σ b = .int y) (hr : own_v σ r = .int (x * y)) (hd : decode bytes pc = .ok (.imul, 1)) (L : List Slot) (rest : List Value) :
    own_Go p l e R s m args below meth c locs cells slots h (own_f σ m (pc, L, [b, a] ++ rest)) (own_f σ m (pc + 1, L, [r] ++ rest)) := own_of fun T X t kt => by
  rw [own_f1 hr] at kt
  exact XS.imul X.here C.1 rfl (hb C.2.2.2.1 hd) (own_f2 hb' ha) kt
theorem own_e_iand {a b r : Value} {x y : Int32} (C : own_Cx p s m c Z own bytes ml) (ha : own_v σ a = .int x) (hb' : own_v σ b = .int y) (hr : own_v σ r = .int (x &&& y)) (hd : decode bytes pc = .ok (.iand, 1)) (L : List Slot) (rest : List Value) :
    own_Go p l e R s m args below meth c locs cells slots h (own_f σ m (pc, L, [b, a] ++ rest)) (own_f σ m (pc + 1, L, [r] ++ rest)) := own_of fun T X t kt => by
  rw [own_f1 hr] at kt
  exact XS.iand X.here C.1 rfl (hb C.2.2.2.1 hd) (own_f2 hb' ha) kt
theorem own_e_irem {a b r : Value} {x y : Int32} (C : own_Cx p s m c Z own bytes ml) (ha : own_v σ a = .int x) (hb' : own_v σ b = .int y) (hy : y ≠ 0) (hr : own_v σ r = .int (x % y)) (hd : decode bytes pc = .ok (.irem, 1)) (L : List Slot) (rest : List Value) :
    own_Go p l e R s m args below meth c locs cells slots h (own_f σ m (pc, L, [b, a] ++ rest)) (own_f σ m (pc + 1, L, [r] ++ rest)) := own_of fun T X t kt => by
  rw [own_f1 hr] at kt
  exact iremM X C.1 rfl (hb C.2.2.2.1 hd) (own_f2 hb' ha) hy kt
theorem own_e_i2s {a r : Value} {x : Int32} (C : own_Cx p s m c Z own bytes ml) (ha : own_v σ a = .int x) (hr : own_v σ r = .int x.toInt16.toInt32) (hd : decode bytes pc = .ok (.i2s, 1)) (L : List Slot) (rest : List Value) :
    own_Go p l e R s m args below meth c locs cells slots h (own_f σ m (pc, L, [a] ++ rest)) (own_f σ m (pc + 1, L, [r] ++ rest)) := own_of fun T X t kt => by
  rw [own_f1 hr] at kt
  exact XS.i2s X.here C.1 rfl (hb C.2.2.2.1 hd) (congrArg (fun w => w :: rest.map (own_v σ)) ha) kt
theorem own_e_ifT {a : Value} {x : Int32} {cd : ClassFile.Cond} {o : Int} {pc' : Nat} (C : own_Cx p s m c Z own bytes ml) (ha : own_v σ a = .int x) (hc : ifCond.holds cd x = true) (hd : decode bytes pc = .ok (.ifCond cd o, 3)) (ho : 0 ≤ (pc : Int) + o) (hp : ((pc : Int) + o).toNat = pc') (L : List Slot) (rest : List Value) :
    own_Go p l e R s m args below meth c locs cells slots h (own_f σ m (pc, L, [a] ++ rest)) (own_f σ m (pc', L, [] ++ rest)) := own_of fun T X t kt => XS.ifYes X.here C.1 rfl (pc0 := pc) rfl (hb C.2.2.2.1 hd) (congrArg (fun w => w :: rest.map (own_v σ)) ha) hc ho hp kt
theorem own_e_ifF {a : Value} {x : Int32} {cd : ClassFile.Cond} {o : Int} (C : own_Cx p s m c Z own bytes ml) (ha : own_v σ a = .int x) (hc : ifCond.holds cd x = false) (hd : decode bytes pc = .ok (.ifCond cd o, 3)) (L : List Slot) (rest : List Value) :
    own_Go p l e R s m args below meth c locs cells slots h (own_f σ m (pc, L, [a] ++ rest)) (own_f σ m (pc + 3, L, [] ++ rest)) := own_of fun T X t kt => XS.ifNo X.here C.1 rfl (hb C.2.2.2.1 hd) (congrArg (fun w => w :: rest.map (own_v σ)) ha) hc kt
theorem own_e_icT {a b : Value} {x y : Int32} {cd : ClassFile.Cond} {o : Int} {pc' : Nat} (C : own_Cx p s m c Z own bytes ml) (ha : own_v σ a = .int x) (hb' : own_v σ b = .int y) (hc : if_icmp.holds cd x y = true) (hd : decode bytes pc = .ok (.if_icmp cd o, 3)) (ho : 0 ≤ (pc : Int) + o) (hp : ((pc : Int) + o).toNat = pc') (L : List Slot) (rest : List Value) :
    own_Go p l e R s m args below meth c locs cells slots h (own_f σ m (pc, L, [b, a] ++ rest)) (own_f σ m (pc', L, [] ++ rest)) := own_of fun T X t kt => XS.icmpYes X.here C.1 rfl (pc0 := pc) rfl (hb C.2.2.2.1 hd) (own_f2 hb' ha) hc ho hp kt
theorem own_e_icF {a b : Value} {x y : Int32} {cd : ClassFile.Cond} {o : Int} (C : own_Cx p s m c Z own bytes ml) (ha : own_v σ a = .int x) (hb' : own_v σ b = .int y) (hc : if_icmp.holds cd x y = false) (hd : decode bytes pc = .ok (.if_icmp cd o, 3)) (L : List Slot) (rest : List Value) :
    own_Go p l e R s m args below meth c locs cells slots h (own_f σ m (pc, L, [b, a] ++ rest)) (own_f σ m (pc + 3, L, [] ++ rest)) := own_of fun T X t kt => XS.icmpNo X.here C.1 rfl (hb C.2.2.2.1 hd) (own_f2 hb' ha) hc kt
end OwnSym

/-! H. from the case's words to facts; ints of few values -/
theorem own_w_sta {args : Array Value} {s : State} {C n d K : String} (hx : (Cond.exactly (Term.static C n d) K).value args s none s [] = some true) (wi : (Cond.initialized C).before args s = true) (wl : (Cond.laysStatic C n d).before args s = true) : ∃ a, (Term.static C n d).eval args s none [] s = some (.ref a) ∧ Sta s s.heap C n d (.ref a) ∧ Exa s s.heap a K := by
  obtain ⟨a, ha⟩ := exa_v hx
  exact ⟨a, ha, Sta.start ha (Or.inr ⟨wi, wl⟩), Exa.start ha hx⟩
theorem own_w_fld {args : Array Value} {s : State} {t : Term} {a : Addr} {C n d : String} {v : Int32} (ev : t.eval args s none [] s = some (.ref a)) (hq : (Cond.eq (Term.field t C n d) (Term.int v)).value args s none s [] = some true) : Fld s s.heap a C n d (.int v) := by
  obtain ⟨x, y, h1, h2, k1, k2⟩ := cmp_v (Or.inl hq)
  cases (Term.int_eval v).symm.trans h2
  obtain ⟨z, rfl⟩ := k2
  have e1 := gotT (Cond.eq_ints h1 (Term.int_eval v)) hq
  subst e1
  exact Fld.start ((fld_at ev).symm.trans h1)
theorem own_few (v : Int32) {n : Nat} (h0 : 0 ≤ v.toInt) (h1 : v.toInt < n) : ∃ k, k < n ∧ v = Int32.ofNat k := by
  refine ⟨v.toInt.toNat, by omega, Int32.toInt.inj ?_⟩
  have h2 := v.toInt_lt
  rw [Int32.toInt_ofNat_of_lt (by omega)]
  omega
theorem own_mask (x m : Int32) {k : Nat} (hk : k < 32) (hm : m.toBitVec.toNat = 2 ^ k - 1) : ∃ j, j < 2 ^ k ∧ x &&& m = Int32.ofNat j := by
  have e := Jvm.Kit.i32_mask x m hk hm
  have hp : (0 : Int) < 2 ^ k := Int.pow_pos (by decide)
  refine own_few _ (by rw [e]; exact Int.emod_nonneg _ (Int.ne_of_gt hp)) ?_
  rw [e, Int.natCast_pow]; exact Int.emod_lt_of_pos _ hp
theorem own_rem (x y : Int32) {n : Nat} (hn : 0 < n) (hy : y.toInt = n) : ∃ j, j < n ∧ (x &&& 2147483647) % y = Int32.ofNat j := by
  have e := Jvm.Kit.i32_mask x 2147483647 (k := 31) (by decide) (by decide)
  have h0 : 0 ≤ (x &&& 2147483647).toInt := by rw [e]; exact Int.emod_nonneg _ (by decide)
  have e2 : ((x &&& 2147483647) % y).toInt = (x &&& 2147483647).toInt % y.toInt := Jvm.Kit.i32_rem_nonneg h0
  refine own_few _ (by rw [e2]; exact Int.emod_nonneg _ (by omega)) ?_
  rw [e2, hy]; exact Int.emod_lt_of_pos _ (by omega)
theorem own_inj_of {σ : own_N} {Z : State} {h : Heap} {n : Nat} {O f d : String} (hn : n ≤ 1000) (F : ∀ k, k < n → Fld Z h (σ.1 k) O f d (.int (Int32.ofNat k))) : own_inj σ n := fun a b ha hb' q => by
  refine Classical.byContradiction fun hne => ?_
  refine Fld.ne (F a ha) (F b hb') (fun z => hne ?_) q
  have z1 := congrArg Int32.toInt (Value.int.inj z)
  rw [Int32.toInt_ofNat_of_lt (by omega), Int32.toInt_ofNat_of_lt (by omega)] at z1
  omega
theorem own_sub {x c k : Int32} (H : x &&& 7 = c) (hk : 7 &&& k = k) : c &&& k = x &&& k := by rw [← H, Int32.and_assoc, hk]

/-! I. arrays that the law makes -/
section OwnFill
variable {p : Program} {l : Launch} {e : Env} {R : Room} {s : State} {m : MethodId} {args : Array Value} {below : List Frame} {meth : Method} {c : Code} {T : State} {locs : List Loc} {cells slots : Nat} {h : Heap} {σ : own_N} {Z : State} {own : String} {bytes : ByteArray} {ml pc B : Nat} {ck : ClassId} {ty : FieldType} {j z : Int32} {vs : List Value} {dv : Value}
theorem own_fill (X : Stand p l e R s m args below meth c T locs cells slots) (eT : T.heap = h) (C : own_Cx p s m c Z own bytes ml) {k : Nat} {K : String} (V : Arv Z h (σ.1 B) ck (.object K) z vs .null) (O : Ovr Z ck K) (I : Ins Z h (σ.1 k) K true) (hj : ¬ j < 0 ∧ j < z) (i : Nat) (hji : j.toNatClampNeg = i) (hi : i < vs.length) (hd : decode bytes pc = .ok (.aastore, 1)) {n0 : Nat} (N : Fr n0 locs) (hn : n0 ≤ σ.1 B) (L : List Slot) (S : List Value) :
    ∃ T' h' locs', Stand p l e R s m args below meth c T' locs' cells slots ∧ T'.heap = h' ∧ Fr n0 locs' ∧ (∃ sl v, Wr h h' (σ.1 B) sl v) ∧ Arv Z h' (σ.1 B) ck (.object K) z (vs.set i (.ref (σ.1 k))) .null ∧ ∀ t, Steps p.tables e below (T'.setTop (own_f σ m (pc + 1, L, S))) t → Steps p.tables e below (T.setTop (own_f σ m (pc, L, .ref k :: .int j :: .ref B :: S))) t := by
  obtain ⟨hx, hZ, hown, hby, -⟩ := C
  obtain ⟨cl, Ar, q1, q2, q3, q4, q5⟩ := V
  have hin := inb_of q2 hj
  obtain ⟨T', h', X', e', W', st⟩ := stR X hx hZ eT Ar hin rfl (Sto.ofV Ar q1 O I) (g := own_f σ m (pc, L, Value.ref k :: Value.int j :: Value.ref B :: S)) rfl rfl (hb hby hd)
  exact ⟨T', h', _, X', e', Fr.snoc X' N hn, ⟨_, _, W'⟩, Arv.set Ar q1 q2 q3 q4 q5 rfl W' i hji hi, st⟩
theorem own_filli (X : Stand p l e R s m args below meth c T locs cells slots) (eT : T.heap = h) (C : own_Cx p s m c Z own bytes ml) {w : Int32} (V : Arv Z h (σ.1 B) ck .int z vs dv) (hj : ¬ j < 0 ∧ j < z) (i : Nat) (hji : j.toNatClampNeg = i) (hi : i < vs.length) (hd : decode bytes pc = .ok (.iastore, 1)) {n0 : Nat} (N : Fr n0 locs) (hn : n0 ≤ σ.1 B) (L : List Slot) (S : List Value) :
    ∃ T' h' locs', Stand p l e R s m args below meth c T' locs' cells slots ∧ T'.heap = h' ∧ Fr n0 locs' ∧ (∃ sl v, Wr h h' (σ.1 B) sl v) ∧ Arv Z h' (σ.1 B) ck .int z (vs.set i (.int w)) dv ∧ ∀ t, Steps p.tables e below (T'.setTop (own_f σ m (pc + 1, L, S))) t → Steps p.tables e below (T.setTop (own_f σ m (pc, L, .int w :: .int j :: .ref B :: S))) t := by
  obtain ⟨hx, hZ, hown, hby, -⟩ := C
  obtain ⟨cl, Ar, q1, q2, q3, q4, q5⟩ := V
  have hin := inb_of q2 hj
  obtain ⟨T', h', X', e', W', st⟩ := stI X hx hZ eT Ar hin (g := own_f σ m (pc, L, Value.int w :: Value.int j :: Value.ref B :: S)) rfl rfl (hb hby hd)
  exact ⟨T', h', _, X', e', Fr.snoc X' N hn, ⟨_, _, W'⟩, Arv.set Ar q1 q2 q3 q4 q5 rfl W' i hji hi, st⟩
theorem own_e_aaload {v : Value} (C : own_Cx p s m c Z own bytes ml) (V : Arv Z h (σ.1 B) ck ty z vs dv) (hty : ty.isReference = true) (hj : ¬ j < 0 ∧ j < z) (hv : vs.getD j.toNatClampNeg dv = own_v σ v) (hd : decode bytes pc = .ok (.aaload, 1)) (L : List Slot) (rest : List Value) :
    own_Go p l e R s m args below meth c locs cells slots h (own_f σ m (pc, L, [.int j, .ref B] ++ rest)) (own_f σ m (pc + 1, L, [v] ++ rest)) := fun T X eT => by
  obtain ⟨hx, hZ, hown, hby, -⟩ := C
  obtain ⟨cl, Ar, q1, q2, q3, q4, q5⟩ := V
  have hin := inb_of q2 hj
  exact ⟨T, X, eT, fun t kt => X.aaload hx (by rw [eT]; exact Ar.1) (State.isArrayOf_alike hZ.alike Ar.2.1) hty Ar.2.2 hin (Has.at q4 hin hv) (g := own_f σ m (pc, L, [Value.int j, Value.ref B] ++ rest)) rfl rfl (hb hby hd) t kt⟩
theorem own_e_iaload {v : Value} (C : own_Cx p s m c Z own bytes ml) (V : Arv Z h (σ.1 B) ck .int z vs dv) (hj : ¬ j < 0 ∧ j < z) (hv : vs.getD j.toNatClampNeg dv = own_v σ v) (hd : decode bytes pc = .ok (.iaload, 1)) (L : List Slot) (rest : List Value) :
    own_Go p l e R s m args below meth c locs cells slots h (own_f σ m (pc, L, [.int j, .ref B] ++ rest)) (own_f σ m (pc + 1, L, [v] ++ rest)) := fun T X eT => by
  obtain ⟨hx, hZ, hown, hby, -⟩ := C
  obtain ⟨cl, Ar, q1, q2, q3, q4, q5⟩ := V
  have hin := inb_of q2 hj
  exact ⟨T, X, eT, fun t kt => X.iaload hx (by rw [eT]; exact Ar.1) (State.isArrayOf_alike hZ.alike Ar.2.1) Ar.2.2 hin (Has.at q4 hin hv) (g := own_f σ m (pc, L, [Value.int j, Value.ref B] ++ rest)) rfl rfl (hb hby hd) t kt⟩
theorem own_e_len (C : own_Cx p s m c Z own bytes ml) (V : Arv Z h (σ.1 B) ck ty z vs dv) (hd : decode bytes pc = .ok (.arraylength, 1)) (L : List Slot) (rest : List Value) :
    own_Go p l e R s m args below meth c locs cells slots h (own_f σ m (pc, L, [.ref B] ++ rest)) (own_f σ m (pc + 1, L, [.int z] ++ rest)) := fun T X eT => by
  obtain ⟨hx, hZ, hown, hby, -⟩ := C
  obtain ⟨cl, Ar, q1, q2, q3, q4, q5⟩ := V
  refine ⟨T, X, eT, fun t kt => X.arraylength hx (by rw [eT]; exact Ar.1) (State.isArrayOf_alike hZ.alike Ar.2.1) (g := own_f σ m (pc, L, [Value.ref B] ++ rest)) rfl rfl (hb hby hd) t ?_⟩
  rw [len_of q2 q3]; exact kt
theorem own_ok_ite {q : Nat} {a b : List own_E} (A : q = 0 → own_ok p l e R s m args below meth c locs cells slots h σ ml a) (D : q ≠ 0 → own_ok p l e R s m args below meth c locs cells slots h σ ml b) : own_ok p l e R s m args below meth c locs cells slots h σ ml (if q = 0 then a else b) := by
  split
  · rename_i hq; exact A hq
  · rename_i hq; exact D hq
def own_MetF (l : Launch) (Z : State) (y : MethodName) (bytes : ByteArray) (ml : Nat) (t : FieldType) (ws : List Jvm.Cond) (rm : Room) (h0 : Heap) (as : Array Value) (v : Value) : Prop :=
  MetFree l y (head1 (Jvm.Cond.code y bytes ml (some t) :: ws) rm) (fun a U => a = as ∧ Z.Warmed39 U.vm ∧ U.heap = h0) (fun _ _ _ _ _ => True) (fun _ U o U' => ∃ v' L, o = .returned v' ∧ (v' = some v ∧ Fr h0.size L) ∧ FrameEnd U o U' L rm.cells rm.slots)
end OwnFill
def own_eqF (a b : own_F) : Bool := decide (a = b)
theorem own_eqF_spec {a b : own_F} (h : own_eqF a b = true) : a = b := of_decide_eq_true h
/-! J. arrays that stood before -/
theorem own_w_elem {args : Array Value} {s : State} {t u : Term} {a b : Addr} {j : Int32} {cl : Cell} (q : (Cond.eq (Term.elem t (Term.int j)) u).value args s none s [] = some true) (ht : t.eval args s none [] s = some (.ref a)) (hu : u.eval args s none [] s = some (.ref b)) (hc : s.heap[a]? = some cl) : cl.slots[j.toNatClampNeg]? = some (.ref b) := by
  obtain ⟨x, y, h1, h2, k1, k2⟩ := cmp_v (Or.inl q)
  cases hu.symm.trans h2
  have hx : x.isRef = true := k2.2
  have e1 := gotT (eq_R h1 hu hx rfl) q
  subst e1
  exact (elem_in h1 ht (Term.int_eval j) hc).2
theorem own_w_len {args : Array Value} {s : State} {t : Term} {a : Addr} {z : Int32} {cl : Cell} (q : (Cond.eq (Term.length t) (Term.int z)).value args s none s [] = some true) (ht : t.eval args s none [] s = some (.ref a)) (hc : s.heap[a]? = some cl) : cl.slots.size < 2 ^ 31 ∧ cl.slots.size.toInt32 = z := by
  obtain ⟨x, y, h1, h2, k1, k2⟩ := cmp_v (Or.inl q)
  cases (Term.int_eval z).symm.trans h2
  obtain ⟨w, rfl⟩ := k2
  have e0 := gotT (Cond.eq_ints h1 (Term.int_eval z)) q
  subst e0
  obtain ⟨a', cl', e1, e2, e3⟩ := Term.length_spec h1
  cases ht.symm.trans e1
  cases hc.symm.trans (State.arrayAt?_spec e2).1
  exact ⟨Jvm.Free.SBG.length_lt ht e2 h1, (Value.int.inj e3).symm⟩
theorem own_class (c : Int32) (n : Nat) (hn : n < 1000) : ∃ z, z < n + 2 ∧ (z < n → c = Int32.ofNat z) ∧ (z = n → c < 0) ∧ (z = n + 1 → Int32.ofNat n ≤ c) := by
  have e0 : (0 : Int32).toInt = 0 := rfl
  have en : (Int32.ofNat n).toInt = n := Int32.toInt_ofNat_of_lt (by omega)
  by_cases h0 : c.toInt < 0
  · exact ⟨n, by omega, fun q => absurd q (by omega), fun _ => Int32.lt_iff_toInt_lt.mpr (by omega), fun q => absurd q (by omega)⟩
  · by_cases h1 : c.toInt < n
    · obtain ⟨k, hk, e⟩ := own_few c (n := n) (by omega) h1
      exact ⟨k, by omega, fun _ => e, fun q => absurd q (by omega), fun q => absurd q (by omega)⟩
    · exact ⟨n + 1, by omega, fun q => absurd q (by omega), fun q => absurd q (by omega), fun _ => Int32.le_iff_toInt_le.mpr (by omega)⟩
section OwnIf
variable {p : Program} {l : Launch} {e : Env} {R : Room} {s : State} {m : MethodId} {args : Array Value} {below : List Frame} {meth : Method} {c : Code} {locs : List Loc} {cells slots : Nat} {h : Heap} {σ : own_N} {ml : Nat}
theorem own_ok_if {P : Prop} [Decidable P] {a b : List own_E} (A : P → own_ok p l e R s m args below meth c locs cells slots h σ ml a) (D : ¬ P → own_ok p l e R s m args below meth c locs cells slots h σ ml b) : own_ok p l e R s m args below meth c locs cells slots h σ ml (if P then a else b) := by
  split
  · rename_i hq; exact A hq
  · rename_i hq; exact D hq
end OwnIf
theorem own_nlt0 {n : Nat} {v : Int32} (h : Int32.ofNat n ≤ v) (hn : n < 1000 := by decide) : ¬ v < 0 := by
  have e0 : (0 : Int32).toInt = 0 := rfl
  have en : (Int32.ofNat n).toInt = n := Int32.toInt_ofNat_of_lt (by omega)
  rw [Int32.le_iff_toInt_le] at h
  rw [Int32.lt_iff_toInt_lt]
  omega
theorem own_ltn {w n : Nat} {v : Int32} (hw : w < n) (hn : n < 1000) (h : Int32.ofNat n ≤ v) : Int32.ofNat w < v := by
  have ew : (Int32.ofNat w).toInt = w := Int32.toInt_ofNat_of_lt (by omega)
  have en : (Int32.ofNat n).toInt = n := Int32.toInt_ofNat_of_lt (by omega)
  rw [Int32.le_iff_toInt_le] at h
  rw [Int32.lt_iff_toInt_lt]
  omega
theorem own_nk {n z : Nat} {c : Int32} (hz : z < n + 2) (K2 : z = n → c < 0) (K3 : z = n + 1 → Int32.ofNat n ≤ c) (hn : n < 1000) : ¬ z < n → ∀ k, k < n → Int32.ofNat k ≠ c := fun q k hk e => by
  subst e
  have ek : (Int32.ofNat k).toInt = k := Int32.toInt_ofNat_of_lt (by omega)
  have en : (Int32.ofNat n).toInt = n := Int32.toInt_ofNat_of_lt (by omega)
  have e0 : (0 : Int32).toInt = 0 := rfl
  by_cases h1 : z = n
  · have := K2 h1
    rw [Int32.lt_iff_toInt_lt] at this
    omega
  · have := K3 (by omega)
    rw [Int32.le_iff_toInt_le] at this
    omega

/-! the constants: names, classes, fields -/
def own_nm : Nat → String
  | 0 => "CREATE_TOPIC"
  | 1 => "LIST_TOPICS"
  | 2 => "JOIN_GROUP"
  | 3 => "SYNC_GROUP"
  | 4 => "HEARTBEAT"
  | 5 => "LEAVE_GROUP"
  | 6 => "DESCRIBE_GROUP"
  | 7 => "GROUP_HISTORY"
  | 8 => "COMMIT_POSITIONS"
  | 9 => "ADD_PARTITIONS"
  | 10 => "DELETE_TOPIC"
  | _ => ""
def own_x_newestVersion : Nat → Int32
  | 0 => 0
  | 1 => 0
  | 2 => 2
  | 3 => 1
  | 4 => 1
  | 5 => 1
  | 6 => 0
  | 7 => 1
  | 8 => 1
  | 9 => 0
  | 10 => 0
  | _ => 0
def own_W (Z : State) (h : Heap) (σ : own_N) : Prop := (∀ k, k < 11 → Sta Z h "com/example/evenkeel/evenkeel/Api" (own_nm k) "Lcom/example/evenkeel/evenkeel/Api;" (.ref (σ.1 k))) ∧ (∀ k, k < 11 → Exa Z h (σ.1 k) "com/example/evenkeel/evenkeel/Api") ∧ (∀ k, k < 11 → Fld Z h (σ.1 k) "com/example/evenkeel/evenkeel/Api" "newestVersion" "S" (.int (own_x_newestVersion k)))
theorem own_W_ext {Z : State} {h h' : Heap} {σ : own_N} (E : Ext h h') (W : own_W Z h σ) : own_W Z h' σ := ⟨fun k hk => Sta.ext E (W.1 k hk), fun k hk => Exa.ext E (W.2.1 k hk), fun k hk => Fld.ext E (W.2.2 k hk)⟩
theorem own_W_wr {Z : State} {h h' : Heap} {σ : own_N} {a : Addr} {sl : Nat} {v : Value} (Q : Wr h h' a sl v) (hne : ∀ k, k < 11 → σ.1 k ≠ a) (W : own_W Z h σ) : own_W Z h' σ := ⟨fun k hk => Sta.wr Q (W.1 k hk), fun k hk => Exa.wr Q (W.2.1 k hk), fun k hk => Fld.other Q (W.2.2 k hk) (Or.inl (hne k (by omega)))⟩
def own_vv (z : Nat) : Value := if z < 3 then .int (Int32.ofNat z) else .retAddr 3
theorem own_vv_cases (z : Nat) : own_vv z = .int (Int32.ofNat z) ∨ own_vv z = .retAddr 3 := by
  unfold own_vv
  split
  · exact Or.inl rfl
  · exact Or.inr rfl
theorem own_vv_ok (σ : own_N) (z : Nat) {v : Int32} (h1 : z < 3 → v = Int32.ofNat z) (h2 : σ.2 3 = v) : own_v σ (own_vv z) = .int v := by
  unfold own_vv
  split
  · rename_i q; rw [h1 q]; rfl
  · rw [← h2]; rfl
/-! body 1: ApiSupportsPinLaw.pick -/
def own_pr1 : List (Nat × Instr × Nat) := [(0, .iload_n 0, 1), (1, .ifCond .ne 7, 3), (4, .getstatic 7, 3), (7, .areturn, 1), (8, .iload_n 0, 1), (9, .iconst 1, 1), (10, .if_icmp .ne 7, 3), (13, .getstatic 13, 3), (16, .areturn, 1), (17, .iload_n 0, 1), (18, .iconst 2, 1), (19, .if_icmp .ne 7, 3), (22, .getstatic 16, 3), (25, .areturn, 1), (26, .iload_n 0, 1), (27, .iconst 3, 1), (28, .if_icmp .ne 7, 3), (31, .getstatic 19, 3), (34, .areturn, 1), (35, .iload_n 0, 1), (36, .iconst 4, 1), (37, .if_icmp .ne 7, 3), (40, .getstatic 22, 3), (43, .areturn, 1), (44, .iload_n 0, 1), (45, .iconst 5, 1), (46, .if_icmp .ne 7, 3), (49, .getstatic 25, 3), (52, .areturn, 1), (53, .iload_n 0, 1), (54, .bipush 6, 2), (56, .if_icmp .ne 7, 3), (59, .getstatic 28, 3), (62, .areturn, 1), (63, .iload_n 0, 1), (64, .bipush 7, 2), (66, .if_icmp .ne 7, 3), (69, .getstatic 31, 3), (72, .areturn, 1), (73, .iload_n 0, 1), (74, .bipush 8, 2), (76, .if_icmp .ne 7, 3), (79, .getstatic 34, 3), (82, .areturn, 1), (83, .iload_n 0, 1), (84, .bipush 9, 2), (86, .if_icmp .ne 7, 3), (89, .getstatic 37, 3), (92, .areturn, 1), (93, .getstatic 40, 3), (96, .areturn, 1)]
set_option maxRecDepth 65536 in
set_option maxHeartbeats 40000000 in
theorem own_dc1 : ∀ q ∈ own_pr1, decode method_2_code q.1 = .ok q.2 := by decide +kernel
theorem own_pn1 : plainName "com/example/evenkeel/evenkeel/ApiSupportsPinLaw" = true := by first | (simp [plainName, overriddenIn]; done) | decide +kernel
theorem own_pd1 : parseMethodDescriptor "(I)Lcom/example/evenkeel/evenkeel/Api;" = some ⟨[.int], some (.object "com/example/evenkeel/evenkeel/Api")⟩ := by decide +kernel
def own_tb1 (z0 : Nat) : List own_E := [(4, 7, [], [.ref 0])] ++ ([(13, 16, [], [.ref 1])] ++ ([(22, 25, [], [.ref 2])] ++ ([(31, 34, [], [.ref 3])] ++ ([(40, 43, [], [.ref 4])] ++ ([(49, 52, [], [.ref 5])] ++ ([(59, 62, [], [.ref 6])] ++ ([(69, 72, [], [.ref 7])] ++ ([(79, 82, [], [.ref 8])] ++ ([(89, 92, [], [.ref 9])] ++ ([(93, 96, [], [.ref 10])]))))))))))
set_option maxRecDepth 65536 in
set_option maxHeartbeats 40000000 in
theorem own_ok1 {p : Program} {l : Launch} {e : Env} {s : State} {m : MethodId} {args : Array Value} {below : List Frame} {meth : Method} {c : Code} {locs : List Loc} {cells slots : Nat} {h : Heap} {σ : own_N} {Z : State} {a0 : Array Value} (hw : ∀ d ∈ tables_1, d.before a0 Z = true) (W : own_W Z h σ) (hi : own_inj σ 0) (C : own_Cx p s m c Z "com/example/evenkeel/evenkeel/ApiSupportsPinLaw" method_2_code 1) (hcs : cells ≤ Room.cells ({ frames := 0, cells := 0, slots := 0, locals := 0 } : Room) ∧ slots ≤ Room.slots ({ frames := 0, cells := 0, slots := 0, locals := 0 } : Room)) (z0 : Nat) (hz0 : z0 < 11) : own_ok p l e ({ frames := 0, cells := 0, slots := 0, locals := 0 } : Room) s m args below meth c locs cells slots h σ 1 (own_tb1 z0) := own_ok_app (own_ok_cons (fun L rest _ _ => own_e_static (σ := σ) (pc := 4) (v := .ref 0) C (hw _ (List.mem_of_getElem? (i := 6) rfl)) (W.1 0 (by decide)) (own_dc1 (4, .getstatic 7, 3) (List.mem_of_getElem? (i := 2) rfl)) L rest) own_ok_nil) (own_ok_app (own_ok_cons (fun L rest _ _ => own_e_static (σ := σ) (pc := 13) (v := .ref 1) C (hw _ (List.mem_of_getElem? (i := 16) rfl)) (W.1 1 (by decide)) (own_dc1 (13, .getstatic 13, 3) (List.mem_of_getElem? (i := 7) rfl)) L rest) own_ok_nil) (own_ok_app (own_ok_cons (fun L rest _ _ => own_e_static (σ := σ) (pc := 22) (v := .ref 2) C (hw _ (List.mem_of_getElem? (i := 26) rfl)) (W.1 2 (by decide)) (own_dc1 (22, .getstatic 16, 3) (List.mem_of_getElem? (i := 12) rfl)) L rest) own_ok_nil) (own_ok_app (own_ok_cons (fun L rest _ _ => own_e_static (σ := σ) (pc := 31) (v := .ref 3) C (hw _ (List.mem_of_getElem? (i := 24) rfl)) (W.1 3 (by decide)) (own_dc1 (31, .getstatic 19, 3) (List.mem_of_getElem? (i := 17) rfl)) L rest) own_ok_nil) (own_ok_app (own_ok_cons (fun L rest _ _ => own_e_static (σ := σ) (pc := 40) (v := .ref 4) C (hw _ (List.mem_of_getElem? (i := 34) rfl)) (W.1 4 (by decide)) (own_dc1 (40, .getstatic 22, 3) (List.mem_of_getElem? (i := 22) rfl)) L rest) own_ok_nil) (own_ok_app (own_ok_cons (fun L rest _ _ => own_e_static (σ := σ) (pc := 49) (v := .ref 5) C (hw _ (List.mem_of_getElem? (i := 22) rfl)) (W.1 5 (by decide)) (own_dc1 (49, .getstatic 25, 3) (List.mem_of_getElem? (i := 27) rfl)) L rest) own_ok_nil) (own_ok_app (own_ok_cons (fun L rest _ _ => own_e_static (σ := σ) (pc := 59) (v := .ref 6) C (hw _ (List.mem_of_getElem? (i := 28) rfl)) (W.1 6 (by decide)) (own_dc1 (59, .getstatic 28, 3) (List.mem_of_getElem? (i := 32) rfl)) L rest) own_ok_nil) (own_ok_app (own_ok_cons (fun L rest _ _ => own_e_static (σ := σ) (pc := 69) (v := .ref 7) C (hw _ (List.mem_of_getElem? (i := 30) rfl)) (W.1 7 (by decide)) (own_dc1 (69, .getstatic 31, 3) (List.mem_of_getElem? (i := 37) rfl)) L rest) own_ok_nil) (own_ok_app (own_ok_cons (fun L rest _ _ => own_e_static (σ := σ) (pc := 79) (v := .ref 8) C (hw _ (List.mem_of_getElem? (i := 20) rfl)) (W.1 8 (by decide)) (own_dc1 (79, .getstatic 34, 3) (List.mem_of_getElem? (i := 42) rfl)) L rest) own_ok_nil) (own_ok_app (own_ok_cons (fun L rest _ _ => own_e_static (σ := σ) (pc := 89) (v := .ref 9) C (hw _ (List.mem_of_getElem? (i := 32) rfl)) (W.1 9 (by decide)) (own_dc1 (89, .getstatic 37, 3) (List.mem_of_getElem? (i := 47) rfl)) L rest) own_ok_nil) (own_ok_cons (fun L rest _ _ => own_e_static (σ := σ) (pc := 93) (v := .ref 10) C (hw _ (List.mem_of_getElem? (i := 18) rfl)) (W.1 10 (by decide)) (own_dc1 (93, .getstatic 40, 3) (List.mem_of_getElem? (i := 49) rfl)) L rest) own_ok_nil))))))))))
set_option maxRecDepth 65536 in
set_option maxHeartbeats 40000000 in
theorem own_chk1 : ∀ z0, z0 < 11 → own_ends own_pr1 (.object "com/example/evenkeel/evenkeel/Api") (.ref z0) (own_run 0 1 own_pr1 (own_tb1 z0) 99999 400 (0, [.val (.int (Int32.ofNat z0))], [])) = true := by decide +kernel
theorem own_ef1 (σ : own_N) (m : MethodId) (z0 : Nat) : entryFrame m (([.int (Int32.ofNat z0)] : List Value).map (own_v σ)).toArray 1 = own_f σ m (0, [.val (.int (Int32.ofNat z0))], []) := by first | rfl | simp [entryFrame, own_f, own_s, own_v, argsToLocals, Value.category]
set_option maxRecDepth 65536 in
set_option maxHeartbeats 40000000 in
theorem own_met1 (l : Launch) (Z : State) (a0 : Array Value) (hw : ∀ d ∈ tables_1, d.before a0 Z = true) (h : Heap) (σ : own_N) (W : own_W Z h σ) (hi : own_inj σ 0) (z0 : Nat) (hz0 : z0 < 11) : own_Met l Z (⟨"com/example/evenkeel/evenkeel/ApiSupportsPinLaw", "pick", "(I)Lcom/example/evenkeel/evenkeel/Api;"⟩ : MethodName) method_2_code 1 (.object "com/example/evenkeel/evenkeel/Api") [] ({ frames := 0, cells := 0, slots := 0, locals := 0 } : Room) h (([.int (Int32.ofNat z0)] : List Value).map (own_v σ)).toArray (own_v σ (.ref z0)) :=
  own_met (plainFor_of_name own_pn1) own_dc1 (own_run 0 1 own_pr1 (own_tb1 z0) 99999 400 (0, [.val (.int (Int32.ofNat z0))], [])) (own_chk1 z0 hz0) (fun p e s m below meth c C => by rw [own_ef1 σ m z0]; exact own_run_ok C.1 hi (fun q hq => hb C.2.2.2.1 (own_dc1 q hq)) (own_ok1 hw W hi C ⟨Nat.zero_le _, Nat.zero_le _⟩ z0 hz0) _ _ _)
/-! body 2: Api.supports -/
def own_pr2 : List (Nat × Instr × Nat) := [(0, .iload_n 1, 1), (1, .ifCond .lt 15, 3), (4, .iload_n 1, 1), (5, .aload_n 0, 1), (6, .getfield 67, 3), (9, .if_icmp .gt 7, 3), (12, .iconst 1, 1), (13, .goto 4, 3), (16, .iconst 0, 1), (17, .ireturn, 1)]
set_option maxRecDepth 65536 in
set_option maxHeartbeats 40000000 in
theorem own_dc2 : ∀ q ∈ own_pr2, decode prog_1_method_6_code q.1 = .ok q.2 := by decide +kernel
theorem own_pn2 : plainName "com/example/evenkeel/evenkeel/Api" = true := by first | (simp [plainName, overriddenIn]; done) | decide +kernel
theorem own_pd2 : parseMethodDescriptor "(S)Z" = some ⟨[.short], some .boolean⟩ := by decide +kernel
def own_tb2 (z0 : Nat) (z2 : Nat) : List own_E := (if z2 = 3 then [(1, 16, [.retAddr 3], [])] else if z2 = 4 then [(1, 4, [.retAddr 3], [])] else []) ++ (((List.range 11).map fun k => (6, 9, [.ref k], [.int (own_x_newestVersion k)])) ++ ((if z2 = 4 then ((List.range 3).map fun w => (9, 16, [.int (Int32.ofNat w), .retAddr 3], [])) else [])))
set_option maxRecDepth 65536 in
set_option maxHeartbeats 40000000 in
theorem own_ok2 {p : Program} {l : Launch} {e : Env} {s : State} {m : MethodId} {args : Array Value} {below : List Frame} {meth : Method} {c : Code} {locs : List Loc} {cells slots : Nat} {h : Heap} {σ : own_N} {Z : State} {a0 : Array Value} (hw : ∀ d ∈ tables_1, d.before a0 Z = true) (W : own_W Z h σ) (hi : own_inj σ 0) (C : own_Cx p s m c Z "com/example/evenkeel/evenkeel/Api" prog_1_method_6_code 2) (hcs : cells ≤ Room.cells ({ frames := 0, cells := 0, slots := 0, locals := 0 } : Room) ∧ slots ≤ Room.slots ({ frames := 0, cells := 0, slots := 0, locals := 0 } : Room)) (z0 : Nat) (hz0 : z0 < 11) (z2 : Nat) (hz2 : z2 < 5) (HN : z2 = 3 → σ.2 3 < 0) (HG : z2 = 4 → Int32.ofNat 3 ≤ σ.2 3) : own_ok p l e ({ frames := 0, cells := 0, slots := 0, locals := 0 } : Room) s m args below meth c locs cells slots h σ 2 (own_tb2 z0 z2) := own_ok_app (own_ok_if (fun q => own_ok_cons (fun L rest _ _ => own_e_ifT (σ := σ) (pc := 1) (pc' := 16) (a := .retAddr 3) C rfl ((if0 _ _).trans (tlt (HN q)).1) (own_dc2 (1, .ifCond .lt 15, 3) (List.mem_of_getElem? (i := 1) rfl)) (by decide) (by decide) L rest) own_ok_nil) (fun _ => own_ok_if (fun q => own_ok_cons (fun L rest _ _ => own_e_ifF (σ := σ) (pc := 1) (a := .retAddr 3) C rfl ((if0 _ _).trans (flt (own_nlt0 (HG q))).1) (own_dc2 (1, .ifCond .lt 15, 3) (List.mem_of_getElem? (i := 1) rfl)) L rest) own_ok_nil) (fun _ => own_ok_nil))) (own_ok_app (own_ok_range (f := fun k => (6, 9, [.ref k], [.int (own_x_newestVersion k)])) (fun k hk L rest _ _ => own_e_field (σ := σ) (pc := 6) (k := k) (v := .int (own_x_newestVersion k)) C (hw _ (List.mem_of_getElem? (i := 14) rfl)) (W.2.2 k hk) (own_dc2 (6, .getfield 67, 3) (List.mem_of_getElem? (i := 4) rfl)) L rest)) (own_ok_if (fun q => own_ok_range (f := fun w => (9, 16, [.int (Int32.ofNat w), .retAddr 3], [])) (fun w hw' L rest _ _ => own_e_icT (σ := σ) (pc := 9) (pc' := 16) (a := .retAddr 3) (b := .int (Int32.ofNat w)) C rfl rfl (tlt (own_ltn hw' (by decide) (HG q))).2.2.1 (own_dc2 (9, .if_icmp .gt 7, 3) (List.mem_of_getElem? (i := 5) rfl)) (by decide) (by decide) L rest)) (fun _ => own_ok_nil)))
set_option maxRecDepth 65536 in
set_option maxHeartbeats 40000000 in
theorem own_chk2 : ∀ z0, z0 < 11 → ∀ z2, z2 < 5 → own_ends own_pr2 .boolean (.int (if z2 < 3 ∧ Int32.ofNat z2 ≤ own_x_newestVersion z0 then 1 else 0)) (own_run 0 2 own_pr2 (own_tb2 z0 z2) 99999 400 (0, [.val (.ref z0), .val (own_vv z2)], [])) = true := by decide +kernel
theorem own_ef2 (σ : own_N) (m : MethodId) (z0 : Nat) (z2 : Nat) : entryFrame m (([.ref z0, own_vv z2] : List Value).map (own_v σ)).toArray 2 = own_f σ m (0, [.val (.ref z0), .val (own_vv z2)], []) := by first | rfl | (rcases own_vv_cases z2 with q | q <;> rw [q] <;> rfl)
set_option maxRecDepth 65536 in
set_option maxHeartbeats 40000000 in
theorem own_met2 (l : Launch) (Z : State) (a0 : Array Value) (hw : ∀ d ∈ tables_1, d.before a0 Z = true) (h : Heap) (σ : own_N) (W : own_W Z h σ) (hi : own_inj σ 0) (z0 : Nat) (hz0 : z0 < 11) (z2 : Nat) (hz2 : z2 < 5) (HN : z2 = 3 → σ.2 3 < 0) (HG : z2 = 4 → Int32.ofNat 3 ≤ σ.2 3) : own_Met l Z (⟨"com/example/evenkeel/evenkeel/Api", "supports", "(S)Z"⟩ : MethodName) prog_1_method_6_code 2 .boolean [] ({ frames := 0, cells := 0, slots := 0, locals := 0 } : Room) h (([.ref z0, own_vv z2] : List Value).map (own_v σ)).toArray (own_v σ (.int (if z2 < 3 ∧ Int32.ofNat z2 ≤ own_x_newestVersion z0 then 1 else 0))) :=
  own_met (plainFor_of_name own_pn2) own_dc2 (own_run 0 2 own_pr2 (own_tb2 z0 z2) 99999 400 (0, [.val (.ref z0), .val (own_vv z2)], [])) (own_chk2 z0 hz0 z2 hz2) (fun p e s m below meth c C => by rw [own_ef2 σ m z0 z2]; exact own_run_ok C.1 hi (fun q hq => hb C.2.2.2.1 (own_dc2 q hq)) (own_ok2 hw W hi C ⟨Nat.zero_le _, Nat.zero_le _⟩ z0 hz0 z2 hz2 HN HG) _ _ _)
/-! body 0: ApiSupportsPinLaw.law -/
def own_pr0 : List (Nat × Instr × Nat) := [(0, .iload_n 0, 1), (1, .ldc 43, 2), (3, .iand, 1), (4, .bipush 11, 2), (6, .irem, 1), (7, .istore_n 3, 1), (8, .bipush 11, 2), (10, .newarray .int, 2), (12, .dup, 1), (13, .iconst 0, 1), (14, .iconst 0, 1), (15, .iastore, 1), (16, .dup, 1), (17, .iconst 1, 1), (18, .iconst 0, 1), (19, .iastore, 1), (20, .dup, 1), (21, .iconst 2, 1), (22, .iconst 2, 1), (23, .iastore, 1), (24, .dup, 1), (25, .iconst 3, 1), (26, .iconst 1, 1), (27, .iastore, 1), (28, .dup, 1), (29, .iconst 4, 1), (30, .iconst 1, 1), (31, .iastore, 1), (32, .dup, 1), (33, .iconst 5, 1), (34, .iconst 1, 1), (35, .iastore, 1), (36, .dup, 1), (37, .bipush 6, 2), (39, .iconst 0, 1), (40, .iastore, 1), (41, .dup, 1), (42, .bipush 7, 2), (44, .iconst 1, 1), (45, .iastore, 1), (46, .dup, 1), (47, .bipush 8, 2), (49, .iconst 1, 1), (50, .iastore, 1), (51, .dup, 1), (52, .bipush 9, 2), (54, .iconst 0, 1), (55, .iastore, 1), (56, .dup, 1), (57, .bipush 10, 2), (59, .iconst 0, 1), (60, .iastore, 1), (61, .astore 4, 2), (63, .iload_n 3, 1), (64, .invokestatic 44, 3), (67, .astore 5, 2), (69, .iload_n 2, 1), (70, .iconst 1, 1), (71, .iand, 1), (72, .ifCond .eq 20, 3), (75, .aload 4, 2), (77, .iload_n 3, 1), (78, .iaload, 1), (79, .iload_n 1, 1), (80, .bipush 7, 2), (82, .iand, 1), (83, .iconst 4, 1), (84, .isub, 1), (85, .iadd, 1), (86, .i2s, 1), (87, .istore 6, 2), (89, .goto 7, 3), (92, .iload_n 1, 1), (93, .i2s, 1), (94, .istore 6, 2), (96, .iload 6, 2), (98, .ifCond .lt 16, 3), (101, .iload 6, 2), (103, .aload 4, 2), (105, .iload_n 3, 1), (106, .iaload, 1), (107, .if_icmp .gt 7, 3), (110, .iconst 1, 1), (111, .goto 4, 3), (114, .iconst 0, 1), (115, .istore 7, 2), (117, .aload 5, 2), (119, .iload 6, 2), (121, .invokevirtual 50, 3), (124, .iload 7, 2), (126, .if_icmp .ne 7, 3), (129, .iconst 1, 1), (130, .goto 4, 3), (133, .iconst 0, 1), (134, .ireturn, 1)]
set_option maxRecDepth 65536 in
set_option maxHeartbeats 40000000 in
theorem own_dc0 : ∀ q ∈ own_pr0, decode code q.1 = .ok q.2 := by decide +kernel
theorem own_pn0 : plainName "com/example/evenkeel/evenkeel/ApiSupportsPinLaw" = true := by first | (simp [plainName, overriddenIn]; done) | decide +kernel
def own_tb0 (z0 : Nat) (z1 : Nat) (z2 : Nat) : List own_E := [(1, 3, [], [.int 2147483647])] ++ ([(3, 4, [.int 2147483647, .retAddr 0], [.retAddr 4])] ++ ([(6, 7, [.int 11, .retAddr 4], [.int (Int32.ofNat z0)])] ++ (((List.range 11).map fun z0 => (64, 67, [.int (Int32.ofNat z0)], [.ref z0])) ++ ([(71, 72, [.int 1, .retAddr 2], [.int (Int32.ofNat z1)])] ++ ([(82, 83, [.int 7, .retAddr 1], [.retAddr 5])] ++ ([(84, 85, [.int 4, .retAddr 5], [.retAddr 6])] ++ ([(85, 86, [.retAddr 6, .int (own_x_newestVersion z0)], [.retAddr 7])] ++ ((if z1 = 0 then [] else [(86, 87, [.retAddr 7], [own_vv z2])]) ++ ((if z1 = 0 then [(93, 94, [.retAddr 1], [own_vv z2])] else []) ++ ((if z2 = 3 then [(98, 114, [.retAddr 3], [])] else if z2 = 4 then [(98, 101, [.retAddr 3], [])] else []) ++ ((if z2 = 4 then ((List.range 3).map fun w => (107, 114, [.int (Int32.ofNat w), .retAddr 3], [])) else []) ++ (((List.range 11).map fun z0 => (121, 124, [own_vv z2, .ref z0], [.int (if z2 < 3 ∧ Int32.ofNat z2 ≤ own_x_newestVersion z0 then 1 else 0)]))))))))))))))
set_option maxRecDepth 65536 in
set_option maxHeartbeats 40000000 in
theorem own_ok0 {p : Program} {l : Launch} {e : Env} {s : State} {m : MethodId} {args : Array Value} {below : List Frame} {meth : Method} {c : Code} {locs : List Loc} {cells slots : Nat} {h : Heap} {σ : own_N} {Z : State} {a0 : Array Value} (hw : ∀ d ∈ tables_1, d.before a0 Z = true) (W : own_W Z h σ) (hi : own_inj σ 0) (C : own_Cx p s m c Z "com/example/evenkeel/evenkeel/ApiSupportsPinLaw" code 8) (hcs : cells ≤ Room.cells room_1 ∧ slots ≤ Room.slots room_1) (z0 : Nat) (hz0 : z0 < 11) (z1 : Nat) (hz1 : z1 < 2) (z2 : Nat) (hz2 : z2 < 5) (H0a : σ.2 4 = σ.2 0 &&& 2147483647) (H0 : Int32.ofNat z0 = σ.2 4 % 11) (H1 : Int32.ofNat z1 = σ.2 2 &&& 1) (Ha : σ.2 5 = σ.2 1 &&& 7) (Hb : σ.2 6 = σ.2 5 - 4) (Hc : σ.2 7 = own_x_newestVersion z0 + σ.2 6) (HK0 : z1 = 0 → own_v σ (own_vv z2) = .int (σ.2 1).toInt16.toInt32) (HK1 : z1 ≠ 0 → own_v σ (own_vv z2) = .int (σ.2 7).toInt16.toInt32) (HN : z2 = 3 → σ.2 3 < 0) (HG : z2 = 4 → Int32.ofNat 3 ≤ σ.2 3) : own_ok p l e room_1 s m args below meth c locs cells slots h σ 8 (own_tb0 z0 z1 z2) := own_ok_app (own_ok_cons (fun L rest _ _ => own_e_ldc (σ := σ) (pc := 1) (v := 2147483647) C (hw _ (List.mem_of_getElem? (i := 0) rfl)) (own_dc0 (1, .ldc 43, 2) (List.mem_of_getElem? (i := 1) rfl)) L rest) own_ok_nil) (own_ok_app (own_ok_cons (fun L rest _ _ => own_e_iand (σ := σ) (pc := 3) (a := .retAddr 0) (b := .int 2147483647) (r := .retAddr 4) C rfl rfl (congrArg Value.int H0a) (own_dc0 (3, .iand, 1) (List.mem_of_getElem? (i := 2) rfl)) L rest) own_ok_nil) (own_ok_app (own_ok_cons (fun L rest _ _ => own_e_irem (σ := σ) (pc := 6) (a := .retAddr 4) (b := .int 11) (r := .int (Int32.ofNat z0)) C rfl rfl (by decide) (congrArg Value.int H0) (own_dc0 (6, .irem, 1) (List.mem_of_getElem? (i := 4) rfl)) L rest) own_ok_nil) (own_ok_app (own_ok_range (f := fun z0 => (64, 67, [.int (Int32.ofNat z0)], [.ref z0])) (fun z0 hz0 => (fun L rest hL h4 => own_e_callS (σ := σ) (pc := 64) (as := [.int (Int32.ofNat z0)]) (v := .ref z0) C (own_met1 l Z a0 hw h σ W hi z0 hz0) (hw _ (List.mem_of_getElem? (i := 2) rfl)) (hw _ (List.mem_of_getElem? (i := 3) rfl)) (hw _ (List.mem_of_getElem? (i := 4) rfl)) (hw _ (List.mem_of_getElem? (i := 5) rfl)) (by decide) own_pd1 rfl ⟨by decide, by decide, rfl, rfl, hcs.1, hcs.2⟩ (own_dc0 (64, .invokestatic 44, 3) (List.mem_of_getElem? (i := 54) rfl)) L rest hL h4))) (own_ok_app (own_ok_cons (fun L rest _ _ => own_e_iand (σ := σ) (pc := 71) (a := .retAddr 2) (b := .int 1) (r := .int (Int32.ofNat z1)) C rfl rfl (congrArg Value.int H1) (own_dc0 (71, .iand, 1) (List.mem_of_getElem? (i := 58) rfl)) L rest) own_ok_nil) (own_ok_app (own_ok_cons (fun L rest _ _ => own_e_iand (σ := σ) (pc := 82) (a := .retAddr 1) (b := .int 7) (r := .retAddr 5) C rfl rfl (congrArg Value.int Ha) (own_dc0 (82, .iand, 1) (List.mem_of_getElem? (i := 65) rfl)) L rest) own_ok_nil) (own_ok_app (own_ok_cons (fun L rest _ _ => own_e_isub (σ := σ) (pc := 84) (a := .retAddr 5) (b := .int 4) (r := .retAddr 6) C rfl rfl (congrArg Value.int Hb) (own_dc0 (84, .isub, 1) (List.mem_of_getElem? (i := 67) rfl)) L rest) own_ok_nil) (own_ok_app (own_ok_cons (fun L rest _ _ => own_e_iadd (σ := σ) (pc := 85) (a := .int (own_x_newestVersion z0)) (b := .retAddr 6) (r := .retAddr 7) C rfl rfl (congrArg Value.int Hc) (own_dc0 (85, .iadd, 1) (List.mem_of_getElem? (i := 68) rfl)) L rest) own_ok_nil) (own_ok_app (own_ok_if (fun _ => own_ok_nil) (fun q => own_ok_cons (fun L rest _ _ => own_e_i2s (σ := σ) (pc := 86) (a := .retAddr 7) (r := own_vv z2) C rfl (HK1 q) (own_dc0 (86, .i2s, 1) (List.mem_of_getElem? (i := 69) rfl)) L rest) own_ok_nil)) (own_ok_app (own_ok_if (fun q => own_ok_cons (fun L rest _ _ => own_e_i2s (σ := σ) (pc := 93) (a := .retAddr 1) (r := own_vv z2) C rfl (HK0 q) (own_dc0 (93, .i2s, 1) (List.mem_of_getElem? (i := 73) rfl)) L rest) own_ok_nil) (fun _ => own_ok_nil)) (own_ok_app (own_ok_if (fun q => own_ok_cons (fun L rest _ _ => own_e_ifT (σ := σ) (pc := 98) (pc' := 114) (a := .retAddr 3) C rfl ((if0 _ _).trans (tlt (HN q)).1) (own_dc0 (98, .ifCond .lt 16, 3) (List.mem_of_getElem? (i := 76) rfl)) (by decide) (by decide) L rest) own_ok_nil) (fun _ => own_ok_if (fun q => own_ok_cons (fun L rest _ _ => own_e_ifF (σ := σ) (pc := 98) (a := .retAddr 3) C rfl ((if0 _ _).trans (flt (own_nlt0 (HG q))).1) (own_dc0 (98, .ifCond .lt 16, 3) (List.mem_of_getElem? (i := 76) rfl)) L rest) own_ok_nil) (fun _ => own_ok_nil))) (own_ok_app (own_ok_if (fun q => own_ok_range (f := fun w => (107, 114, [.int (Int32.ofNat w), .retAddr 3], [])) (fun w hw' L rest _ _ => own_e_icT (σ := σ) (pc := 107) (pc' := 114) (a := .retAddr 3) (b := .int (Int32.ofNat w)) C rfl rfl (tlt (own_ltn hw' (by decide) (HG q))).2.2.1 (own_dc0 (107, .if_icmp .gt 7, 3) (List.mem_of_getElem? (i := 81) rfl)) (by decide) (by decide) L rest)) (fun _ => own_ok_nil)) (own_ok_range (f := fun z0 => (121, 124, [own_vv z2, .ref z0], [.int (if z2 < 3 ∧ Int32.ofNat z2 ≤ own_x_newestVersion z0 then 1 else 0)])) (fun z0 hz0 => (fun L rest hL h4 => own_e_callV (σ := σ) (pc := 121) (k := z0) (as := [own_vv z2]) (v := .int (if z2 < 3 ∧ Int32.ofNat z2 ≤ own_x_newestVersion z0 then 1 else 0)) C (own_met2 l Z a0 hw h σ W hi z0 hz0 z2 hz2 HN HG) (W.2.1 z0 hz0) (hw _ (List.mem_of_getElem? (i := 9) rfl)) (hw _ (List.mem_of_getElem? (i := 10) rfl)) (hw _ (List.mem_of_getElem? (i := 11) rfl)) (hw _ (List.mem_of_getElem? (i := 12) rfl)) (hw _ (List.mem_of_getElem? (i := 7) rfl)) (hw _ (List.mem_of_getElem? (i := 13) rfl)) (by decide) own_pd2 rfl ⟨by decide, by decide, rfl, rfl, hcs.1, hcs.2⟩ (own_dc0 (121, .invokevirtual 50, 3) (List.mem_of_getElem? (i := 88) rfl)) L rest hL h4))))))))))))))
def own_vs (σ : own_N) : List Value := [.int 0, .int 0, .int 2, .int 1, .int 1, .int 1, .int 0, .int 1, .int 1, .int 0, .int 0]
def own_ld : Nat → Value
  | 0 => .int 0
  | 1 => .int 0
  | 2 => .int 2
  | 3 => .int 1
  | 4 => .int 1
  | 5 => .int 1
  | 6 => .int 0
  | 7 => .int 1
  | 8 => .int 1
  | 9 => .int 0
  | 10 => .int 0
  | _ => .null
theorem own_ld_ok (σ : own_N) : ∀ k, k < 11 → (own_vs σ).getD (Int32.ofNat k).toNatClampNeg (.int 0) = own_v σ (own_ld k) := fun k hk => match k, hk with | 0, _ => rfl | 1, _ => rfl | 2, _ => rfl | 3, _ => rfl | 4, _ => rfl | 5, _ => rfl | 6, _ => rfl | 7, _ => rfl | 8, _ => rfl | 9, _ => rfl | 10, _ => rfl | k + 11, hk => absurd hk (by omega)
theorem own_ix : ∀ k, k < 11 → ¬ (Int32.ofNat k < 0) ∧ Int32.ofNat k < 11 := by decide
def own_tbB (z0 : Nat) (z1 : Nat) (z2 : Nat) : List own_E := own_tb0 z0 z1 z2 ++ (((List.range 11).map fun k => (78, 79, [.int (Int32.ofNat k), .ref 11], [own_ld k])) ++ (((List.range 11).map fun k => (106, 107, [.int (Int32.ofNat k), .ref 11], [own_ld k]))))
set_option maxRecDepth 65536 in
set_option maxHeartbeats 40000000 in
theorem own_okB {p : Program} {l : Launch} {e : Env} {s : State} {m : MethodId} {args : Array Value} {below : List Frame} {meth : Method} {c : Code} {locs : List Loc} {cells slots : Nat} {h : Heap} {σ : own_N} {Z : State} {a0 : Array Value} (hw : ∀ d ∈ tables_1, d.before a0 Z = true) (W : own_W Z h σ) (hi : own_inj σ 0) (C : own_Cx p s m c Z "com/example/evenkeel/evenkeel/ApiSupportsPinLaw" code 8) (hcs : cells ≤ Room.cells room_1 ∧ slots ≤ Room.slots room_1) {ck : ClassId} (V : Arv Z h (σ.1 11) ck .int 11 (own_vs σ) (.int 0)) (z0 : Nat) (hz0 : z0 < 11) (z1 : Nat) (hz1 : z1 < 2) (z2 : Nat) (hz2 : z2 < 5) (H0a : σ.2 4 = σ.2 0 &&& 2147483647) (H0 : Int32.ofNat z0 = σ.2 4 % 11) (H1 : Int32.ofNat z1 = σ.2 2 &&& 1) (Ha : σ.2 5 = σ.2 1 &&& 7) (Hb : σ.2 6 = σ.2 5 - 4) (Hc : σ.2 7 = own_x_newestVersion z0 + σ.2 6) (HK0 : z1 = 0 → own_v σ (own_vv z2) = .int (σ.2 1).toInt16.toInt32) (HK1 : z1 ≠ 0 → own_v σ (own_vv z2) = .int (σ.2 7).toInt16.toInt32) (HN : z2 = 3 → σ.2 3 < 0) (HG : z2 = 4 → Int32.ofNat 3 ≤ σ.2 3) : own_ok p l e room_1 s m args below meth c locs cells slots h σ 8 (own_tbB z0 z1 z2) := own_ok_app (own_ok0 hw W hi C hcs z0 hz0 z1 hz1 z2 hz2 H0a H0 H1 Ha Hb Hc HK0 HK1 HN HG) (own_ok_app (own_ok_range (f := fun k => (78, 79, [.int (Int32.ofNat k), .ref 11], [own_ld k])) (fun k hk L rest _ _ => own_e_iaload C V (own_ix k hk) (own_ld_ok σ k hk) (own_dc0 (78, .iaload, 1) (List.mem_of_getElem? (i := 62) rfl)) L rest)) (own_ok_range (f := fun k => (106, 107, [.int (Int32.ofNat k), .ref 11], [own_ld k])) (fun k hk L rest _ _ => own_e_iaload C V (own_ix k hk) (own_ld_ok σ k hk) (own_dc0 (106, .iaload, 1) (List.mem_of_getElem? (i := 80) rfl)) L rest)))
set_option maxRecDepth 65536 in
set_option maxHeartbeats 40000000 in
theorem own_sgN : ∀ z0, z0 < 11 → ∀ z1, z1 < 2 → ∀ z2, z2 < 5 → own_eqF (own_run 0 8 own_pr0 (own_tb0 z0 z1 z2) 10 400 (0, [.val (.retAddr 0), .val (.retAddr 1), .val (.retAddr 2), .unset, .unset, .unset, .unset, .unset], [])) ((10, [.val (.retAddr 0), .val (.retAddr 1), .val (.retAddr 2), .val (.int (Int32.ofNat z0)), .unset, .unset, .unset, .unset], [.int 11])) = true := by decide +kernel
set_option maxRecDepth 65536 in
set_option maxHeartbeats 40000000 in
theorem own_sg0 : ∀ z0, z0 < 11 → ∀ z1, z1 < 2 → ∀ z2, z2 < 5 → own_eqF (own_run 0 8 own_pr0 (own_tb0 z0 z1 z2) 15 400 (12, [.val (.retAddr 0), .val (.retAddr 1), .val (.retAddr 2), .val (.int (Int32.ofNat z0)), .unset, .unset, .unset, .unset], [.ref 11])) (15, [.val (.retAddr 0), .val (.retAddr 1), .val (.retAddr 2), .val (.int (Int32.ofNat z0)), .unset, .unset, .unset, .unset], [.int 0, .int 0, .ref 11, .ref 11]) = true := by decide +kernel
set_option maxRecDepth 65536 in
set_option maxHeartbeats 40000000 in
theorem own_sg1 : ∀ z0, z0 < 11 → ∀ z1, z1 < 2 → ∀ z2, z2 < 5 → own_eqF (own_run 0 8 own_pr0 (own_tb0 z0 z1 z2) 19 400 (16, [.val (.retAddr 0), .val (.retAddr 1), .val (.retAddr 2), .val (.int (Int32.ofNat z0)), .unset, .unset, .unset, .unset], [.ref 11])) (19, [.val (.retAddr 0), .val (.retAddr 1), .val (.retAddr 2), .val (.int (Int32.ofNat z0)), .unset, .unset, .unset, .unset], [.int 0, .int 1, .ref 11, .ref 11]) = true := by decide +kernel
set_option maxRecDepth 65536 in
set_option maxHeartbeats 40000000 in
theorem own_sg2 : ∀ z0, z0 < 11 → ∀ z1, z1 < 2 → ∀ z2, z2 < 5 → own_eqF (own_run 0 8 own_pr0 (own_tb0 z0 z1 z2) 23 400 (20, [.val (.retAddr 0), .val (.retAddr 1), .val (.retAddr 2), .val (.int (Int32.ofNat z0)), .unset, .unset, .unset, .unset], [.ref 11])) (23, [.val (.retAddr 0), .val (.retAddr 1), .val (.retAddr 2), .val (.int (Int32.ofNat z0)), .unset, .unset, .unset, .unset], [.int 2, .int 2, .ref 11, .ref 11]) = true := by decide +kernel
set_option maxRecDepth 65536 in
set_option maxHeartbeats 40000000 in
theorem own_sg3 : ∀ z0, z0 < 11 → ∀ z1, z1 < 2 → ∀ z2, z2 < 5 → own_eqF (own_run 0 8 own_pr0 (own_tb0 z0 z1 z2) 27 400 (24, [.val (.retAddr 0), .val (.retAddr 1), .val (.retAddr 2), .val (.int (Int32.ofNat z0)), .unset, .unset, .unset, .unset], [.ref 11])) (27, [.val (.retAddr 0), .val (.retAddr 1), .val (.retAddr 2), .val (.int (Int32.ofNat z0)), .unset, .unset, .unset, .unset], [.int 1, .int 3, .ref 11, .ref 11]) = true := by decide +kernel
set_option maxRecDepth 65536 in
set_option maxHeartbeats 40000000 in
theorem own_sg4 : ∀ z0, z0 < 11 → ∀ z1, z1 < 2 → ∀ z2, z2 < 5 → own_eqF (own_run 0 8 own_pr0 (own_tb0 z0 z1 z2) 31 400 (28, [.val (.retAddr 0), .val (.retAddr 1), .val (.retAddr 2), .val (.int (Int32.ofNat z0)), .unset, .unset, .unset, .unset], [.ref 11])) (31, [.val (.retAddr 0), .val (.retAddr 1), .val (.retAddr 2), .val (.int (Int32.ofNat z0)), .unset, .unset, .unset, .unset], [.int 1, .int 4, .ref 11, .ref 11]) = true := by decide +kernel
set_option maxRecDepth 65536 in
set_option maxHeartbeats 40000000 in
theorem own_sg5 : ∀ z0, z0 < 11 → ∀ z1, z1 < 2 → ∀ z2, z2 < 5 → own_eqF (own_run 0 8 own_pr0 (own_tb0 z0 z1 z2) 35 400 (32, [.val (.retAddr 0), .val (.retAddr 1), .val (.retAddr 2), .val (.int (Int32.ofNat z0)), .unset, .unset, .unset, .unset], [.ref 11])) (35, [.val (.retAddr 0), .val (.retAddr 1), .val (.retAddr 2), .val (.int (Int32.ofNat z0)), .unset, .unset, .unset, .unset], [.int 1, .int 5, .ref 11, .ref 11]) = true := by decide +kernel
set_option maxRecDepth 65536 in
set_option maxHeartbeats 40000000 in
theorem own_sg6 : ∀ z0, z0 < 11 → ∀ z1, z1 < 2 → ∀ z2, z2 < 5 → own_eqF (own_run 0 8 own_pr0 (own_tb0 z0 z1 z2) 40 400 (36, [.val (.retAddr 0), .val (.retAddr 1), .val (.retAddr 2), .val (.int (Int32.ofNat z0)), .unset, .unset, .unset, .unset], [.ref 11])) (40, [.val (.retAddr 0), .val (.retAddr 1), .val (.retAddr 2), .val (.int (Int32.ofNat z0)), .unset, .unset, .unset, .unset], [.int 0, .int 6, .ref 11, .ref 11]) = true := by decide +kernel
set_option maxRecDepth 65536 in
set_option maxHeartbeats 40000000 in
theorem own_sg7 : ∀ z0, z0 < 11 → ∀ z1, z1 < 2 → ∀ z2, z2 < 5 → own_eqF (own_run 0 8 own_pr0 (own_tb0 z0 z1 z2) 45 400 (41, [.val (.retAddr 0), .val (.retAddr 1), .val (.retAddr 2), .val (.int (Int32.ofNat z0)), .unset, .unset, .unset, .unset], [.ref 11])) (45, [.val (.retAddr 0), .val (.retAddr 1), .val (.retAddr 2), .val (.int (Int32.ofNat z0)), .unset, .unset, .unset, .unset], [.int 1, .int 7, .ref 11, .ref 11]) = true := by decide +kernel
set_option maxRecDepth 65536 in
set_option maxHeartbeats 40000000 in
theorem own_sg8 : ∀ z0, z0 < 11 → ∀ z1, z1 < 2 → ∀ z2, z2 < 5 → own_eqF (own_run 0 8 own_pr0 (own_tb0 z0 z1 z2) 50 400 (46, [.val (.retAddr 0), .val (.retAddr 1), .val (.retAddr 2), .val (.int (Int32.ofNat z0)), .unset, .unset, .unset, .unset], [.ref 11])) (50, [.val (.retAddr 0), .val (.retAddr 1), .val (.retAddr 2), .val (.int (Int32.ofNat z0)), .unset, .unset, .unset, .unset], [.int 1, .int 8, .ref 11, .ref 11]) = true := by decide +kernel
set_option maxRecDepth 65536 in
set_option maxHeartbeats 40000000 in
theorem own_sg9 : ∀ z0, z0 < 11 → ∀ z1, z1 < 2 → ∀ z2, z2 < 5 → own_eqF (own_run 0 8 own_pr0 (own_tb0 z0 z1 z2) 55 400 (51, [.val (.retAddr 0), .val (.retAddr 1), .val (.retAddr 2), .val (.int (Int32.ofNat z0)), .unset, .unset, .unset, .unset], [.ref 11])) (55, [.val (.retAddr 0), .val (.retAddr 1), .val (.retAddr 2), .val (.int (Int32.ofNat z0)), .unset, .unset, .unset, .unset], [.int 0, .int 9, .ref 11, .ref 11]) = true := by decide +kernel
set_option maxRecDepth 65536 in
set_option maxHeartbeats 40000000 in
theorem own_sg10 : ∀ z0, z0 < 11 → ∀ z1, z1 < 2 → ∀ z2, z2 < 5 → own_eqF (own_run 0 8 own_pr0 (own_tb0 z0 z1 z2) 60 400 (56, [.val (.retAddr 0), .val (.retAddr 1), .val (.retAddr 2), .val (.int (Int32.ofNat z0)), .unset, .unset, .unset, .unset], [.ref 11])) (60, [.val (.retAddr 0), .val (.retAddr 1), .val (.retAddr 2), .val (.int (Int32.ofNat z0)), .unset, .unset, .unset, .unset], [.int 0, .int 10, .ref 11, .ref 11]) = true := by decide +kernel
set_option maxRecDepth 65536 in
set_option maxHeartbeats 40000000 in
theorem own_chk0 : ∀ z0, z0 < 11 → ∀ z1, z1 < 2 → ∀ z2, z2 < 5 → own_ends own_pr0 .boolean (.int 1) (own_run 0 8 own_pr0 (own_tbB z0 z1 z2) 99999 400 (61, [.val (.retAddr 0), .val (.retAddr 1), .val (.retAddr 2), .val (.int (Int32.ofNat z0)), .unset, .unset, .unset, .unset], [.ref 11])) = true := by decide +kernel
theorem own_ef0 (σ : own_N) (m : MethodId) (z0 : Nat) (z1 : Nat) (z2 : Nat) : entryFrame m (([.retAddr 0, .retAddr 1, .retAddr 2] : List Value).map (own_v σ)).toArray 8 = own_f σ m (0, [.val (.retAddr 0), .val (.retAddr 1), .val (.retAddr 2), .unset, .unset, .unset, .unset, .unset], []) := by first | rfl | simp [entryFrame, own_f, own_s, own_v, argsToLocals, Value.category]
set_option maxRecDepth 65536 in
set_option maxHeartbeats 40000000 in
theorem own_met0 (l : Launch) (Z : State) (a0 : Array Value) (hw : ∀ d ∈ tables_1, d.before a0 Z = true) (h : Heap) (σ : own_N) (W : own_W Z h σ) (hi : own_inj σ 0) (hB : σ.1 11 = h.size) (z0 : Nat) (hz0 : z0 < 11) (z1 : Nat) (hz1 : z1 < 2) (z2 : Nat) (hz2 : z2 < 5) (H0a : σ.2 4 = σ.2 0 &&& 2147483647) (H0 : Int32.ofNat z0 = σ.2 4 % 11) (H1 : Int32.ofNat z1 = σ.2 2 &&& 1) (Ha : σ.2 5 = σ.2 1 &&& 7) (Hb : σ.2 6 = σ.2 5 - 4) (Hc : σ.2 7 = own_x_newestVersion z0 + σ.2 6) (HK0 : z1 = 0 → own_v σ (own_vv z2) = .int (σ.2 1).toInt16.toInt32) (HK1 : z1 ≠ 0 → own_v σ (own_vv z2) = .int (σ.2 7).toInt16.toInt32) (HN : z2 = 3 → σ.2 3 < 0) (HG : z2 = 4 → Int32.ofNat 3 ≤ σ.2 3) : own_MetF l Z x code 8 .boolean tables_1 room_1 h (([.retAddr 0, .retAddr 1, .retAddr 2] : List Value).map (own_v σ)).toArray (own_v σ (.int 1)) := by
  refine MetFree.of_bodySF (plainFor_of_name own_pn0) hisR ?_
  intro p e s m args below meth c s₁ Bd hml0 hP hK
  obtain ⟨rfl, hZ, hh⟩ := hP
  have hx := Bd.exec
  have hby := Bd.bytes
  have hown : s.vm.findClass "com/example/evenkeel/evenkeel/ApiSupportsPinLaw" = some m.cls := findClass_of_methodNamed Bd.named
  have C : own_Cx p s m c Z "com/example/evenkeel/evenkeel/ApiSupportsPinLaw" code 8 := ⟨hx, hZ, hown, hby, hml0⟩
  have X0 : Stand p l e room_1 s m _ below meth c s₁ [] 0 0 := Stand.of_body Bd
  have e0 : s₁.heap = h := by rw [← hh, Bd.state]; rfl
  have hpr : ∀ q ∈ own_pr0, decode c.code q.1 = .ok q.2 := fun q hq => hb hby (own_dc0 q hq)
  have hne : ∀ k, k < 11 → σ.1 k ≠ σ.1 11 := fun k hk => by
    rw [hB]; refine Nat.ne_of_lt ?_
    by_cases q : k < 11
    · exact (W.2.1 k q).lt
    · omega
  obtain ⟨Ta, Xa, ea, sa⟩ := own_run_ok (n := 0) (ml := 8) (tb := own_tb0 z0 z1 z2) hx hi hpr (own_ok0 hw W hi C ⟨by decide, by decide⟩ z0 hz0 z1 hz1 z2 hz2 H0a H0 H1 Ha Hb Hc HK0 HK1 HN HG) 10 400 (0, [.val (.retAddr 0), .val (.retAddr 1), .val (.retAddr 2), .unset, .unset, .unset, .unset, .unset], []) s₁ X0 e0
  rw [own_eqF_spec (own_sgN z0 hz0 z1 hz1 z2 hz2)] at sa
  obtain ⟨T0, h0, ck, X0', e0', E0, A0, st0⟩ := newP Xa hx hZ (hw _ (List.mem_of_getElem? (i := 1) rfl)) ea (g := own_f σ m (10, [.val (.retAddr 0), .val (.retAddr 1), .val (.retAddr 2), .val (.int (Int32.ofNat z0)), .unset, .unset, .unset, .unset], [.int 11])) rfl (hb hby (own_dc0 (10, .newarray .int, 2) (List.mem_of_getElem? (i := 7) rfl))) rfl (by decide) (cap := 11) (by decide) (by decide) (by decide) (by decide)
  rw [← hB] at A0 st0
  have V0 : Arv Z h0 (σ.1 11) ck .int 11 (List.replicate 11 (.int 0)) (.int 0) := (Arv.new A0 (by decide)).pad (pad_rep [] _ 11)
  have W0 := own_W_ext E0 W
  have N0 := Fr.nil h.size
  have hge : h.size ≤ σ.1 11 := Nat.le_of_eq hB.symm
  obtain ⟨Tp0, Xp0, ep0, sp0⟩ := own_run_ok (n := 0) (ml := 8) (tb := own_tb0 z0 z1 z2) hx hi hpr (own_ok0 hw W0 hi C ⟨by decide, by decide⟩ z0 hz0 z1 hz1 z2 hz2 H0a H0 H1 Ha Hb Hc HK0 HK1 HN HG) 15 400 (12, [.val (.retAddr 0), .val (.retAddr 1), .val (.retAddr 2), .val (.int (Int32.ofNat z0)), .unset, .unset, .unset, .unset], [.ref 11]) T0 X0' e0'
  rw [own_eqF_spec (own_sg0 z0 hz0 z1 hz1 z2 hz2)] at sp0
  obtain ⟨Tc0, hc0, lc0, Xc0, ec0, Nc0, ⟨_, _, Qc0⟩, Vc0, sc0⟩ := own_filli Xp0 ep0 C (w := 0) V0 (j := 0) (by decide) 0 rfl (Nat.le_of_ble_eq_true rfl) (own_dc0 (15, .iastore, 1) (List.mem_of_getElem? (i := 11) rfl)) N0 hge [.val (.retAddr 0), .val (.retAddr 1), .val (.retAddr 2), .val (.int (Int32.ofNat z0)), .unset, .unset, .unset, .unset] [.ref 11]
  have Wc0 := own_W_wr Qc0 hne W0
  obtain ⟨Tp1, Xp1, ep1, sp1⟩ := own_run_ok (n := 0) (ml := 8) (tb := own_tb0 z0 z1 z2) hx hi hpr (own_ok0 hw Wc0 hi C ⟨by decide, by decide⟩ z0 hz0 z1 hz1 z2 hz2 H0a H0 H1 Ha Hb Hc HK0 HK1 HN HG) 19 400 (16, [.val (.retAddr 0), .val (.retAddr 1), .val (.retAddr 2), .val (.int (Int32.ofNat z0)), .unset, .unset, .unset, .unset], [.ref 11]) Tc0 Xc0 ec0
  rw [own_eqF_spec (own_sg1 z0 hz0 z1 hz1 z2 hz2)] at sp1
  obtain ⟨Tc1, hc1, lc1, Xc1, ec1, Nc1, ⟨_, _, Qc1⟩, Vc1, sc1⟩ := own_filli Xp1 ep1 C (w := 0) Vc0 (j := 1) (by decide) 1 rfl (Nat.le_of_ble_eq_true rfl) (own_dc0 (19, .iastore, 1) (List.mem_of_getElem? (i := 15) rfl)) Nc0 hge [.val (.retAddr 0), .val (.retAddr 1), .val (.retAddr 2), .val (.int (Int32.ofNat z0)), .unset, .unset, .unset, .unset] [.ref 11]
  have Wc1 := own_W_wr Qc1 hne Wc0
  obtain ⟨Tp2, Xp2, ep2, sp2⟩ := own_run_ok (n := 0) (ml := 8) (tb := own_tb0 z0 z1 z2) hx hi hpr (own_ok0 hw Wc1 hi C ⟨by decide, by decide⟩ z0 hz0 z1 hz1 z2 hz2 H0a H0 H1 Ha Hb Hc HK0 HK1 HN HG) 23 400 (20, [.val (.retAddr 0), .val (.retAddr 1), .val (.retAddr 2), .val (.int (Int32.ofNat z0)), .unset, .unset, .unset, .unset], [.ref 11]) Tc1 Xc1 ec1
  rw [own_eqF_spec (own_sg2 z0 hz0 z1 hz1 z2 hz2)] at sp2
  obtain ⟨Tc2, hc2, lc2, Xc2, ec2, Nc2, ⟨_, _, Qc2⟩, Vc2, sc2⟩ := own_filli Xp2 ep2 C (w := 2) Vc1 (j := 2) (by decide) 2 rfl (Nat.le_of_ble_eq_true rfl) (own_dc0 (23, .iastore, 1) (List.mem_of_getElem? (i := 19) rfl)) Nc1 hge [.val (.retAddr 0), .val (.retAddr 1), .val (.retAddr 2), .val (.int (Int32.ofNat z0)), .unset, .unset, .unset, .unset] [.ref 11]
  have Wc2 := own_W_wr Qc2 hne Wc1
  obtain ⟨Tp3, Xp3, ep3, sp3⟩ := own_run_ok (n := 0) (ml := 8) (tb := own_tb0 z0 z1 z2) hx hi hpr (own_ok0 hw Wc2 hi C ⟨by decide, by decide⟩ z0 hz0 z1 hz1 z2 hz2 H0a H0 H1 Ha Hb Hc HK0 HK1 HN HG) 27 400 (24, [.val (.retAddr 0), .val (.retAddr 1), .val (.retAddr 2), .val (.int (Int32.ofNat z0)), .unset, .unset, .unset, .unset], [.ref 11]) Tc2 Xc2 ec2
  rw [own_eqF_spec (own_sg3 z0 hz0 z1 hz1 z2 hz2)] at sp3
  obtain ⟨Tc3, hc3, lc3, Xc3, ec3, Nc3, ⟨_, _, Qc3⟩, Vc3, sc3⟩ := own_filli Xp3 ep3 C (w := 1) Vc2 (j := 3) (by decide) 3 rfl (Nat.le_of_ble_eq_true rfl) (own_dc0 (27, .iastore, 1) (List.mem_of_getElem? (i := 23) rfl)) Nc2 hge [.val (.retAddr 0), .val (.retAddr 1), .val (.retAddr 2), .val (.int (Int32.ofNat z0)), .unset, .unset, .unset, .unset] [.ref 11]
  have Wc3 := own_W_wr Qc3 hne Wc2
  obtain ⟨Tp4, Xp4, ep4, sp4⟩ := own_run_ok (n := 0) (ml := 8) (tb := own_tb0 z0 z1 z2) hx hi hpr (own_ok0 hw Wc3 hi C ⟨by decide, by decide⟩ z0 hz0 z1 hz1 z2 hz2 H0a H0 H1 Ha Hb Hc HK0 HK1 HN HG) 31 400 (28, [.val (.retAddr 0), .val (.retAddr 1), .val (.retAddr 2), .val (.int (Int32.ofNat z0)), .unset, .unset, .unset, .unset], [.ref 11]) Tc3 Xc3 ec3
  rw [own_eqF_spec (own_sg4 z0 hz0 z1 hz1 z2 hz2)] at sp4
  obtain ⟨Tc4, hc4, lc4, Xc4, ec4, Nc4, ⟨_, _, Qc4⟩, Vc4, sc4⟩ := own_filli Xp4 ep4 C (w := 1) Vc3 (j := 4) (by decide) 4 rfl (Nat.le_of_ble_eq_true rfl) (own_dc0 (31, .iastore, 1) (List.mem_of_getElem? (i := 27) rfl)) Nc3 hge [.val (.retAddr 0), .val (.retAddr 1), .val (.retAddr 2), .val (.int (Int32.ofNat z0)), .unset, .unset, .unset, .unset] [.ref 11]
  have Wc4 := own_W_wr Qc4 hne Wc3
  obtain ⟨Tp5, Xp5, ep5, sp5⟩ := own_run_ok (n := 0) (ml := 8) (tb := own_tb0 z0 z1 z2) hx hi hpr (own_ok0 hw Wc4 hi C ⟨by decide, by decide⟩ z0 hz0 z1 hz1 z2 hz2 H0a H0 H1 Ha Hb Hc HK0 HK1 HN HG) 35 400 (32, [.val (.retAddr 0), .val (.retAddr 1), .val (.retAddr 2), .val (.int (Int32.ofNat z0)), .unset, .unset, .unset, .unset], [.ref 11]) Tc4 Xc4 ec4
  rw [own_eqF_spec (own_sg5 z0 hz0 z1 hz1 z2 hz2)] at sp5
  obtain ⟨Tc5, hc5, lc5, Xc5, ec5, Nc5, ⟨_, _, Qc5⟩, Vc5, sc5⟩ := own_filli Xp5 ep5 C (w := 1) Vc4 (j := 5) (by decide) 5 rfl (Nat.le_of_ble_eq_true rfl) (own_dc0 (35, .iastore, 1) (List.mem_of_getElem? (i := 31) rfl)) Nc4 hge [.val (.retAddr 0), .val (.retAddr 1), .val (.retAddr 2), .val (.int (Int32.ofNat z0)), .unset, .unset, .unset, .unset] [.ref 11]
  have Wc5 := own_W_wr Qc5 hne Wc4
  obtain ⟨Tp6, Xp6, ep6, sp6⟩ := own_run_ok (n := 0) (ml := 8) (tb := own_tb0 z0 z1 z2) hx hi hpr (own_ok0 hw Wc5 hi C ⟨by decide, by decide⟩ z0 hz0 z1 hz1 z2 hz2 H0a H0 H1 Ha Hb Hc HK0 HK1 HN HG) 40 400 (36, [.val (.retAddr 0), .val (.retAddr 1), .val (.retAddr 2), .val (.int (Int32.ofNat z0)), .unset, .unset, .unset, .unset], [.ref 11]) Tc5 Xc5 ec5
  rw [own_eqF_spec (own_sg6 z0 hz0 z1 hz1 z2 hz2)] at sp6
  obtain ⟨Tc6, hc6, lc6, Xc6, ec6, Nc6, ⟨_, _, Qc6⟩, Vc6, sc6⟩ := own_filli Xp6 ep6 C (w := 0) Vc5 (j := 6) (by decide) 6 rfl (Nat.le_of_ble_eq_true rfl) (own_dc0 (40, .iastore, 1) (List.mem_of_getElem? (i := 35) rfl)) Nc5 hge [.val (.retAddr 0), .val (.retAddr 1), .val (.retAddr 2), .val (.int (Int32.ofNat z0)), .unset, .unset, .unset, .unset] [.ref 11]
  have Wc6 := own_W_wr Qc6 hne Wc5
  obtain ⟨Tp7, Xp7, ep7, sp7⟩ := own_run_ok (n := 0) (ml := 8) (tb := own_tb0 z0 z1 z2) hx hi hpr (own_ok0 hw Wc6 hi C ⟨by decide, by decide⟩ z0 hz0 z1 hz1 z2 hz2 H0a H0 H1 Ha Hb Hc HK0 HK1 HN HG) 45 400 (41, [.val (.retAddr 0), .val (.retAddr 1), .val (.retAddr 2), .val (.int (Int32.ofNat z0)), .unset, .unset, .unset, .unset], [.ref 11]) Tc6 Xc6 ec6
  rw [own_eqF_spec (own_sg7 z0 hz0 z1 hz1 z2 hz2)] at sp7
  obtain ⟨Tc7, hc7, lc7, Xc7, ec7, Nc7, ⟨_, _, Qc7⟩, Vc7, sc7⟩ := own_filli Xp7 ep7 C (w := 1) Vc6 (j := 7) (by decide) 7 rfl (Nat.le_of_ble_eq_true rfl) (own_dc0 (45, .iastore, 1) (List.mem_of_getElem? (i := 39) rfl)) Nc6 hge [.val (.retAddr 0), .val (.retAddr 1), .val (.retAddr 2), .val (.int (Int32.ofNat z0)), .unset, .unset, .unset, .unset] [.ref 11]
  have Wc7 := own_W_wr Qc7 hne Wc6
  obtain ⟨Tp8, Xp8, ep8, sp8⟩ := own_run_ok (n := 0) (ml := 8) (tb := own_tb0 z0 z1 z2) hx hi hpr (own_ok0 hw Wc7 hi C ⟨by decide, by decide⟩ z0 hz0 z1 hz1 z2 hz2 H0a H0 H1 Ha Hb Hc HK0 HK1 HN HG) 50 400 (46, [.val (.retAddr 0), .val (.retAddr 1), .val (.retAddr 2), .val (.int (Int32.ofNat z0)), .unset, .unset, .unset, .unset], [.ref 11]) Tc7 Xc7 ec7
  rw [own_eqF_spec (own_sg8 z0 hz0 z1 hz1 z2 hz2)] at sp8
  obtain ⟨Tc8, hc8, lc8, Xc8, ec8, Nc8, ⟨_, _, Qc8⟩, Vc8, sc8⟩ := own_filli Xp8 ep8 C (w := 1) Vc7 (j := 8) (by decide) 8 rfl (Nat.le_of_ble_eq_true rfl) (own_dc0 (50, .iastore, 1) (List.mem_of_getElem? (i := 43) rfl)) Nc7 hge [.val (.retAddr 0), .val (.retAddr 1), .val (.retAddr 2), .val (.int (Int32.ofNat z0)), .unset, .unset, .unset, .unset] [.ref 11]
  have Wc8 := own_W_wr Qc8 hne Wc7
  obtain ⟨Tp9, Xp9, ep9, sp9⟩ := own_run_ok (n := 0) (ml := 8) (tb := own_tb0 z0 z1 z2) hx hi hpr (own_ok0 hw Wc8 hi C ⟨by decide, by decide⟩ z0 hz0 z1 hz1 z2 hz2 H0a H0 H1 Ha Hb Hc HK0 HK1 HN HG) 55 400 (51, [.val (.retAddr 0), .val (.retAddr 1), .val (.retAddr 2), .val (.int (Int32.ofNat z0)), .unset, .unset, .unset, .unset], [.ref 11]) Tc8 Xc8 ec8
  rw [own_eqF_spec (own_sg9 z0 hz0 z1 hz1 z2 hz2)] at sp9
  obtain ⟨Tc9, hc9, lc9, Xc9, ec9, Nc9, ⟨_, _, Qc9⟩, Vc9, sc9⟩ := own_filli Xp9 ep9 C (w := 0) Vc8 (j := 9) (by decide) 9 rfl (Nat.le_of_ble_eq_true rfl) (own_dc0 (55, .iastore, 1) (List.mem_of_getElem? (i := 47) rfl)) Nc8 hge [.val (.retAddr 0), .val (.retAddr 1), .val (.retAddr 2), .val (.int (Int32.ofNat z0)), .unset, .unset, .unset, .unset] [.ref 11]
  have Wc9 := own_W_wr Qc9 hne Wc8
  obtain ⟨Tp10, Xp10, ep10, sp10⟩ := own_run_ok (n := 0) (ml := 8) (tb := own_tb0 z0 z1 z2) hx hi hpr (own_ok0 hw Wc9 hi C ⟨by decide, by decide⟩ z0 hz0 z1 hz1 z2 hz2 H0a H0 H1 Ha Hb Hc HK0 HK1 HN HG) 60 400 (56, [.val (.retAddr 0), .val (.retAddr 1), .val (.retAddr 2), .val (.int (Int32.ofNat z0)), .unset, .unset, .unset, .unset], [.ref 11]) Tc9 Xc9 ec9
  rw [own_eqF_spec (own_sg10 z0 hz0 z1 hz1 z2 hz2)] at sp10
  obtain ⟨Tc10, hc10, lc10, Xc10, ec10, Nc10, ⟨_, _, Qc10⟩, Vc10, sc10⟩ := own_filli Xp10 ep10 C (w := 0) Vc9 (j := 10) (by decide) 10 rfl (Nat.le_of_ble_eq_true rfl) (own_dc0 (60, .iastore, 1) (List.mem_of_getElem? (i := 51) rfl)) Nc9 hge [.val (.retAddr 0), .val (.retAddr 1), .val (.retAddr 2), .val (.int (Int32.ofNat z0)), .unset, .unset, .unset, .unset] [.ref 11]
  have Wc10 := own_W_wr Qc10 hne Wc9
  have VF : Arv Z hc10 (σ.1 11) ck .int 11 (own_vs σ) (.int 0) := Vc10
  obtain ⟨Tf, Xf, ef, sf⟩ := own_run_ok (n := 0) (ml := 8) (tb := own_tbB z0 z1 z2) hx hi hpr (own_okB hw Wc10 hi C ⟨by decide, by decide⟩ VF z0 hz0 z1 hz1 z2 hz2 H0a H0 H1 Ha Hb Hc HK0 HK1 HN HG) 99999 400 (61, [.val (.retAddr 0), .val (.retAddr 1), .val (.retAddr 2), .val (.int (Int32.ofNat z0)), .unset, .unset, .unset, .unset], [.ref 11]) Tc10 Xc10 ec10
  obtain ⟨fs, hr, hrun, hended, hWW, hsame⟩ := Xf.leave (v := some (own_v σ (.int 1))) (fun h => by rw [Bd.returns] at h; cases h)
  refine ⟨_, _, castTop (own_ef0 σ m z0 z1 z2) ?_, hrun, hended, _, _, rfl, ⟨rfl, Nc10⟩, ⟨_, rfl⟩, hWW, hsame.mono (by decide) (by decide)⟩
  refine sa _ ?_
  refine st0 _ ?_
  refine sp0 _ ?_
  refine sc0 _ ?_
  refine sp1 _ ?_
  refine sc1 _ ?_
  refine sp2 _ ?_
  refine sc2 _ ?_
  refine sp3 _ ?_
  refine sc3 _ ?_
  refine sp4 _ ?_
  refine sc4 _ ?_
  refine sp5 _ ?_
  refine sc5 _ ?_
  refine sp6 _ ?_
  refine sc6 _ ?_
  refine sp7 _ ?_
  refine sc7 _ ?_
  refine sp8 _ ?_
  refine sc8 _ ?_
  refine sp9 _ ?_
  refine sc9 _ ?_
  refine sp10 _ ?_
  refine sc10 _ ?_
  refine sf _ ?_
  exact own_fin Xf hx Bd.returns hby own_dc0 _ (own_chk0 z0 hz0 z1 hz1 z2 hz2) hr
/-! from the case's words to the law's run; the owed theorems -/
set_option maxRecDepth 65536 in
set_option maxHeartbeats 40000000 in
theorem own_comes {Post : Tables → Env → Array Value → State → Outcome → State → Prop} (hpost : ∀ tb e args s v u, (limb_1_1.after args s (.returned v) u = true ∧ limb_1_2.after args s (.returned v) u = true ∧ True) → FrameEnd s (.returned v) u (Jvm.fieldLocs frame_1_writes args s ++ Jvm.arrayLocs frame_1_arrays args s ++ Jvm.staticLocs frame_1_statics s) 16 128 → Post tb e args s (.returned v) u) :
    ArmFor flags0 classFile x code maxLocals ret World_1 tables_1 room_1 Calls_1 rest_1 Pre_1 Post := by
  intro l hfl _ _ p e ha hc hk s m args below hf hA hF happ hP
  obtain ⟨hcalls, hrest, hpre⟩ := hP
  obtain ⟨-, -, -, hnamed, -, -, -, hat⟩ := (Spec.applies_iff hf).mp happ
  obtain ⟨hg, hn⟩ := and_e (Cond.before_iff.mp (show (Jvm.Cond.and given_1 narrow_1).before args s = true from hpre))
  obtain ⟨gc, gr⟩ := and_e hg
  obtain ⟨gi0, gr0⟩ := and_e gr
  obtain ⟨gi1, gr1⟩ := and_e gr0
  have gi2 := gr1
  obtain ⟨w0, w1, w2, rfl⟩ : ∃ w0 w1 w2 : Value, args = #[w0, w1, w2] := by
    have hs : args.size = 3 := by simpa [Cond.value, given_1] using gc
    obtain ⟨L⟩ := args
    match L, hs with
    | [w0, w1, w2], _ => exact ⟨w0, w1, w2, rfl⟩
  obtain ⟨i0, ei0⟩ := is_v gi0
  obtain rfl : w0 = .int i0 := Option.some.inj ei0
  obtain ⟨i1, ei1⟩ := is_v gi1
  obtain rfl : w1 = .int i1 := Option.some.inj ei1
  obtain ⟨i2, ei2⟩ := is_v gi2
  obtain rfl : w2 = .int i2 := Option.some.inj ei2
  have hw := fun d (hd : d ∈ tables_1) => atoms_spec (ws := Jvm.Cond.code x code maxLocals ret :: tables_1) hat d (List.mem_cons_of_mem _ hd)
  obtain ⟨q0, r0⟩ := and_e hn
  obtain ⟨q1, r1⟩ := and_e r0
  obtain ⟨q2, r2⟩ := and_e r1
  obtain ⟨q3, r3⟩ := and_e r2
  obtain ⟨q4, r4⟩ := and_e r3
  obtain ⟨q5, r5⟩ := and_e r4
  obtain ⟨q6, r6⟩ := and_e r5
  obtain ⟨q7, r7⟩ := and_e r6
  obtain ⟨q8, r8⟩ := and_e r7
  obtain ⟨q9, r9⟩ := and_e r8
  obtain ⟨q10, r10⟩ := and_e r9
  obtain ⟨q11, r11⟩ := and_e r10
  obtain ⟨q12, r12⟩ := and_e r11
  obtain ⟨q13, r13⟩ := and_e r12
  obtain ⟨q14, r14⟩ := and_e r13
  obtain ⟨q15, r15⟩ := and_e r14
  obtain ⟨q16, r16⟩ := and_e r15
  obtain ⟨q17, r17⟩ := and_e r16
  obtain ⟨q18, r18⟩ := and_e r17
  obtain ⟨q19, r19⟩ := and_e r18
  obtain ⟨q20, r20⟩ := and_e r19
  have q21 := r20
  obtain ⟨o0, v0, S0, E0⟩ := own_w_sta q0 (hw _ (List.mem_of_getElem? (i := 7) rfl)) (hw _ (List.mem_of_getElem? (i := 8) rfl))
  have F0_newestVersion := own_w_fld v0 q1
  obtain ⟨o1, v1, S1, E1⟩ := own_w_sta q2 (hw _ (List.mem_of_getElem? (i := 7) rfl)) (hw _ (List.mem_of_getElem? (i := 17) rfl))
  have F1_newestVersion := own_w_fld v1 q3
  obtain ⟨o2, v2, S2, E2⟩ := own_w_sta q12 (hw _ (List.mem_of_getElem? (i := 7) rfl)) (hw _ (List.mem_of_getElem? (i := 27) rfl))
  have F2_newestVersion := own_w_fld v2 q13
  obtain ⟨o3, v3, S3, E3⟩ := own_w_sta q10 (hw _ (List.mem_of_getElem? (i := 7) rfl)) (hw _ (List.mem_of_getElem? (i := 25) rfl))
  have F3_newestVersion := own_w_fld v3 q11
  obtain ⟨o4, v4, S4, E4⟩ := own_w_sta q20 (hw _ (List.mem_of_getElem? (i := 7) rfl)) (hw _ (List.mem_of_getElem? (i := 35) rfl))
  have F4_newestVersion := own_w_fld v4 q21
  obtain ⟨o5, v5, S5, E5⟩ := own_w_sta q8 (hw _ (List.mem_of_getElem? (i := 7) rfl)) (hw _ (List.mem_of_getElem? (i := 23) rfl))
  have F5_newestVersion := own_w_fld v5 q9
  obtain ⟨o6, v6, S6, E6⟩ := own_w_sta q14 (hw _ (List.mem_of_getElem? (i := 7) rfl)) (hw _ (List.mem_of_getElem? (i := 29) rfl))
  have F6_newestVersion := own_w_fld v6 q15
  obtain ⟨o7, v7, S7, E7⟩ := own_w_sta q16 (hw _ (List.mem_of_getElem? (i := 7) rfl)) (hw _ (List.mem_of_getElem? (i := 31) rfl))
  have F7_newestVersion := own_w_fld v7 q17
  obtain ⟨o8, v8, S8, E8⟩ := own_w_sta q5 (hw _ (List.mem_of_getElem? (i := 7) rfl)) (hw _ (List.mem_of_getElem? (i := 21) rfl))
  have F8_newestVersion := own_w_fld v8 q7
  obtain ⟨o9, v9, S9, E9⟩ := own_w_sta q18 (hw _ (List.mem_of_getElem? (i := 7) rfl)) (hw _ (List.mem_of_getElem? (i := 33) rfl))
  have F9_newestVersion := own_w_fld v9 q19
  obtain ⟨o10, v10, S10, E10⟩ := own_w_sta q4 (hw _ (List.mem_of_getElem? (i := 7) rfl)) (hw _ (List.mem_of_getElem? (i := 19) rfl))
  have F10_newestVersion := own_w_fld v10 q6
  obtain ⟨z0, hz0, H0⟩ := own_rem i0 11 (n := 11) (by decide) (by decide)
  obtain ⟨z1, hz1, H1⟩ := own_mask i2 1 (k := 1) (by decide) (by decide)
  obtain ⟨vv, hvv⟩ : ∃ v : Int32, v = if z1 = 0 then i1.toInt16.toInt32 else (own_x_newestVersion z0 + ((i1 &&& 7) - 4)).toInt16.toInt32 := ⟨_, rfl⟩
  obtain ⟨z2, hz2, K1, K2, K3⟩ := own_class vv 3 (by decide)
  let σ : own_N := ⟨fun k => [o0, o1, o2, o3, o4, o5, o6, o7, o8, o9, o10, s.heap.size].getD k 0, fun k => [i0, i1, i2, vv, i0 &&& 2147483647, i1 &&& 7, (i1 &&& 7) - 4, own_x_newestVersion z0 + ((i1 &&& 7) - 4)].getD k 0⟩
  have W : own_W s s.heap σ := ⟨fun k hk => match k, hk with | 0, _ => S0 | 1, _ => S1 | 2, _ => S2 | 3, _ => S3 | 4, _ => S4 | 5, _ => S5 | 6, _ => S6 | 7, _ => S7 | 8, _ => S8 | 9, _ => S9 | 10, _ => S10 | k + 11, hk => absurd hk (by omega), fun k hk => match k, hk with | 0, _ => E0 | 1, _ => E1 | 2, _ => E2 | 3, _ => E3 | 4, _ => E4 | 5, _ => E5 | 6, _ => E6 | 7, _ => E7 | 8, _ => E8 | 9, _ => E9 | 10, _ => E10 | k + 11, hk => absurd hk (by omega), fun k hk => match k, hk with | 0, _ => F0_newestVersion | 1, _ => F1_newestVersion | 2, _ => F2_newestVersion | 3, _ => F3_newestVersion | 4, _ => F4_newestVersion | 5, _ => F5_newestVersion | 6, _ => F6_newestVersion | 7, _ => F7_newestVersion | 8, _ => F8_newestVersion | 9, _ => F9_newestVersion | 10, _ => F10_newestVersion | k + 11, hk => absurd hk (by omega)⟩
  have hi : own_inj σ 0 := fun a b h => absurd h (Nat.not_lt_zero _)
  obtain ⟨n, o, h1, h2, h3, _, L, rfl, ⟨rfl, N⟩, hq⟩ := own_met0 l s _ hw s.heap σ W hi rfl z0 hz0 z1 hz1 z2 hz2 rfl H0.symm H1.symm rfl rfl rfl (fun q => (own_vv_ok σ z2 K1 rfl).trans (congrArg Value.int (hvv.trans (if_pos q)))) (fun q => (own_vv_ok σ z2 K1 rfl).trans (congrArg Value.int (hvv.trans (if_neg q)))) K2 K3 p e ha hc hk s m _ below hf ((Spec.applies_iff_loose hf).mp happ).1 ⟨rfl, State.Warmed39.refl s, rfl⟩ trivial
  refine ⟨n, _, h1, h2, h3, hpost _ _ _ _ _ _ ⟨Cond.after_iff.mpr rfl, Cond.after_iff.mpr (eq_i res_at (Term.int_eval (1)) rfl), trivial⟩ ⟨hq.1, hq.2.1, (hq.2.2.sift fun y hy => Or.inr (N y hy)).mono (by decide) (by decide)⟩⟩
theorem main_1_1 : Claimed_1_1 := own_comes fun _ _ _ _ _ _ h hF => ⟨h.1, hF⟩
theorem main_1_2 : Claimed_1_2 := own_comes fun _ _ _ _ _ _ h hF => ⟨h.2.1, hF⟩
end Jvm.Pilot.@@N@@
namespace Jvm.Pilot.@@N@@
open Jvm Jvm.ClassFile Sem Op Lib Jvm.Free Jvm.Stand Jvm.Pilot.@@N@@.Jvm.D
/-! MADE BY PROGRAM (witnessworld.py) out of the Statement's table words and the real class files: 12 classes; the members and pool entries that the words name. The judged class is class 1, her method 2. -/
namespace start1
open Jvm.ClassFile
def u (s : String) : CpInfo := .utf8 (stringToUtf16 s)
/-- a pool by its gaps: so many unusable entries, then the entry; so many at the end -/
def gap : Nat → List CpInfo → List CpInfo
  | 0, r => r
  | n + 1, r => .unusable :: gap n r
def poolList (es : List (Nat × CpInfo)) (last : Nat) : List CpInfo := es.foldr (fun e r => gap e.1 (e.2 :: r)) (gap last [])
def pool (es : List (Nat × CpInfo)) (last : Nat) : Array CpInfo := ⟨poolList es last⟩
def fileOf (pool : Array CpInfo) (this : Nat) (attrs : Array Attribute := #[]) (ms : Array MethodInfo := #[]) (fl : Nat := 33) (sup : Nat := 0) (ifs : Array Nat := #[]) (fds : Array FieldInfo := #[]) : ClassFile where
  minorVersion := 0
  majorVersion := 65
  constantPool := pool
  accessFlags := fl
  thisClass := this
  superClass := sup
  interfaces := ifs
  fields := fds
  methods := ms
  attributes := attrs
def plain (name : String) (sup : Option ClassId) : Class where
  name := name
  kind := .ordinary
  loader := none
  accessFlags := 33
  super := sup
  interfaces := #[]
  cf := none
  fields := #[]
  methods := #[]
  instanceTypes := #[]
  staticTypes := #[]
  resolved := #[]
  callSites := []
  init := .initialized
  statics := none
  mirror := none

def pool0 : Array CpInfo := pool [(5, u "<init>"), (0, u "()V"), (1, .class_ 10), (1, u "java/lang/Object")] 113

def k0m0 : Method := { name := "<init>", desc := "()V", sig := { parameters := [], returnType := none }, accessFlags := 1, code := none }
/-- java/lang/Object -/
def k0 : Class := { plain "java/lang/Object" none with
  accessFlags := 33
  interfaces := #[]
  cf := some (fileOf pool0 8 #[] #[{ accessFlags := 1, nameIndex := 5, descriptorIndex := 6, attributes := #[] }] 33 0 #[] #[])
  fields := #[]
  methods := #[k0m0]
  instanceTypes := #[]
  staticTypes := #[]
  resolved := Array.replicate 124 none
  statics := none }

def pool1 : Array CpInfo := pool [(2, .class_ 4), (1, u "java/lang/Object"), (0, u "<init>"), (0, u "()V"), (0, .fieldref 8 9), (0, .class_ 10), (0, .nameAndType 11 12), (0, u "com/example/evenkeel/evenkeel/Api"), (0, u "CREATE_TOPIC"), (0, u "Lcom/example/evenkeel/evenkeel/Api;"), (0, .fieldref 8 14), (0, .nameAndType 15 12), (0, u "LIST_TOPICS"), (0, .fieldref 8 17), (0, .nameAndType 18 12), (0, u "JOIN_GROUP"), (0, .fieldref 8 20), (0, .nameAndType 21 12), (0, u "SYNC_GROUP"), (0, .fieldref 8 23), (0, .nameAndType 24 12), (0, u "HEARTBEAT"), (0, .fieldref 8 26), (0, .nameAndType 27 12), (0, u "LEAVE_GROUP"), (0, .fieldref 8 29), (0, .nameAndType 30 12), (0, u "DESCRIBE_GROUP"), (0, .fieldref 8 32), (0, .nameAndType 33 12), (0, u "GROUP_HISTORY"), (0, .fieldref 8 35), (0, .nameAndType 36 12), (0, u "COMMIT_POSITIONS"), (0, .fieldref 8 38), (0, .nameAndType 39 12), (0, u "ADD_PARTITIONS"), (0, .fieldref 8 41), (0, .nameAndType 42 12), (0, u "DELETE_TOPIC"), (0, .integer 2147483647), (0, .methodref 45 46), (0, .class_ 47), (0, .nameAndType 48 49), (0, u "com/example/evenkeel/evenkeel/ApiSupportsPinLaw"), (0, u "pick"), (0, u "(I)Lcom/example/evenkeel/evenkeel/Api;"), (0, .methodref 8 51), (0, .nameAndType 52 53), (0, u "supports"), (0, u "(S)Z"), (3, u "law"), (0, u "(III)Z")] 4

def k1m0 : Method := { name := "<init>", desc := "()V", sig := { parameters := [], returnType := none }, accessFlags := 1, code := none }
def k1c1 : Code := { maxStack := 2, maxLocals := 1, code := method_2_code, exceptionTable := #[], attributes := #[] }
def k1m1 : Method := { name := "pick", desc := "(I)Lcom/example/evenkeel/evenkeel/Api;", sig := { parameters := [.int], returnType := some (.object "com/example/evenkeel/evenkeel/Api") }, accessFlags := 10, code := some k1c1 }
def k1c2 : Code := { maxStack := 4, maxLocals := 8, code := code, exceptionTable := #[], attributes := #[] }
def k1m2 : Method := { name := "law", desc := "(III)Z", sig := { parameters := [.int, .int, .int], returnType := some .boolean }, accessFlags := 9, code := some k1c2 }
/-- com/example/evenkeel/evenkeel/ApiSupportsPinLaw -/
def k1 : Class := { plain "com/example/evenkeel/evenkeel/ApiSupportsPinLaw" (some 0) with
  accessFlags := 49
  interfaces := #[]
  cf := some (fileOf pool1 45 #[] #[{ accessFlags := 1, nameIndex := 5, descriptorIndex := 6, attributes := #[] }, { accessFlags := 10, nameIndex := 48, descriptorIndex := 49, attributes := #[] }, { accessFlags := 9, nameIndex := 57, descriptorIndex := 58, attributes := #[] }] 49 2 #[] #[])
  fields := #[]
  methods := #[k1m0, k1m1, k1m2]
  instanceTypes := #[]
  staticTypes := #[]
  resolved := Array.replicate 63 none
  statics := none }

def pool2 : Array CpInfo := pool [(1, .class_ 2), (0, u "java/lang/constant/Constable"), (0, .class_ 4), (0, u "java/lang/Object")] 6

/-- java/lang/constant/Constable -/
def k2 : Class := { plain "java/lang/constant/Constable" (some 0) with
  accessFlags := 1537
  interfaces := #[]
  cf := some (fileOf pool2 1 #[] #[] 1537 3 #[] #[])
  fields := #[]
  methods := #[]
  instanceTypes := #[]
  staticTypes := #[]
  resolved := Array.replicate 11 none
  statics := none }

def pool3 : Array CpInfo := pool [(1, .class_ 2), (0, u "java/lang/Comparable"), (0, .class_ 4), (0, u "java/lang/Object")] 7

/-- java/lang/Comparable -/
def k3 : Class := { plain "java/lang/Comparable" (some 0) with
  accessFlags := 1537
  interfaces := #[]
  cf := some (fileOf pool3 1 #[] #[] 1537 3 #[] #[])
  fields := #[]
  methods := #[]
  instanceTypes := #[]
  staticTypes := #[]
  resolved := Array.replicate 12 none
  statics := none }

def pool4 : Array CpInfo := pool [(1, .class_ 2), (0, u "java/io/Serializable"), (0, .class_ 4), (0, u "java/lang/Object")] 2

/-- java/io/Serializable -/
def k4 : Class := { plain "java/io/Serializable" (some 0) with
  accessFlags := 1537
  interfaces := #[]
  cf := some (fileOf pool4 1 #[] #[] 1537 3 #[] #[])
  fields := #[]
  methods := #[]
  instanceTypes := #[]
  staticTypes := #[]
  resolved := Array.replicate 7 none
  statics := none }

def pool5 : Array CpInfo := pool [(2, .class_ 4), (1, u "java/lang/Enum"), (0, u "name"), (0, u "Ljava/lang/String;"), (2, u "ordinal"), (0, u "I"), (1, .class_ 14), (1, u "java/lang/Object"), (4, u "hash"), (86, .class_ 108), (1, u "java/lang/Enum$EnumDesc"), (2, .class_ 112), (0, u "java/lang/constant/Constable"), (0, .class_ 114), (0, u "java/lang/Comparable"), (0, .class_ 116), (0, u "java/io/Serializable")] 87

/-- java/lang/Enum -/
def k5 : Class := { plain "java/lang/Enum" (some 0) with
  accessFlags := 1057
  interfaces := #[2, 3, 4]
  cf := some (fileOf pool5 2 #[.nestMembers #[106]] #[] 1057 12 #[111, 113, 115] #[{ accessFlags := 18, nameIndex := 5, descriptorIndex := 6, attributes := #[] }, { accessFlags := 18, nameIndex := 9, descriptorIndex := 10, attributes := #[] }, { accessFlags := 2, nameIndex := 19, descriptorIndex := 10, attributes := #[] }])
  fields := #[{ name := "name", type := (.object "java/lang/String"), accessFlags := 18, slot := 0, constantValue := 0 }, { name := "ordinal", type := .int, accessFlags := 18, slot := 1, constantValue := 0 }, { name := "hash", type := .int, accessFlags := 2, slot := 2, constantValue := 0 }]
  methods := #[]
  instanceTypes := #[(.object "java/lang/String"), .int, .int]
  staticTypes := #[]
  resolved := Array.replicate 204 none
  statics := none }

def pool6 : Array CpInfo := pool [(1, .class_ 2), (0, u "com/example/evenkeel/evenkeel/Api"), (2, u "CREATE_TOPIC"), (0, u "Lcom/example/evenkeel/evenkeel/Api;"), (2, u "LIST_TOPICS"), (2, u "JOIN_GROUP"), (2, u "SYNC_GROUP"), (2, u "HEARTBEAT"), (2, u "LEAVE_GROUP"), (2, u "DESCRIBE_GROUP"), (2, u "GROUP_HISTORY"), (2, u "COMMIT_POSITIONS"), (2, u "ADD_PARTITIONS"), (2, u "DELETE_TOPIC"), (2, u "$VALUES"), (0, u "[Lcom/example/evenkeel/evenkeel/Api;"), (6, .class_ 49), (1, u "java/lang/Enum"), (15, u "key"), (0, u "S"), (0, .fieldref 1 68), (0, .nameAndType 69 66), (0, u "newestVersion"), (2, u "reader"), (0, u "Lcom/example/evenkeel/evenkeel/Api$RequestReader;"), (5, .class_ 81), (1, u "com/example/evenkeel/evenkeel/Api$RequestReader"), (56, u "supports"), (0, u "(S)Z")] 114

def k6c0 : Code := { maxStack := 2, maxLocals := 2, code := prog_1_method_6_code, exceptionTable := #[], attributes := #[] }
def k6m0 : Method := { name := "supports", desc := "(S)Z", sig := { parameters := [.short], returnType := some .boolean }, accessFlags := 0, code := some k6c0 }
/-- com/example/evenkeel/evenkeel/Api -/
def k6 : Class := { plain "com/example/evenkeel/evenkeel/Api" (some 5) with
  accessFlags := 16432
  interfaces := #[]
  cf := some (fileOf pool6 1 #[.nestMembers #[79]] #[{ accessFlags := 0, nameIndex := 138, descriptorIndex := 139, attributes := #[] }] 16432 47 #[] #[{ accessFlags := 16409, nameIndex := 5, descriptorIndex := 6, attributes := #[] }, { accessFlags := 16409, nameIndex := 9, descriptorIndex := 6, attributes := #[] }, { accessFlags := 16409, nameIndex := 12, descriptorIndex := 6, attributes := #[] }, { accessFlags := 16409, nameIndex := 15, descriptorIndex := 6, attributes := #[] }, { accessFlags := 16409, nameIndex := 18, descriptorIndex := 6, attributes := #[] }, { accessFlags := 16409, nameIndex := 21, descriptorIndex := 6, attributes := #[] }, { accessFlags := 16409, nameIndex := 24, descriptorIndex := 6, attributes := #[] }, { accessFlags := 16409, nameIndex := 27, descriptorIndex := 6, attributes := #[] }, { accessFlags := 16409, nameIndex := 30, descriptorIndex := 6, attributes := #[] }, { accessFlags := 16409, nameIndex := 33, descriptorIndex := 6, attributes := #[] }, { accessFlags := 16409, nameIndex := 36, descriptorIndex := 6, attributes := #[] }, { accessFlags := 16, nameIndex := 65, descriptorIndex := 66, attributes := #[] }, { accessFlags := 16, nameIndex := 69, descriptorIndex := 66, attributes := #[] }, { accessFlags := 18, nameIndex := 72, descriptorIndex := 73, attributes := #[] }, { accessFlags := 4122, nameIndex := 39, descriptorIndex := 40, attributes := #[] }])
  fields := #[{ name := "CREATE_TOPIC", type := (.object "com/example/evenkeel/evenkeel/Api"), accessFlags := 16409, slot := 0, constantValue := 0 }, { name := "LIST_TOPICS", type := (.object "com/example/evenkeel/evenkeel/Api"), accessFlags := 16409, slot := 1, constantValue := 0 }, { name := "JOIN_GROUP", type := (.object "com/example/evenkeel/evenkeel/Api"), accessFlags := 16409, slot := 2, constantValue := 0 }, { name := "SYNC_GROUP", type := (.object "com/example/evenkeel/evenkeel/Api"), accessFlags := 16409, slot := 3, constantValue := 0 }, { name := "HEARTBEAT", type := (.object "com/example/evenkeel/evenkeel/Api"), accessFlags := 16409, slot := 4, constantValue := 0 }, { name := "LEAVE_GROUP", type := (.object "com/example/evenkeel/evenkeel/Api"), accessFlags := 16409, slot := 5, constantValue := 0 }, { name := "DESCRIBE_GROUP", type := (.object "com/example/evenkeel/evenkeel/Api"), accessFlags := 16409, slot := 6, constantValue := 0 }, { name := "GROUP_HISTORY", type := (.object "com/example/evenkeel/evenkeel/Api"), accessFlags := 16409, slot := 7, constantValue := 0 }, { name := "COMMIT_POSITIONS", type := (.object "com/example/evenkeel/evenkeel/Api"), accessFlags := 16409, slot := 8, constantValue := 0 }, { name := "ADD_PARTITIONS", type := (.object "com/example/evenkeel/evenkeel/Api"), accessFlags := 16409, slot := 9, constantValue := 0 }, { name := "DELETE_TOPIC", type := (.object "com/example/evenkeel/evenkeel/Api"), accessFlags := 16409, slot := 10, constantValue := 0 }, { name := "key", type := .short, accessFlags := 16, slot := 3, constantValue := 0 }, { name := "newestVersion", type := .short, accessFlags := 16, slot := 4, constantValue := 0 }, { name := "reader", type := (.object "com/example/evenkeel/evenkeel/Api$RequestReader"), accessFlags := 18, slot := 5, constantValue := 0 }, { name := "$VALUES", type := (.array (.object "com/example/evenkeel/evenkeel/Api")), accessFlags := 4122, slot := 11, constantValue := 0 }]
  methods := #[k6m0]
  instanceTypes := #[(.object "java/lang/String"), .int, .int, .short, .short, (.object "com/example/evenkeel/evenkeel/Api$RequestReader")]
  staticTypes := #[(.object "com/example/evenkeel/evenkeel/Api"), (.object "com/example/evenkeel/evenkeel/Api"), (.object "com/example/evenkeel/evenkeel/Api"), (.object "com/example/evenkeel/evenkeel/Api"), (.object "com/example/evenkeel/evenkeel/Api"), (.object "com/example/evenkeel/evenkeel/Api"), (.object "com/example/evenkeel/evenkeel/Api"), (.object "com/example/evenkeel/evenkeel/Api"), (.object "com/example/evenkeel/evenkeel/Api"), (.object "com/example/evenkeel/evenkeel/Api"), (.object "com/example/evenkeel/evenkeel/Api"), (.array (.object "com/example/evenkeel/evenkeel/Api"))]
  resolved := Array.replicate 254 none
  statics := some 0 }

def pool7 : Array CpInfo := pool [(1, u "java/lang/Cloneable"), (0, .class_ 1), (0, u "java/lang/Object"), (0, .class_ 3)] 3

/-- java/lang/Cloneable -/
def k7 : Class := { plain "java/lang/Cloneable" (some 0) with
  accessFlags := 1537
  interfaces := #[]
  cf := some (fileOf pool7 2 #[] #[] 1537 4 #[] #[])
  fields := #[]
  methods := #[]
  instanceTypes := #[]
  staticTypes := #[]
  resolved := Array.replicate 8 none
  statics := none }

/-- the primitive byte -/
def k8 : Class := { plain "byte" none with kind := .primitive 'B', accessFlags := 0x411 }
/-- [B -/
def k9 : Class := { plain "[B" (some 0) with kind := .array 8 .byte, interfaces := #[7, 4], accessFlags := 1041 }

/-- the primitive int -/
def k10 : Class := { plain "int" none with kind := .primitive 'I', accessFlags := 0x411 }
/-- [I -/
def k11 : Class := { plain "[I" (some 0) with kind := .array 10 .int, interfaces := #[7, 4], accessFlags := 1041 }

def heap : Heap := #[{ cls := 6, slots := #[.ref 1, .ref 2, .ref 3, .ref 4, .ref 5, .ref 6, .ref 7, .ref 8, .ref 9, .ref 10, .ref 11, .null], vm := .statics 6 },
  { cls := 6, slots := #[.null, .int 0, .int 0, .int 0, .int 0, .null], vm := .none },
  { cls := 6, slots := #[.null, .int 1, .int 0, .int 0, .int 0, .null], vm := .none },
  { cls := 6, slots := #[.null, .int 2, .int 0, .int 0, .int 2, .null], vm := .none },
  { cls := 6, slots := #[.null, .int 3, .int 0, .int 0, .int 1, .null], vm := .none },
  { cls := 6, slots := #[.null, .int 4, .int 0, .int 0, .int 1, .null], vm := .none },
  { cls := 6, slots := #[.null, .int 5, .int 0, .int 0, .int 1, .null], vm := .none },
  { cls := 6, slots := #[.null, .int 6, .int 0, .int 0, .int 0, .null], vm := .none },
  { cls := 6, slots := #[.null, .int 7, .int 0, .int 0, .int 1, .null], vm := .none },
  { cls := 6, slots := #[.null, .int 8, .int 0, .int 0, .int 1, .null], vm := .none },
  { cls := 6, slots := #[.null, .int 9, .int 0, .int 0, .int 0, .null], vm := .none },
  { cls := 6, slots := #[.null, .int 10, .int 0, .int 0, .int 0, .null], vm := .none }]
def classes : Array Class := #[k0, k1, k2, k3, k4, k5, k6, k7, k8, k9, k10, k11]
def interned : List (Array UInt16 × Addr) := []
def slotsUsed : Nat := 78
def theMethod : MethodId := ⟨1, 2⟩
def args0 : Array Value := #[.int 5, .int 5, .int 5]
def aboutOver (below : List Frame) : State where
  vm := { classes := classes, interned := interned.toArray }
  heap := heap
  slotsUsed := slotsUsed
  threads := #[{ frames := .invoking theMethod args0 :: below }]
def below0 : List Frame := [.native { method := ⟨0, 0⟩, args := #[] }]
def about1 : State := aboutOver below0
def p0 : Program := .bare "" "" ""
def e0 : Env := launch0.env 0 0 0
theorem w_frames : about1.frames = Frame.invoking theMethod args0 :: below0 := rfl
set_option maxRecDepth 65536 in
theorem w_args : argsFit about1.vm theMethod args0 = true := by decide +kernel
set_option maxRecDepth 65536 in
theorem w_heap : heapFits about1 = true := by decide +kernel
set_option maxRecDepth 65536 in
theorem w_runnable : about1.curStatus? = some .runnable := by decide +kernel
set_option maxRecDepth 65536 in
theorem w_alone : about1.alone = true := by decide +kernel
set_option maxRecDepth 65536 in
theorem w_named : about1.methodNamed? x = some theMethod := by decide +kernel
set_option maxRecDepth 65536 in
theorem w_hears : about1.hears theMethod below0 = true := by decide +kernel
set_option maxRecDepth 65536 in
theorem w_ripe : about1.ripe theMethod args0 below0 = true := by decide +kernel
theorem w_running : about1.status = .running := rfl
set_option maxRecDepth 65536 in
theorem w_room : about1.hasRoom e0.platform room_1 = true :=
  launch0.hasRoom_least _ room_1 (by decide +kernel) (by decide +kernel) (by decide +kernel) (by decide +kernel) (by decide +kernel) (by decide +kernel)
theorem allAtoms_all (ts : List Jvm.Cond) (a : Array Jvm.Value) (st : Jvm.State) : (allAtoms ts).before a st = ts.all (fun c => c.before a st) := by
  induction ts with
  | nil => rfl
  | cons c t ih =>
    show (Jvm.Cond.and c (allAtoms t)).before a st = _
    rw [Jvm.Cond.before_and, ih, List.all_cons]
def words1 : List Jvm.Cond := Jvm.Cond.code x code maxLocals ret :: tables_1
/-- a 'code' word, met by the world's own term for the bytes: nothing is compared byte by byte -/
theorem code_word {y : MethodName} {bytes : ByteArray} {mx : Nat} {rt : Option FieldType} {a : Array Value} {s : State} {m : MethodId} {meth : Method} {c : Code} (h1 : s.methodNamed? y = some m) (h2 : s.vm.method? m = some meth) (h3 : meth.code = some c) (h4 : c.code = bytes)
    (h5 : (c.maxLocals == mx && c.exceptionTable.isEmpty && decide (c.maxStack ≤ mostOperands) && decide (meth.sig.returnType = rt) && !meth.locks && decide (parseMethodDescriptor y.desc = some meth.sig)) = true) : (Jvm.Cond.code y bytes mx rt).before a s = true := by
  simp only [Bool.and_eq_true, beq_iff_eq, Bool.not_eq_true', decide_eq_true_eq] at h5
  obtain ⟨⟨⟨⟨⟨g1, g2⟩, g3⟩, g4⟩, g5⟩, g6⟩ := h5
  simp [Cond.before, Cond.holds, Cond.value, h1, h2, h3, h4, g1, g2, g3, g4, g5, g6]
def isCode : Jvm.Cond → Bool
  | .code _ _ _ _ => true
  | _ => false
theorem all_split {L : List Jvm.Cond} {P : Jvm.Cond → Bool} (h1 : L.all (fun c => isCode c || P c) = true) (h2 : ∀ c ∈ L.filter isCode, P c = true) : L.all P = true := by
  refine List.all_eq_true.mpr fun c hc => ?_
  have h := List.all_eq_true.mp h1 c hc
  rcases Bool.eq_false_or_eq_true (isCode c) with hi | hi
  · exact h2 c (List.mem_filter.mpr ⟨hc, hi⟩)
  · simpa [hi] using h
set_option maxRecDepth 65536 in
theorem w_c0 : (Jvm.Cond.code x code maxLocals ret).before args0 about1 = true := code_word (m := ⟨1, 2⟩) (meth := k1m2) (c := k1c2) (by decide +kernel) rfl rfl rfl (by decide +kernel)
set_option maxRecDepth 65536 in
theorem w_c1 : (Jvm.Cond.code ({ cls := "com/example/evenkeel/evenkeel/ApiSupportsPinLaw", name := "pick", desc := "(I)Lcom/example/evenkeel/evenkeel/Api;" } : Jvm.MethodName) method_2_code (1 : Nat) (Option.some (Jvm.ClassFile.FieldType.object "com/example/evenkeel/evenkeel/Api"))).before args0 about1 = true := code_word (m := ⟨1, 1⟩) (meth := k1m1) (c := k1c1) (by decide +kernel) rfl rfl rfl (by decide +kernel)
set_option maxRecDepth 65536 in
theorem w_c2 : (Jvm.Cond.code ({ cls := "com/example/evenkeel/evenkeel/Api", name := "supports", desc := "(S)Z" } : Jvm.MethodName) prog_1_method_6_code (2 : Nat) (Option.some Jvm.ClassFile.FieldType.boolean)).before args0 about1 = true := code_word (m := ⟨6, 0⟩) (meth := k6m0) (c := k6c0) (by decide +kernel) rfl rfl rfl (by decide +kernel)
def codes1 : List Jvm.Cond := [Jvm.Cond.code x code maxLocals ret, Jvm.Cond.code ({ cls := "com/example/evenkeel/evenkeel/ApiSupportsPinLaw", name := "pick", desc := "(I)Lcom/example/evenkeel/evenkeel/Api;" } : Jvm.MethodName) method_2_code (1 : Nat) (Option.some (Jvm.ClassFile.FieldType.object "com/example/evenkeel/evenkeel/Api")), Jvm.Cond.code ({ cls := "com/example/evenkeel/evenkeel/Api", name := "supports", desc := "(S)Z" } : Jvm.MethodName) prog_1_method_6_code (2 : Nat) (Option.some Jvm.ClassFile.FieldType.boolean)]
set_option maxRecDepth 65536 in
theorem codes_eq : words1.filter isCode = codes1 := rfl
theorem w_codes : ∀ c ∈ words1.filter isCode, c.before args0 about1 = true := by
  rw [codes_eq]
  intro c hc
  simp only [codes1, List.mem_cons, List.not_mem_nil, or_false] at hc
  rcases hc with rfl | rfl | rfl
  · exact w_c0
  · exact w_c1
  · exact w_c2
set_option maxRecDepth 65536 in
theorem w_t1 : (words1.take 24).all (fun c => isCode c || c.before args0 about1) = true := by decide +kernel
set_option maxRecDepth 65536 in
theorem w_t2 : (words1.drop 24).all (fun c => isCode c || c.before args0 about1) = true := by decide +kernel
theorem w_tables : (allAtoms (Jvm.Cond.code x code maxLocals ret :: tables_1)).before args0 about1 = true := by
  rw [allAtoms_all]
  show words1.all (fun c => c.before args0 about1) = true
  refine all_split ?_ w_codes
  rw [← List.take_append_drop 24 words1, List.all_append, w_t1, w_t2]
  rfl
set_option maxRecDepth 65536 in
theorem w_case : (Jvm.Cond.and given_1 narrow_1).before args0 about1 = true := by decide +kernel
theorem w_applies : (headSpec (Jvm.Cond.code x code maxLocals ret :: tables_1) room_1).applies x e0.platform about1 = true :=
  (Spec.applies_iff w_frames).mpr ⟨w_running, w_runnable, w_alone, w_named, w_hears, w_ripe, w_room, w_tables⟩
theorem atStart : AtStart classFile x code maxLocals ret World_1 tables_1 room_1 Calls_1 rest_1 Pre_1 launch0 p0 e0 about1 theMethod args0 below0 :=
  ⟨lists_1, trivial, launch0.admits_env _ _ _, launch0.least_env, fairChoices_fair.cas, fairChoices_fair.clock, w_frames, w_args, w_heap, w_applies, trivial, trivial, w_case⟩
end start1
theorem witness_1 : WitnessClaimed_1 := ⟨start1.p0, start1.e0, start1.about1, start1.theMethod, start1.args0, start1.below0, start1.atStart⟩
end Jvm.Pilot.@@N@@
